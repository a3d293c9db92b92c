/- Byte slices that a call owns and appends to; what such a call leaves. For every program. -/
import Derived.WalkKit
import Derived.ProofKit
import Derived.Lib.Hide
import Derived.Lib.ConvBytes
import Derived.Deep.AppendSrc
import Derived.Deep.Upon
import Derived.Deep.MidRow
namespace Go.Proofs.YtlgmdcaoogiooaaGreatDoor
open Go.RowKit

/-- A byte, as a cell holds it. -/
def B (c : UInt8) : Value := .int .u8 (c.toNat : Int)

/-- Tests on bytes, as the walk spells them. -/
theorem u8_ne {c d : UInt8} (h : c ≠ d) : (((c.toNat : Nat) : Int) == ((d.toNat : Nat) : Int)) = false := by
  rw [beq_eq_false_iff_ne]
  intro e
  exact h (UInt8.toNat_inj.1 (by omega))

theorem and1_fin : ∀ n : Fin 256, (bits .andNot .u8 ((n.val : Nat) : Int) 1 == 168) = (n.val == 168 || n.val == 169) := by decide +kernel

theorem and1_168 (c : UInt8) (h : ¬ (c = 168 ∨ c = 169)) : (bits .andNot .u8 ((c.toNat : Nat) : Int) 1 == 168) = false := by
  have := and1_fin ⟨c.toNat, c.toNat_lt⟩
  simp only at this
  rw [this]
  have h1 : c.toNat ≠ 168 := fun e => h (.inl (UInt8.toNat_inj.1 e))
  have h2 : c.toNat ≠ 169 := fun e => h (.inr (UInt8.toNat_inj.1 e))
  simp [h1, h2]

/-- The types '[]byte' and 'byte' of a program. -/
structure U8 (P : Program) (t e : TypeId) : Prop where
  und : P.underlying t = some (.slice e)
  ele : P.underlying e = some (.int .u8)
  inf : (P.info? e).map (fun i => (i.zero, i.size, i.bytes)) = some (some (.int .u8 0), 1, 1)

theorem B_one (l : List UInt8) : ∀ u ∈ l.map B, u.oneCell' = true := by
  intro u hu
  obtain ⟨_, _, rfl⟩ := List.mem_map.1 hu
  rfl

/-- Where a slice lies. -/
def baseOf : Value → Option Addr
  | .slice a _ _ => a
  | _ => none

/-- The slice v may be appended to, and holds l. -/
def Own (w : World) (v : Value) (l : List UInt8) : Prop :=
  (v = .slice none 0 0 ∧ l = []) ∨
  ∃ g off cap, v = .slice (some ⟨g, off, none⟩) l.length cap ∧ l.length ≤ cap ∧ cap ≤ maxLen ∧ g < w.heap.size ∧
    (∀ j, j < l.length → w.cell? ⟨g, off + j, none⟩ = (l.map B)[j]?) ∧
    (∀ j, j < cap → (w.cell? ⟨g, off + j, none⟩).isSome = true ∧ w.frozen? ⟨g, off + j, none⟩ = false)

/-- From w0 on new blocks were made, and v's row was written from v's place on; nothing else. -/
structure Kept (w0 w : World) (v : Value) : Prop where
  os : w.os = w0.os
  tape : w.tape = w0.tape
  output : w.output = w0.output
  size : w0.heap.size ≤ w.heap.size
  block : ∀ k, k < w0.heap.size → (∀ a, baseOf v = some a → a.block ≠ k) → w.heap[k]? = w0.heap[k]?
  low : ∀ a, baseOf v = some a → a.block < w0.heap.size → ∀ o, o < a.off → w.cell? ⟨a.block, o, none⟩ = w0.cell? ⟨a.block, o, none⟩

/-- v1 lies where v0 lay, or in a block that w0 had not. -/
def At (w0 : World) (v0 v1 : Value) : Prop := baseOf v1 = baseOf v0 ∨ ∀ a, baseOf v1 = some a → w0.heap.size ≤ a.block

theorem Kept.refl (w : World) (v : Value) : Kept w w v := ⟨rfl, rfl, rfl, Nat.le_refl _, fun _ _ _ => rfl, fun _ _ _ _ _ => rfl⟩

theorem cell_of_heap {w w' : World} {k : Nat} (h : w'.heap[k]? = w.heap[k]?) (o : Nat) : w'.cell? ⟨k, o, none⟩ = w.cell? ⟨k, o, none⟩ :=
  World.cell?_of_block (a := ⟨k, o, none⟩) h

theorem At.refl (w : World) (v : Value) : At w v v := .inl rfl

theorem At.trans {w0 w1 : World} {v0 v1 v2 : Value} (h : At w0 v0 v1) (hs : w0.heap.size ≤ w1.heap.size) (k : At w1 v1 v2) : At w0 v0 v2 := by
  rcases k with k | k
  · rcases h with h | h
    · exact .inl (k.trans h)
    · exact .inr (fun a ha => h a (k ▸ ha))
  · exact .inr (fun a ha => Nat.le_trans hs (k a ha))

theorem Kept.trans {w0 w1 w2 : World} {v0 v1 : Value} (h : Kept w0 w1 v0) (ha : At w0 v0 v1) (k : Kept w1 w2 v1) : Kept w0 w2 v0 := by
  refine ⟨k.os.trans h.os, k.tape.trans h.tape, k.output.trans h.output, Nat.le_trans h.size k.size, fun i hi hne => ?_, fun a hb hlt o ho => ?_⟩
  · refine (k.block i (Nat.lt_of_lt_of_le hi h.size) (fun a hb => ?_)).trans (h.block i hi hne)
    rcases ha with ha | ha
    · exact hne a (ha ▸ hb)
    · have := ha a hb; omega
  · rcases ha with ha | ha
    · exact (k.low a (ha.trans hb) (Nat.lt_of_lt_of_le hlt h.size) o ho).trans (h.low a hb hlt o ho)
    · refine (cell_of_heap (k.block a.block (Nat.lt_of_lt_of_le hlt h.size) (fun a' hb' => ?_)) o).trans (h.low a hb hlt o ho)
      have := ha a' hb'; omega

theorem Kept.alloc {w0 w : World} {v : Value} (h : Kept w0 w v) (o : Obj) : Kept w0 (w.alloc o) v :=
  ⟨h.os, h.tape, h.output, by have := h.size; simp; omega, fun k hk hne => (Below.heap_alloc w o k (Nat.lt_of_lt_of_le hk h.size)).trans (h.block k hk hne),
    fun a hb hlt o' ho => (cell_of_heap (Below.heap_alloc w o a.block (Nat.lt_of_lt_of_le hlt h.size)) o').trans (h.low a hb hlt o' ho)⟩

theorem Kept.drew {w0 w : World} {v : Value} (h : Kept w0 w v) : Kept w0 w.drew v := ⟨h.os, h.tape, h.output, h.size, h.block, h.low⟩

theorem Kept.cell {w0 w : World} {v : Value} (h : Kept w0 w v) {k o : Nat} (hk : k < w0.heap.size) (hne : ∀ a, baseOf v = some a → a.block ≠ k) : w.cell? ⟨k, o, none⟩ = w0.cell? ⟨k, o, none⟩ :=
  cell_of_heap (h.block k hk hne) o

theorem Kept.below {w0 w : World} {v : Value} {n : Nat} (h : Kept w0 w v) (hn : n ≤ w0.heap.size) (hv : ∀ a, baseOf v = some a → n ≤ a.block) : Below n w0 w :=
  ⟨h.os, h.tape, h.output, h.size, fun k hk => h.block k (Nat.lt_of_lt_of_le hk hn) (fun a ha => by have := hv a ha; omega)⟩

theorem Own.of_heap {w w' : World} {v : Value} {l : List UInt8} (h : Own w v l) (hs : w.heap.size ≤ w'.heap.size) (hb : ∀ k, k < w.heap.size → baseOf v = some ⟨k, 0, none⟩ ∨ (∃ o, baseOf v = some ⟨k, o, none⟩) → w'.heap[k]? = w.heap[k]?) : Own w' v l := by
  rcases h with h | ⟨g, off, cap, rfl, h1, h2, h3, h4, h5⟩
  · exact .inl h
  · have e := hb g h3 (.inr ⟨off, rfl⟩)
    refine .inr ⟨g, off, cap, rfl, h1, h2, Nat.lt_of_lt_of_le h3 hs, fun j hj => (cell_of_heap e _).trans (h4 j hj), fun j hj => ?_⟩
    rw [cell_of_heap e, World.frozen?_of_block (a := ⟨g, off + j, none⟩) e]
    exact h5 j hj

theorem Own.alloc {w : World} {v : Value} {l : List UInt8} (h : Own w v l) (o : Obj) : Own (w.alloc o) v l :=
  h.of_heap (by simp) (fun k hk _ => Below.heap_alloc w o k hk)

theorem Own.drew {w : World} {v : Value} {l : List UInt8} (h : Own w v l) : Own w.drew v l := h.of_heap (Nat.le_refl _) (fun _ _ _ => rfl)

theorem Own.lt {w : World} {v : Value} {l : List UInt8} (h : Own w v l) : ∀ a, baseOf v = some a → a.block < w.heap.size := by
  intro a ha
  rcases h with ⟨rfl, _⟩ | ⟨g, off, cap, rfl, _, _, h3, _⟩
  · simp [baseOf] at ha
  · simp [baseOf] at ha; subst ha; exact h3

theorem Own.len {w : World} {v : Value} {l : List UInt8} (h : Own w v l) : l.length ≤ maxLen := by
  rcases h with ⟨_, rfl⟩ | ⟨g, off, cap, _, h1, h2, _⟩
  · simp [maxLen]
  · omega

theorem size_setCells (b : Nat) : ∀ (vs : List Value) (o : Nat) (w : World), (w.setCells b o vs).heap.size = w.heap.size
  | [], _, _ => rfl
  | v :: vs, o, w => by rw [World.setCells, size_setCells b vs]; simp [World.setCell]

theorem tape_setCells (b : Nat) : ∀ (vs : List Value) (o : Nat) (w : World), (w.setCells b o vs).tape = w.tape
  | [], _, _ => rfl
  | v :: vs, o, w => by rw [World.setCells, tape_setCells b vs]; rfl

/-- The two arms of 'append' under one name. -/
theorem run_app {P : Program} {t e : TypeId} (U : U8 P t e) {w : World} {v : Value} {l : List UInt8} (h : Own w v l) {tx : TypeId} {x : Value} {m : List UInt8}
    (hs : Src P 1 tx x m.length (m.map B) w) (ty : TypeId) (hb : l.length + m.length ≤ 1099511627776) :
    ∃ v' w', (Builtin.append_ #[t, tx] ty #[v, x]).run P w = .ok v' w' ∧ Own w' v' (l ++ m) ∧ Kept w w' v ∧ At w v v' := by
  obtain ⟨i, hi, hz, hsz, hby⟩ := info_parts U.inf
  have hs' : Src P i.size tx x m.length (m.map B) w := by rw [hsz]; exact hs
  -- a new row
  have grow : ∀ (bs : Option Addr) (sc : Nat), v = .slice bs l.length sc → sc < l.length + m.length →
      (Builtin.firstCells i.size l.length (.slice bs l.length sc)).run P w.drew = .ok (l.map B).toArray w.drew →
      ∃ v' w', (Builtin.append_ #[t, tx] ty #[v, x]).run P w = .ok v' w' ∧ Own w' v' (l ++ m) ∧ Kept w w' v ∧ At w v v' := by
    rintro bs sc rfl hg hold
    have hrun := run_append_grow_src (P := P) w t tx ty e i (.int .u8 0) U.und hi hz bs l.length sc (l.map B) hold x m.length (m.map B) hs' hg (by omega) (growslice_fits hg (by rw [hby]; omega))
    have hge := grownCap_ge w (l.length + m.length) sc e
    have hcm := grownCap_le_maxLen w (l.length + m.length) sc e (by unfold maxLen; omega)
    have hsize : (((l.map B) ++ (m.map B)).toArray ++ Builtin.zeroCells (Value.int .u8 0).cells (grownCap w (l.length + m.length) sc e - (l.length + m.length))).size = grownCap w (l.length + m.length) sc e := by
      rw [Array.size_append, size_zeroCells]
      simp [Value.cells]
      omega
    refine ⟨_, _, hrun, .inr ⟨w.heap.size, 0, _, by rw [List.length_append], by rw [List.length_append]; exact hge, hcm, by simp, fun j hj => ?_, fun j hj => ⟨?_, World.frozen?_alloc_new w.drew _ _ _⟩⟩, ?_, .inr (fun a ha => ?_)⟩
    · rw [Nat.zero_add]
      refine (World.cell?_alloc_new w.drew _ _ j).trans ?_
      rw [Array.getElem?_append_left (by simp at hj ⊢; omega), List.getElem?_toArray, List.map_append]
    · rw [Nat.zero_add]
      have e1 := World.cell?_alloc_new w.drew (((l.map B) ++ (m.map B)).toArray ++ Builtin.zeroCells (Value.int .u8 0).cells (grownCap w (l.length + m.length) sc e - (l.length + m.length))) e j
      refine Eq.trans (congrArg Option.isSome e1) ?_
      rw [Array.getElem?_eq_getElem (by rw [hsize]; exact hj)]
      rfl
    · exact ⟨rfl, rfl, rfl, by simp, fun k hk _ => Below.heap_alloc w.drew _ k hk, fun a _ hlt o _ => cell_of_heap (Below.heap_alloc w.drew _ a.block hlt) o⟩
    · simp [baseOf] at ha
      subst ha
      exact Nat.le_refl _
  rcases h with ⟨rfl, rfl⟩ | ⟨g, off, cap, rfl, h1, h2, h3, h4, h5⟩
  · by_cases hm : m.length = 0
    · obtain rfl : m = [] := List.eq_nil_of_length_eq_zero hm
      exact ⟨_, _, run_append_nothing (P := P) w t tx ty e i U.und hi none 0 0 (Nat.le_refl _) x hs', .inl ⟨rfl, rfl⟩, Kept.refl _ _, At.refl _ _⟩
    · exact grow none 0 rfl (by simp; omega) (run_firstCells_none w.drew i.size 0 0 0)
  · by_cases hroom : l.length + m.length ≤ cap
    · have hsome : ∀ j, j < (m.map B).length → (w.cell? ⟨g, off + l.length * i.size + j, none⟩).isSome = true := fun j hj => by
        rw [hsz, Nat.mul_one, Nat.add_assoc]; exact (h5 _ (by simp at hj; omega)).1
      have hrun := run_append_room_src (P := P) w t tx ty e i U.und hi g off l.length cap x m.length (m.map B) hs' hroom hsome
        (fun j hj => by rw [hsz, Nat.mul_one, Nat.add_assoc]; exact (h5 _ (by simp at hj; omega)).2)
      refine ⟨_, _, hrun, .inr ⟨g, off, cap, by rw [List.length_append], by rw [List.length_append]; exact hroom, h2, by rw [size_setCells]; exact h3, fun j hj => ?_, fun j hj => ⟨?_, ?_⟩⟩, ?_, .inl rfl⟩
      · by_cases hjl : j < l.length
        · rw [World.cell?_setCells_out g _ _ _ _ (fun _ _ => Or.inl (by show off + j < off + l.length * i.size; rw [hsz]; omega)), List.map_append, List.getElem?_append_left (by simpa using hjl)]
          exact h4 j hjl
        · have ht' : j - l.length < (m.map B).length := by simp at hj ⊢; omega
          have := World.cell?_setCells_in g (m.map B) (off + l.length * i.size) w hsome (j - l.length) ht'
          rw [hsz, Nat.mul_one, show off + l.length + (j - l.length) = off + j by omega] at this
          rw [hsz, Nat.mul_one, this, List.map_append, List.getElem?_append_right (by simp; omega), List.getElem?_eq_getElem (by simpa using ht')]
          simp
      · exact World.isSome_setCells g _ _ _ _ (h5 j hj).1
      · rw [World.frozen?_setCells]; exact (h5 j hj).2
      · refine ⟨World.os_setCells _ _ _ _, tape_setCells _ _ _ _, World.output_setCells _ _ _ _, by rw [size_setCells]; exact Nat.le_refl _, fun k hk hne => World.heap_setCells_other w g _ _ hk (fun e => hne _ rfl e.symm), fun a ha hlt o ho => ?_⟩
        simp [baseOf] at ha
        subst ha
        exact World.cell?_setCells_out g _ _ _ _ (fun _ _ => Or.inl (by show o < off + l.length * i.size; have : o < off := ho; omega))
    · refine grow (some ⟨g, off, none⟩) cap rfl (by omega) ?_
      have := run_firstCells_some (P := P) w.drew i.size l.length ⟨g, off, none⟩ l.length cap (l.map B) (by rw [hsz]; simp) (fun j u hu => by
        rw [Addr.add_lit]
        have hj : j < l.length := by simpa using (List.getElem?_eq_some_iff.1 hu).1
        exact (h4 j hj).trans hu)
      exact this

/-- What has been appended since (w0, v0). -/
structure AppTo (w0 : World) (v0 : Value) (w : World) (v : Value) (l : List UInt8) : Prop where
  own : Own w v l
  kept : Kept w0 w v0
  pos : At w0 v0 v

theorem AppTo.refl {w : World} {v : Value} {l : List UInt8} (h : Own w v l) : AppTo w v w v l := ⟨h, Kept.refl _ _, At.refl _ _⟩

theorem AppTo.trans {w0 w1 w2 : World} {v0 v1 v2 : Value} {l l' : List UInt8} (h : AppTo w0 v0 w1 v1 l) (k : AppTo w1 v1 w2 v2 l') : AppTo w0 v0 w2 v2 l' :=
  ⟨k.own, h.kept.trans h.pos k.kept, h.pos.trans h.kept.size k.pos⟩

theorem AppTo.alloc {w0 w : World} {v0 v : Value} {l : List UInt8} (h : AppTo w0 v0 w v l) (o : Obj) : AppTo w0 v0 (w.alloc o) v l := ⟨h.own.alloc o, h.kept.alloc o, h.pos⟩

theorem AppTo.drew {w0 w : World} {v0 v : Value} {l : List UInt8} (h : AppTo w0 v0 w v l) : AppTo w0 v0 w.drew v l := ⟨h.own.drew, h.kept.drew, h.pos⟩

theorem AppTo.cell {w0 w : World} {v0 v : Value} {l : List UInt8} (h : AppTo w0 v0 w v l) {k : Nat} (o : Nat) (hk : k < w0.heap.size) (hne : ∀ a, baseOf v0 = some a → a.block ≠ k) : w.cell? ⟨k, o, none⟩ = w0.cell? ⟨k, o, none⟩ :=
  h.kept.cell hk hne

/-- An operation whose guard says yes and whose run is known. -/
theorem wpList_run {P : Program} {w w' : World} {ops : Array Oper} {rest : List Oper} {o : Oper} {a : Act} {Q : Exit → Act → World → Prop} {v : Value} (hw : Region.wanted o (yielded ops a.tmps) = true)
    (hrun : (execOp a.eval o).run P w = .ok (.value v) w') (h : wpList P ops Q rest (a.put o.dst v) w') : wpList P ops Q (o :: rest) a w :=
  wpList_step fun K hK => by
    rw [if_pos hw]
    unfold Oper.wp
    rw [hrun]
    exact hK _ _ h

/-- 'append', for the walk. -/
theorem wpList_app {P : Program} {t e : TypeId} (U : U8 P t e) {w : World} {ops : Array Oper} {rest : List Oper} {o : Oper} {a : Act} {Q : Exit → Act → World → Prop} (hw : Region.wanted o (yielded ops a.tmps) = true) (s x : Operand) (tx : TypeId)
    (ho : o.op = .call { callee := .builtin .append, args := #[s, x], argTypes := #[t, tx] })
    {w0 : World} {v0 v : Value} {l : List UInt8} (h : AppTo w0 v0 w v l) (hv : a.eval s = v) {xv : Value} (m : List UInt8) (hx : a.eval x = xv) (hs : Src P 1 tx xv m.length (m.map B) w)
    (hb : l.length + m.length ≤ 1099511627776)
    (hK : ∀ v' w', AppTo w0 v0 w' v' (l ++ m) → wpList P ops Q rest (a.put o.dst v') w') : wpList P ops Q (o :: rest) a w := by
  obtain ⟨v', w', hrun, r1, r2, r3⟩ := run_app U h.own hs o.type hb
  exact wpList_run hw (by simp [execOp, ho, resolve, invoke, builtin, hv, hx, hrun, Result.andThen]) (hK v' w' (h.trans ⟨r1, r2, r3⟩))

/-- 'append', as one step of a region that draws its order. -/
theorem step_app {P : Program} {t e : TypeId} (U : U8 P t e) {w : World} {ops : Array Oper} {o : Oper} {a : Act} {K : Act → World → Prop} {Q : Exit → Act → World → Prop} {E : Prop} (hgd : o.guard = none) (s x : Operand) (tx : TypeId)
    (ho : o.op = .call { callee := .builtin .append, args := #[s, x], argTypes := #[t, tx] })
    {w0 : World} {v0 v : Value} {l : List UInt8} (h : AppTo w0 v0 w v l) (hv : a.eval s = v) {xv : Value} (m : List UInt8) (hx : a.eval x = xv) (hs : Src P 1 tx xv m.length (m.map B) w)
    (hb : l.length + m.length ≤ 1099511627776)
    (hK : ∀ v' w', AppTo w0 v0 w' v' (l ++ m) → K (a.put o.dst v') w') : if Region.wanted o (yielded ops a.tmps) = true then Oper.wp P o a w K Q else E := by
  have hw : Region.wanted o (yielded ops a.tmps) = true := by simp [Region.wanted, hgd]
  rw [if_pos hw]
  obtain ⟨v', w', hrun, r1, r2, r3⟩ := run_app U h.own hs o.type hb
  unfold Oper.wp
  simp [execOp, ho, resolve, invoke, builtin, hv, hx, hrun, Result.andThen]
  exact hK v' w' (h.trans ⟨r1, r2, r3⟩)

/-- Cells that hold bytes. -/
def Bytes (w : World) (b off : Nat) (l : List UInt8) : Prop := ∀ j, j < l.length → w.cell? ⟨b, off + j, none⟩ = (l.map B)[j]?

theorem Bytes.src {P : Program} {t e : TypeId} (U : U8 P t e) {w : World} {b off : Nat} {l : List UInt8} (h : Bytes w b off l) (c : Nat) : Src P 1 t (.slice (some ⟨b, off, none⟩) l.length c) l.length (l.map B) w :=
  Src.ofSlice w U.und _ _ _ _ (by simp) (fun j u hu => by
    rw [Addr.add_lit]
    have hj : j < l.length := by simpa using (List.getElem?_eq_some_iff.1 hu).1
    exact (h j hj).trans hu) (B_one l)

theorem Bytes.sub {w : World} {b off : Nat} {l : List UInt8} (h : Bytes w b off l) (i n : Nat) : Bytes w b (off + i) ((l.drop i).take n) := fun j hj => by
  have hj' : j < n ∧ i + j < l.length := by simp at hj; omega
  rw [Nat.add_assoc, h (i + j) hj'.2]
  simp [List.getElem?_drop, hj'.1]

/-- A part of such cells, as a slice expression leaves it (at the very end of the row the address stays). -/
theorem Bytes.src_sub {P : Program} {t e : TypeId} (U : U8 P t e) {w : World} {b off : Nat} {l : List UInt8} (h : Bytes w b off l) (cap st n c : Nat) (hl : l.length ≤ cap) (hn : st + n ≤ l.length) :
    Src P 1 t (.slice (if cap = st then some ⟨b, off, none⟩ else some ⟨b, off + st, none⟩) n c) ((l.drop st).take n).length (((l.drop st).take n).map B) w := by
  have hlen : ((l.drop st).take n).length = n := by simp; omega
  rw [hlen]
  by_cases hc : cap = st
  · obtain rfl : n = 0 := by omega
    rw [if_pos hc]
    exact Src.ofSlice w U.und _ _ _ _ (by simp) (fun j u hu => by simp at hu) (B_one _)
  · rw [if_neg hc]
    have := (h.sub st n).src U c
    rw [hlen] at this
    exact this

theorem Bytes.src_sub0 {P : Program} {t e : TypeId} (U : U8 P t e) {w : World} {b : Nat} {l : List UInt8} (h : Bytes w b 0 l) (cap st n c : Nat) (hl : l.length ≤ cap) (hn : st + n ≤ l.length) :
    Src P 1 t (.slice (if cap = st then some ⟨b, 0, none⟩ else some ⟨b, st, none⟩) n c) ((l.drop st).take n).length (((l.drop st).take n).map B) w := by
  have := h.src_sub U cap st n c hl hn
  rwa [Nat.zero_add] at this

/-- .. at a place that is not the very end. -/
theorem Bytes.src_in {P : Program} {t e : TypeId} (U : U8 P t e) {w : World} {b off : Nat} {l : List UInt8} (h : Bytes w b off l) (st n c : Nat) (hn : st + n ≤ l.length) :
    Src P 1 t (.slice (some ⟨b, off + st, none⟩) n c) ((l.drop st).take n).length (((l.drop st).take n).map B) w := by
  have hlen : ((l.drop st).take n).length = n := by simp; omega
  have := (h.sub st n).src U c
  rw [hlen] at this ⊢
  exact this

theorem Bytes.src_in0 {P : Program} {t e : TypeId} (U : U8 P t e) {w : World} {b : Nat} {l : List UInt8} (h : Bytes w b 0 l) (st n c : Nat) (hn : st + n ≤ l.length) :
    Src P 1 t (.slice (some ⟨b, st, none⟩) n c) ((l.drop st).take n).length (((l.drop st).take n).map B) w := by
  have := h.src_in U st n c hn
  rwa [Nat.zero_add] at this

/-- A literal row: 'append(dst, x, y, ..)' lays its elements in a block of their own. -/
theorem src_lit {P : Program} {t e : TypeId} (U : U8 P t e) (w : World) (m : List UInt8) (C : Array Value) (hC : C.toList = m.map B) (c : Nat) :
    Src P 1 t (.slice (some ⟨w.heap.size, 0, none⟩) m.length c) m.length (m.map B) (w.alloc (.cells C e)) :=
  Bytes.src U (fun j hj => by
    rw [Nat.zero_add, World.cell?_alloc_new, ← hC, Array.getElem?_toList]) c

/-- .. out of a block that is known whole. -/
theorem src_block {P : Program} {t e : TypeId} (U : U8 P t e) {w : World} {g : Nat} {C : Array Value} {e' : TypeId} {fr : Nat × Nat} (hg : w.heap[g]? = some (.cells C e' fr)) (m : List UInt8) (hC : C.toList = m.map B) (c : Nat) :
    Src P 1 t (.slice (some ⟨g, 0, none⟩) m.length c) m.length (m.map B) w :=
  Bytes.src U (fun j hj => by
    have : (⟨g, 0 + j, none⟩ : Addr) = ⟨g, j, none⟩ := by rw [Nat.zero_add]
    rw [this]
    simp only [World.cell?, hg]
    rw [← hC]
    simp) c

theorem Bytes.heap {w w' : World} {b off : Nat} {l : List UInt8} (h : Bytes w b off l) (e : w'.heap[b]? = w.heap[b]?) : Bytes w' b off l := fun j hj => (cell_of_heap e _).trans (h j hj)

theorem Bytes.below {w w' : World} {n b off : Nat} {l : List UInt8} (h : Bytes w b off l) (hb : Below n w w') (hn : b < n) : Bytes w' b off l := h.heap (hb.block b hn)

theorem Bytes.kept {w w' : World} {v : Value} {b off : Nat} {l : List UInt8} (h : Bytes w b off l) (k : Kept w w' v) (hb : b < w.heap.size) (hne : ∀ a, baseOf v = some a → a.block ≠ b) : Bytes w' b off l := h.heap (k.block b hb hne)

theorem Bytes.at {w : World} {b off : Nat} {l : List UInt8} (h : Bytes w b off l) (j : Nat) (hj : j < l.length) : w.cell? ⟨b, off + j, none⟩ = some (.int .u8 ((l[j].toNat : Nat) : Int)) := by
  rw [h j hj]; simp [hj, B]

theorem Bytes.at0 {w : World} {b : Nat} {l : List UInt8} (h : Bytes w b 0 l) (j : Nat) (hj : j < l.length) : w.cell? ⟨b, j, none⟩ = some (.int .u8 ((l[j].toNat : Nat) : Int)) := by
  have := h.at j hj; rwa [Nat.zero_add] at this

theorem Own.bytes {w : World} {v : Value} {l : List UInt8} (h : Own w v l) : (v = .slice none 0 0 ∧ l = []) ∨ ∃ g off cap, v = .slice (some ⟨g, off, none⟩) l.length cap ∧ l.length ≤ cap ∧ g < w.heap.size ∧ Bytes w g off l := by
  rcases h with h | ⟨g, off, cap, h1, h2, _, h3, h4, _⟩
  · exact .inl h
  · exact .inr ⟨g, off, cap, h1, h2, h3, h4⟩

/-- '[]byte(s)'. -/
theorem Own.conv {w : World} {e : TypeId} {s : ByteArray} (hs : s.size ≤ maxLen) : Own (Lib.bytesWorld w e s) (.slice (some ⟨w.heap.size, 0, none⟩) s.size (grownCap w s.size 0 e)) s.data.toList := by
  have hl : s.data.toList.length = s.size := by rw [Array.length_toList]; rfl
  have hge := grownCap_ge w s.size 0 e
  refine .inr ⟨w.heap.size, 0, _, by rw [hl], by rw [hl]; exact hge, grownCap_le_maxLen _ _ _ _ hs, by rw [Lib.bytesWorld_size]; omega, fun j hj => ?_, fun j hj => ⟨?_, ?_⟩⟩
  · rw [Nat.zero_add, Lib.bytesWorld_cell w e s j (by omega)]
    rw [List.getElem?_map, List.getElem?_eq_getElem hj]
    simp [B, List.getD, List.getElem?_eq_getElem hj]
  · rw [Nat.zero_add]
    simp only [World.cell?, Lib.bytesWorld_at_new]
    have : j < (Lib.bytesCells w e s).size := by simp [Lib.bytesCells]; have : s.data.size = s.size := rfl; omega
    simp [this]
  · rw [Nat.zero_add]
    simp only [World.frozen?, Lib.bytesWorld_at_new]
    have : j < (Lib.bytesCells w e s).size := by simp [Lib.bytesCells]; have : s.data.size = s.size := rfl; omega
    simp
    omega

theorem Below.conv (w : World) (e : TypeId) (s : ByteArray) : Below w.heap.size w (Lib.bytesWorld w e s) :=
  ⟨rfl, rfl, rfl, by rw [Lib.bytesWorld_size]; omega, fun k hk => Lib.bytesWorld_at_old w e s k hk⟩

/-- '[]byte(s)', for the walk. -/
theorem wpList_conv {P : Program} {t e : TypeId} (U : U8 P t e) {w : World} {ops : Array Oper} {rest : List Oper} {o : Oper} {a : Act} {Q : Exit → Act → World → Prop} (hw : Region.wanted o (yielded ops a.tmps) = true) (x : Operand) (ts : TypeId)
    (ho : o.op = .convert ts t x) (hts : P.underlying ts = some .string) {s : ByteArray} (hx : a.eval x = .string s) (hs : s.size ≤ maxLen)
    (hK : ∀ cap w', Own w' (.slice (some ⟨w.heap.size, 0, none⟩) s.size cap) s.data.toList → Below w.heap.size w w' → w'.heap.size = w.heap.size + 1 → wpList P ops Q rest (a.put o.dst (.slice (some ⟨w.heap.size, 0, none⟩) s.size cap)) w') : wpList P ops Q (o :: rest) a w := by
  have hrun := Lib.run_convert_string_bytes (P := P) w ts t e s hts U.und U.ele
  exact wpList_run hw (by simp [execOp, ho, hx, hrun, Result.andThen]) (hK _ _ (Own.conv hs) (Below.conv w e s) (Lib.bytesWorld_size w e s))

theorem ofNums (l : List UInt8) : strOfNums (l.map fun c => ((c.toNat : Nat) : Int)) = ⟨l.toArray⟩ := by
  unfold strOfNums
  congr 2
  simp [List.map_map, Function.comp_def]

theorem Bytes.toStr {P : Program} {t e : TypeId} (U : U8 P t e) (w : World) (ts : TypeId) (hts : P.underlying ts = some .string) {b off : Nat} {l : List UInt8} (h : Bytes w b off l) (c : Nat) :
    (convert t ts (.slice (some ⟨b, off, none⟩) l.length c)).run P w = .ok (.string ⟨l.toArray⟩) w := by
  have := run_convert_bytes_arg (P := P) w t e U.und U.ele b off l.length c (l.map fun c => ((c.toNat : Nat) : Int)) (by simp) (fun i hi => by rw [h i hi]; simp [hi, B, List.getD]) ts hts
  rw [ofNums] at this
  exact this

theorem run_toString {P : Program} {t e : TypeId} (U : U8 P t e) (w : World) (ts : TypeId) (hts : P.underlying ts = some .string) {v : Value} {l : List UInt8} (h : Own w v l) :
    (convert t ts v).run P w = .ok (.string ⟨l.toArray⟩) w := by
  rcases h.bytes with ⟨rfl, rfl⟩ | ⟨g, off, cap, rfl, h1, h2, h3⟩
  · exact run_convert_bytes_nil w t e U.und U.ele 0 0 ts hts
  · exact h3.toStr U w ts hts cap

/-- 'string(b)', for the walk. -/
theorem wpList_toString {P : Program} {t e : TypeId} (U : U8 P t e) {w : World} {ops : Array Oper} {rest : List Oper} {o : Oper} {a : Act} {Q : Exit → Act → World → Prop} (hw : Region.wanted o (yielded ops a.tmps) = true) (x : Operand) (ts : TypeId)
    (ho : o.op = .convert t ts x) (hts : P.underlying ts = some .string) {v : Value} {l : List UInt8} (hx : a.eval x = v) (h : Own w v l)
    (hK : wpList P ops Q rest (a.put o.dst (.string ⟨l.toArray⟩)) w) : wpList P ops Q (o :: rest) a w := by
  have hrun := run_toString U w ts hts h
  exact wpList_run hw (by simp [execOp, ho, hx, hrun, Result.andThen]) hK

/-- 'string(b[i:j])', for the walk: S is the text. -/
theorem wpList_toStr {P : Program} {t e : TypeId} (U : U8 P t e) {w : World} {ops : Array Oper} {rest : List Oper} {o : Oper} {a : Act} {Q : Exit → Act → World → Prop} (hw : Region.wanted o (yielded ops a.tmps) = true) (x : Operand) (ts : TypeId)
    (ho : o.op = .convert t ts x) (hts : P.underlying ts = some .string) {b off n c : Nat} (hx : a.eval x = .slice (some ⟨b, off, none⟩) n c) (S : ByteArray) (hn : n = S.data.toList.length) (h : Bytes w b off S.data.toList)
    (hK : wpList P ops Q rest (a.put o.dst (.string S)) w) : wpList P ops Q (o :: rest) a w := by
  have hrun : (convert t ts (.slice (some ⟨b, off, none⟩) n c)).run P w = .ok (.string S) w := by
    rw [hn, h.toStr U w ts hts c]
  exact wpList_run hw (by simp [execOp, ho, hx, hrun, Result.andThen]) hK

theorem Own.below {w w' : World} {v : Value} {l : List UInt8} {n : Nat} (h : Own w v l) (hb : Below n w w') (hv : ∀ a, baseOf v = some a → a.block < n) : Own w' v l :=
  h.of_heap hb.size (fun k _ hk => hb.block k (by
    rcases hk with hk | ⟨o, hk⟩
    · exact hv _ hk
    · exact hv _ hk))

theorem Own.slice {w : World} {g off n cap : Nat} {l : List UInt8} (h : Own w (.slice (some ⟨g, off, none⟩) n cap) l) : n = l.length ∧ l.length ≤ cap ∧ cap ≤ maxLen ∧ g < w.heap.size ∧ Bytes w g off l := by
  rcases h with ⟨h, _⟩ | ⟨g', off', cap', h, h1, h2, h3, h4, _⟩
  · cases h
  · simp only [Value.slice.injEq, Option.some.injEq, Addr.mk.injEq, and_true] at h
    obtain ⟨⟨rfl, rfl⟩, rfl, rfl⟩ := h
    exact ⟨rfl, h1, h2, h3, h4⟩

/-- A literal row is the call's own. -/
theorem Own.lit (w : World) (e : TypeId) (C : Array Value) (m : List UInt8) (hC : C.toList = m.map B) (hm : m.length ≤ maxLen) (n c : Nat) (hn : n = m.length) (hc : c = m.length) : Own (w.alloc (.cells C e)) (.slice (some ⟨w.heap.size, 0, none⟩) n c) m := by
  subst hn hc
  have hs : C.size = m.length := by rw [← Array.length_toList, hC, List.length_map]
  refine .inr ⟨w.heap.size, 0, _, rfl, Nat.le_refl _, hm, by simp, fun j hj => ?_, fun j hj => ⟨?_, World.frozen?_alloc_new w _ _ _⟩⟩
  · rw [Nat.zero_add, World.cell?_alloc_new, ← hC, Array.getElem?_toList]
  · rw [Nat.zero_add, World.cell?_alloc_new, Array.getElem?_eq_getElem (by omega)]
    rfl

theorem Own.form {w : World} {v : Value} {l : List UInt8} (h : Own w v l) : ∃ ao cap, v = .slice ao l.length cap ∧ l.length ≤ cap := by
  rcases h with ⟨rfl, rfl⟩ | ⟨g, off, cap, rfl, h1, _⟩
  · exact ⟨_, _, rfl, Nat.le_refl _⟩
  · exact ⟨_, _, rfl, h1⟩

theorem Own.src {P : Program} {t e : TypeId} (U : U8 P t e) {w : World} {v : Value} {l : List UInt8} (h : Own w v l) : Src P 1 t v l.length (l.map B) w := by
  rcases h.bytes with ⟨rfl, rfl⟩ | ⟨g, off, cap, rfl, _, _, h3⟩
  · exact Src.ofNil w U.und 0
  · exact h3.src U cap

/-- A further call, which leaves all that was there. -/
theorem below_step {n : Nat} {w w1 w2 : World} (h : Below n w w1) (k : Below w1.heap.size w1 w2) (hn : n ≤ w.heap.size := by exact Nat.le_refl _) : Below n w w2 :=
  h.trans (k.mono (Nat.le_trans hn h.size))

/-- A cell below stays what it is. -/
theorem Below.keep {n b o : Nat} {v : Value} {w w' : World} (h : Below n w w') (hb : b < n) (hc : w.cell? ⟨b, o, none⟩ = some v) : w'.cell? ⟨b, o, none⟩ = some v :=
  (cell_of_heap (h.block b hb) o).trans hc

theorem Below.free {n b o : Nat} {w w' : World} (h : Below n w w') (hb : b < n) (hc : w.frozen? ⟨b, o, none⟩ = false) : w'.frozen? ⟨b, o, none⟩ = false :=
  (World.frozen?_of_block (a := ⟨b, o, none⟩) (h.block b hb)).trans hc

theorem data_append (a b : ByteArray) : (a ++ b).data.toList = a.data.toList ++ b.data.toList := by simp

theorem size_eq (a : ByteArray) : a.data.toList.length = a.size := by rw [Array.length_toList]; rfl

theorem bytes_ext {a b : ByteArray} (h : a.data.toList = b.data.toList) : a = b := by
  cases a; cases b
  congr 1
  exact Array.toList_inj.1 h

/-- Cells that hold texts. -/
def Strs (w : World) (b : Nat) (ss : List ByteArray) : Prop := ∀ j (h : j < ss.length), w.cell? ⟨b, j, none⟩ = some (.string ss[j])

theorem strs1 (w : World) (a : ByteArray) (T : TypeId) : Strs (w.alloc (.cells #[.string a] T)) w.heap.size [a] := by
  intro j hj
  match j, hj with
  | 0, _ => simp

theorem sizes1 {a : ByteArray} {n : Nat} (ha : a.size ≤ n) : ∀ j (h : j < [a].length), [a][j].size ≤ n := by
  intro j hj
  match j, hj with
  | 0, _ => simpa using ha

theorem strs2 (w : World) (a b : ByteArray) (T : TypeId) : Strs (w.alloc (.cells #[.string a, .string b] T)) w.heap.size [a, b] := by
  intro j hj
  match j, hj with
  | 0, _ => simp
  | 1, _ => simp

theorem sizes2 {a b : ByteArray} {n : Nat} (ha : a.size ≤ n) (hb : b.size ≤ n) : ∀ j (h : j < [a, b].length), [a, b][j].size ≤ n := by
  intro j hj
  match j, hj with
  | 0, _ => simpa using ha
  | 1, _ => simpa using hb

end Go.Proofs.YtlgmdcaoogiooaaGreatDoor
