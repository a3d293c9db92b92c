/- 'fits8': are all texts at most 1000 bytes long? -/
import Derived.Test.YtlgmdcaoogiooaaGreatDoorChecked
import Derived.Test.YtlgmdcaoogiooaaGreatDoorLib
import Derived.Test.YtlgmdcaoogiooaaGreatDoorPrs
import Derived.Test.YtlgmdcaoogiooaaGreatDoorChar
import Derived.Test.YtlgmdcaoogiooaaGreatDoorGram
import Derived.Deep.AppendSrc
namespace Go.Proofs.YtlgmdcaoogiooaaGreatDoor
open Go.RowKit

def fitsB (ss : List ByteArray) : Bool := ss.all fun s => decide (s.size ≤ 1000)

theorem fitsB_true {ss : List ByteArray} (h : ∀ j (h : j < ss.length), ss[j].size ≤ 1000) : fitsB ss = true := by
  unfold fitsB
  rw [List.all_eq_true]
  intro s hs
  obtain ⟨j, hj, rfl⟩ := List.getElem_of_mem hs
  simpa using h j hj

theorem fitsB_false {ss : List ByteArray} (k : Nat) (hk : k < ss.length) (h : 1000 < ss[k].size) : fitsB ss = false := by
  unfold fitsB
  rw [List.all_eq_false]
  exact ⟨ss[k], List.getElem_mem hk, by simpa using h⟩

set_option maxHeartbeats 400000 in
theorem fits8_any (ss : List ByteArray) (b n cap : Nat) (w : World) (hn : n = ss.length) (hl : ss.length ≤ 1000) (hc : Strs w b ss) (hm : ∀ j (h : j < ss.length), ss[j].size ≤ 9223372036854775807) :
    Calls Tryz.prog 4 #[.slice (some ⟨b, 0, none⟩) n cap] w fun e w' => e = .returned (.bool (fitsB ss)) ∧ w = w' := by
  subst hn
  have HC := Lib.hid hc
  have HM := Lib.hid hm
  clear hc hm
  go_enter Tryz.func4, Tryz.ntmps4
  go_wp2
  go_loop [7] (fun i => ∃ k : Nat, k ≤ ss.length ∧ i = .int .i64 k ∧ ∀ j (h : j < ss.length), j < k → ss[j].size ≤ 1000) (fun i => ss.length - (intOf i).toNat)
  case atStart => exact ⟨0, Nat.zero_le _, rfl, fun j _ h => absurd h (Nat.not_lt_zero _)⟩
  case round =>
    obtain ⟨k, hk, rfl, hall⟩ := hrel
    have HA := Lib.hid hall
    clear hall
    by_cases hlt : k < ss.length
    · have hck := HC.out k hlt
      have hmk := HM.out k hlt
      obtain ⟨s, hs⟩ : ∃ s, s = ss[k] := ⟨_, rfl⟩
      rw [← hs] at hck hmk
      have HS := Lib.hid hs
      clear hs
      by_cases hz : s.size ≤ 1000
      · go_wp2
        go_round
        case rel => exact ⟨k + 1, by omega, by go_num, fun j hj hjk => by
          by_cases e : j = k
          · subst e; rw [← HS.out]; exact hz
          · exact HA.out j hj (by omega)⟩
        case measure => simp [intOf]; omega
      · go_wp2
        go_ret
        exact ⟨by rw [fitsB_false k hlt (by rw [← HS.out]; omega)]; rfl, rfl⟩
    · go_wp2
      go_ret
      exact ⟨by rw [fitsB_true (fun j hj => HA.out j hj (by omega))]; rfl, rfl⟩

end Go.Proofs.YtlgmdcaoogiooaaGreatDoor

namespace Go.Proofs.YtlgmdcaoogiooaaGreatDoor
open Go.RowKit

theorem strsOne {w : World} {b : Nat} {a : ByteArray} (h : w.cell? ⟨b, 0, none⟩ = some (.string a)) : Strs w b [a] := by
  intro j hj
  have : j = 0 := by simp at hj; exact hj
  subst this
  exact h

theorem rules_ret {tmps : Array Value} {Z : World} {r : Nat} {v0 v1 : Value} (hZ : Z.heap[r]? = some (.cells #[v0, v1] 28 (0, 0))) (hp : tmps.getD 0 undef = .pointer (some ⟨r, 0, none⟩)) :
    (results Tryz.f10 tmps).run Tryz.prog Z = .ok (.agg #[v0, v1]) Z :=
  results_cell_row (p := 0) (ty := 28) rfl tmps Z r 28 #[v0, v1] (0, 0) _ hp hZ Tryz.underlying28 rfl (by kernel_rfl)

theorem oldRules_any (w : World) :
    Calls Tryz.prog 10 #[] w fun e w' => e = .returned (.agg #[.bool true, .bool true]) ∧ Below w.heap.size w w' := by
  go_enter Tryz.func10, Tryz.ntmps10
  go_wp2_with fail
  (try simp only [Exit.inBlock, Exit.then])
  refine bodyPost_ret (rules_ret (r := w.heap.size) (v0 := .bool true) (v1 := .bool true) ?_ rfl) rfl ⟨rfl, ?_⟩
  · have h0 := heap_alloc_new w (.cells #[.bool false, .bool false] 28)
    have h1 := heap_setCell_same _ w.heap.size 0 _ _ (.bool true) h0
    first
      | exact heap_setCell_same _ w.heap.size 1 _ _ (.bool true) h1
      | exact heap_alloc_new w (.cells #[.bool true, .bool true] 28)
  · exact ⟨rfl, rfl, rfl, by simp, fun k hk => by first | (rw [sc_far _ _ _ _ _ (by omega), sc_far _ _ _ _ _ (by omega), Below.heap_alloc _ _ _ hk]) | exact Below.heap_alloc _ _ _ hk⟩

end Go.Proofs.YtlgmdcaoogiooaaGreatDoor

namespace Go.Proofs.YtlgmdcaoogiooaaGreatDoor
open Go.RowKit

theorem u8m : U8 Tryz.prog 51 5 := ⟨by kernel_rfl, by kernel_rfl, by kernel_rfl⟩
theorem string9m : Tryz.prog.underlying 9 = some .string := by kernel_rfl

/-- What has been made since w. -/
structure MadeQ (w wr : World) (v : Value) (l : List UInt8) : Prop where
  own : Own wr v l
  below : Below w.heap.size w wr
  pos : ∀ a, baseOf v = some a → w.heap.size ≤ a.block

theorem MadeQ.step {w wr w1 : World} {v : Value} {l : List UInt8} (h : MadeQ w wr v l) (b : Below wr.heap.size wr w1) : MadeQ w w1 v l :=
  ⟨h.own.below b h.own.lt, below_step h.below b, h.pos⟩

theorem MadeQ.app {w wr w1 : World} {v v1 : Value} {l l' : List UInt8} (h : MadeQ w wr v l) (k : AppTo wr v w1 v1 l') : MadeQ w w1 v1 l' :=
  ⟨k.own, h.below.trans (k.kept.below h.below.size h.pos), fun a ha => by
    rcases k.pos with e | e
    · exact h.pos a (e ▸ ha)
    · exact Nat.le_trans h.below.size (e a ha)⟩

theorem src_strm {w : World} (s : ByteArray) (l : List UInt8) (hl : s.data.toList = l) : Src Tryz.prog 1 9 (.string s) l.length (l.map B) w := by
  subst hl
  have h := Src.ofString (P := Tryz.prog) (w := w) string9m s
  have e : byteCells s = s.data.toList.map B := by
    simp only [byteCells]
    rfl
  rw [e, ← size_eq] at h
  exact h

theorem extract_m (s : ByteArray) (i n : Nat) : (s.extract i (i + n)).data.toList = (s.data.toList.drop i).take n := by
  rw [ByteArray.data_extract, Array.toList_extract, List.extract_eq_take_drop, Nat.add_sub_cancel_left]

end Go.Proofs.YtlgmdcaoogiooaaGreatDoor

namespace Go.Proofs.YtlgmdcaoogiooaaGreatDoor.Ind
open Go.RowKit Go.Proofs.YtlgmdcaoogiooaaGreatDoor

/-- A new line at a depth. -/
def nlB (p i : List UInt8) (d : Int) : List UInt8 := 10 :: (p ++ (List.replicate d.toNat i).flatten)

/-- Between two bytes: whether an indent is due, how deep, what was written. -/
structure IS where
  need : Bool
  dep : Int
  out : List UInt8

def indA (p i : List UInt8) (s : IS) (v : Nat) : IS := if s.need = true ∧ v ≠ 5 ∧ v ≠ 8 then ⟨false, s.dep + 1, s.out ++ nlB p i (s.dep + 1)⟩ else s

def indB (p i : List UInt8) (s : IS) (c v : Nat) : IS :=
  if v = 0 then ⟨s.need, s.dep, s.out ++ [UInt8.ofNat c]⟩
  else if c = 123 ∨ c = 91 then ⟨true, s.dep, s.out ++ [UInt8.ofNat c]⟩
  else if c = 44 then ⟨s.need, s.dep, s.out ++ [UInt8.ofNat c] ++ nlB p i s.dep⟩
  else if c = 58 then ⟨s.need, s.dep, s.out ++ [UInt8.ofNat c, 32]⟩
  else if c = 125 ∨ c = 93 then (if s.need = true then ⟨false, s.dep, s.out ++ [UInt8.ofNat c]⟩ else ⟨s.need, s.dep - 1, s.out ++ nlB p i (s.dep - 1) ++ [UInt8.ofNat c]⟩)
  else ⟨s.need, s.dep, s.out ++ [UInt8.ofNat c]⟩

def indStep (p i : List UInt8) (s : IS) (c v : Nat) : IS := if v = 9 then s else indB p i (indA p i s v) c v

/-- What is written of the bytes, up to the first fault. -/
def indAll (p i : List UInt8) (g : Cfg) (n : Nat) (s : IS) : List UInt8 → IS
  | [] => s
  | c :: t => if (stepC g ((n + 1 : Nat) : Int) c.toNat).2 = 11 then s
    else indAll p i (stepC g ((n + 1 : Nat) : Int) c.toNat).1 (n + 1) (indStep p i s c.toNat (stepC g ((n + 1 : Nat) : Int) c.toNat).2) t

/-- After k bytes: how deep, how much. -/
structure Bnd (k : Nat) (s : IS) : Prop where
  lo : -(k : Int) ≤ s.dep
  hi : s.dep ≤ (k : Int)
  out : s.out.length ≤ k * 40000

theorem nlB_len {p i : List UInt8} {d : Int} (hp : p.length ≤ 16) (hi : i.length ≤ 16) (hd : d ≤ 1100) : (nlB p i d).length ≤ 17700 := by
  unfold nlB
  simp only [List.length_cons, List.length_append, List.length_flatten, List.map_replicate, List.sum_replicate_nat]
  have h1 : d.toNat ≤ 1100 := by omega
  have h2 : d.toNat * i.length ≤ 1100 * 16 := Nat.mul_le_mul h1 hi
  omega

theorem Bnd.start : Bnd 0 ⟨false, 0, []⟩ := ⟨by simp, by simp, by simp⟩

theorem indA_bnd {p i : List UInt8} {s : IS} {k v : Nat} (hp : p.length ≤ 16) (hi : i.length ≤ 16) (hk : k ≤ 1000) (h : Bnd k s) :
    -(k : Int) ≤ (indA p i s v).dep ∧ (indA p i s v).dep ≤ (k : Int) + 1 ∧ (indA p i s v).out.length ≤ k * 40000 + 17700 ∧ ((indA p i s v).need = true → (indA p i s v).dep ≤ (k : Int)) := by
  have h1 := h.lo
  have h2 := h.hi
  have h3 := h.out
  unfold indA
  split
  · have := nlB_len (d := s.dep + 1) hp hi (by omega)
    refine ⟨by simp only; omega, by simp only; omega, by simp only [List.length_append]; omega, fun e => (by cases e)⟩
  · exact ⟨h1, by omega, Nat.le_trans h3 (Nat.le_add_right _ _), fun _ => h2⟩

theorem indB_dep {p i : List UInt8} {s : IS} {c v : Nat} : s.dep - 1 ≤ (indB p i s c v).dep ∧ (indB p i s c v).dep ≤ s.dep := by
  unfold indB
  repeat' split
  all_goals simp only
  all_goals omega

theorem indB_len {p i : List UInt8} {s : IS} {c v : Nat} (hp : p.length ≤ 16) (hi : i.length ≤ 16) (hd : s.dep ≤ 1100) : (indB p i s c v).out.length ≤ s.out.length + 17702 := by
  have h1 := nlB_len (d := s.dep) hp hi hd
  have h2 := nlB_len (d := s.dep - 1) hp hi (by omega)
  unfold indB
  repeat' split
  all_goals simp only [List.length_append, List.length_cons, List.length_nil]
  all_goals omega

theorem indStep_bnd {p i : List UInt8} {s : IS} {k c v : Nat} (hp : p.length ≤ 16) (hi : i.length ≤ 16) (hk : k ≤ 1000) (h : Bnd k s) : Bnd (k + 1) (indStep p i s c v) := by
  obtain ⟨a1, a2, a3, _⟩ := indA_bnd (v := v) hp hi hk h
  have b1 := indB_dep (p := p) (i := i) (s := indA p i s v) (c := c) (v := v)
  have b2 := indB_len (p := p) (i := i) (s := indA p i s v) (c := c) (v := v) hp hi (by omega)
  unfold indStep
  split
  · exact ⟨by have := h.lo; omega, by have := h.hi; omega, Nat.le_trans h.out (Nat.mul_le_mul_right _ (Nat.le_succ _))⟩
  · exact ⟨by omega, by omega, by omega⟩

theorem indAll_bad {p i : List UInt8} {g : Cfg} {n : Nat} {s : IS} {c : UInt8} {t : List UInt8} {g1 : Cfg} (h : stepC g ((n : Int) + 1) c.toNat = (g1, 11)) : indAll p i g n s (c :: t) = s := by
  have e : (((n + 1 : Nat)) : Int) = (n : Int) + 1 := by omega
  show (if (stepC g ((n + 1 : Nat) : Int) c.toNat).2 = 11 then _ else _) = _
  rw [e, h]
  rfl

theorem indAll_on {p i : List UInt8} {g : Cfg} {n : Nat} {s : IS} {c : UInt8} {t : List UInt8} {g1 : Cfg} {k : Nat} (h : stepC g ((n : Int) + 1) c.toNat = (g1, k)) (hk : k ≠ 11) : indAll p i g n s (c :: t) = indAll p i g1 (n + 1) (indStep p i s c.toNat k) t := by
  have e : (((n + 1 : Nat)) : Int) = (n : Int) + 1 := by omega
  show (if (stepC g ((n + 1 : Nat) : Int) c.toNat).2 = 11 then _ else _) = _
  rw [e, h]
  exact if_neg hk

/-- Whether an indent comes ahead of a byte. -/
def dueB (s : IS) (v : Nat) : Bool := s.need && v != 5 && v != 8

theorem indA_due {p i : List UInt8} {s : IS} {v : Nat} (h : dueB s v = true) : indA p i s v = ⟨false, s.dep + 1, s.out ++ nlB p i (s.dep + 1)⟩ := by
  unfold indA
  rw [if_pos (by simpa [dueB, and_assoc] using h)]

theorem indA_not {p i : List UInt8} {s : IS} {v : Nat} (h : dueB s v = false) : indA p i s v = s := by
  unfold indA
  rw [if_neg (fun q => by simp [dueB, q] at h)]

theorem st_space {p i : List UInt8} {s : IS} {c : Nat} : indStep p i s c 9 = s := rfl

theorem st_cont {p i : List UInt8} {s : IS} {c v : Nat} (h : v = 0) : indStep p i s c v = ⟨(indA p i s v).need, (indA p i s v).dep, (indA p i s v).out ++ [UInt8.ofNat c]⟩ := by
  subst h
  rfl

theorem st_open {p i : List UInt8} {s : IS} {c v : Nat} (h9 : v ≠ 9) (h0 : v ≠ 0) (hc : c = 123 ∨ c = 91) : indStep p i s c v = ⟨true, (indA p i s v).dep, (indA p i s v).out ++ [UInt8.ofNat c]⟩ := by
  unfold indStep indB
  rw [if_neg h9, if_neg h0, if_pos hc]

theorem st_comma {p i : List UInt8} {s : IS} {c v : Nat} (h9 : v ≠ 9) (h0 : v ≠ 0) (hc : c = 44) : indStep p i s c v = ⟨(indA p i s v).need, (indA p i s v).dep, (indA p i s v).out ++ [UInt8.ofNat c] ++ nlB p i (indA p i s v).dep⟩ := by
  unfold indStep indB
  rw [if_neg h9, if_neg h0, if_neg (by omega), if_pos hc]

theorem st_colon {p i : List UInt8} {s : IS} {c v : Nat} (h9 : v ≠ 9) (h0 : v ≠ 0) (hc : c = 58) : indStep p i s c v = ⟨(indA p i s v).need, (indA p i s v).dep, (indA p i s v).out ++ [UInt8.ofNat c, 32]⟩ := by
  unfold indStep indB
  rw [if_neg h9, if_neg h0, if_neg (by omega), if_neg (by omega), if_pos hc]

theorem st_shut0 {p i : List UInt8} {s : IS} {c v : Nat} (h9 : v ≠ 9) (h0 : v ≠ 0) (hc : c = 125 ∨ c = 93) (hn : (indA p i s v).need = true) : indStep p i s c v = ⟨false, (indA p i s v).dep, (indA p i s v).out ++ [UInt8.ofNat c]⟩ := by
  unfold indStep indB
  rw [if_neg h9, if_neg h0, if_neg (by omega), if_neg (by omega), if_neg (by omega), if_pos hc, if_pos hn]

theorem st_shut {p i : List UInt8} {s : IS} {c v : Nat} (h9 : v ≠ 9) (h0 : v ≠ 0) (hc : c = 125 ∨ c = 93) (hn : (indA p i s v).need = false) : indStep p i s c v = ⟨(indA p i s v).need, (indA p i s v).dep - 1, (indA p i s v).out ++ nlB p i ((indA p i s v).dep - 1) ++ [UInt8.ofNat c]⟩ := by
  unfold indStep indB
  rw [if_neg h9, if_neg h0, if_neg (by omega), if_neg (by omega), if_neg (by omega), if_pos hc, if_neg (by rw [hn]; decide)]

theorem st_other {p i : List UInt8} {s : IS} {c v : Nat} (h9 : v ≠ 9) (h0 : v ≠ 0) (hc : c ≠ 123 ∧ c ≠ 91 ∧ c ≠ 44 ∧ c ≠ 58 ∧ c ≠ 125 ∧ c ≠ 93) : indStep p i s c v = ⟨(indA p i s v).need, (indA p i s v).dep, (indA p i s v).out ++ [UInt8.ofNat c]⟩ := by
  unfold indStep indB
  rw [if_neg h9, if_neg h0, if_neg (by omega), if_neg (by omega), if_neg (by omega), if_neg (by omega)]

end Go.Proofs.YtlgmdcaoogiooaaGreatDoor.Ind

namespace Go.Proofs.YtlgmdcaoogiooaaGreatDoor
open Go.RowKit

/-- The cells of v's row stay cells, as free as they were. -/
def Live (w0 w : World) (v : Value) : Prop := ∀ a, baseOf v = some a → a.block < w0.heap.size → ∀ o, ((w0.cell? ⟨a.block, o, none⟩).isSome = true → (w.cell? ⟨a.block, o, none⟩).isSome = true) ∧ w.frozen? ⟨a.block, o, none⟩ = w0.frozen? ⟨a.block, o, none⟩

theorem Live.refl (w : World) (v : Value) : Live w w v := fun _ _ _ _ => ⟨id, rfl⟩

theorem live_heap {w w' : World} {k : Nat} (h : w'.heap[k]? = w.heap[k]?) (o : Nat) : ((w.cell? ⟨k, o, none⟩).isSome = true → (w'.cell? ⟨k, o, none⟩).isSome = true) ∧ w'.frozen? ⟨k, o, none⟩ = w.frozen? ⟨k, o, none⟩ :=
  ⟨fun e => by rw [cell_of_heap h]; exact e, World.frozen?_of_block (a := ⟨k, o, none⟩) h⟩

/-- The two arms of 'append' under one name. -/
theorem run_appL {P : Program} {t e : TypeId} (U : U8 P t e) {w : World} {v : Value} {l : List UInt8} (h : Own w v l) {tx : TypeId} {x : Value} {m : List UInt8}
    (hs : Src P 1 tx x m.length (m.map B) w) (ty : TypeId) (hb : l.length + m.length ≤ 1099511627776) :
    ∃ v' w', (Builtin.append_ #[t, tx] ty #[v, x]).run P w = .ok v' w' ∧ Own w' v' (l ++ m) ∧ Kept w w' v ∧ At w v v' ∧ Live w w' v := by
  obtain ⟨i, hi, hz, hsz, hby⟩ := info_parts U.inf
  have hs' : Src P i.size tx x m.length (m.map B) w := by rw [hsz]; exact hs
  -- a new row
  have grow : ∀ (bs : Option Addr) (sc : Nat), v = .slice bs l.length sc → sc < l.length + m.length →
      (Builtin.firstCells i.size l.length (.slice bs l.length sc)).run P w.drew = .ok (l.map B).toArray w.drew →
      ∃ v' w', (Builtin.append_ #[t, tx] ty #[v, x]).run P w = .ok v' w' ∧ Own w' v' (l ++ m) ∧ Kept w w' v ∧ At w v v' ∧ Live w w' v := by
    rintro bs sc rfl hg hold
    have hrun := run_append_grow_src (P := P) w t tx ty e i (.int .u8 0) U.und hi hz bs l.length sc (l.map B) hold x m.length (m.map B) hs' hg (by omega) (growslice_fits hg (by rw [hby]; omega))
    have hge := grownCap_ge w (l.length + m.length) sc e
    have hcm := grownCap_le_maxLen w (l.length + m.length) sc e (by unfold maxLen; omega)
    have hsize : (((l.map B) ++ (m.map B)).toArray ++ Builtin.zeroCells (Value.int .u8 0).cells (grownCap w (l.length + m.length) sc e - (l.length + m.length))).size = grownCap w (l.length + m.length) sc e := by
      rw [Array.size_append, size_zeroCells]
      simp [Value.cells]
      omega
    refine ⟨_, _, hrun, .inr ⟨w.heap.size, 0, _, by rw [List.length_append], by rw [List.length_append]; exact hge, hcm, by simp, fun j hj => ?_, fun j hj => ⟨?_, World.frozen?_alloc_new w.drew _ _ _⟩⟩, ?_, .inr (fun a ha => ?_), ?_⟩
    · rw [Nat.zero_add]
      refine (World.cell?_alloc_new w.drew _ _ j).trans ?_
      rw [Array.getElem?_append_left (by simp at hj ⊢; omega), List.getElem?_toArray, List.map_append]
    · rw [Nat.zero_add]
      have e1 := World.cell?_alloc_new w.drew (((l.map B) ++ (m.map B)).toArray ++ Builtin.zeroCells (Value.int .u8 0).cells (grownCap w (l.length + m.length) sc e - (l.length + m.length))) e j
      refine Eq.trans (congrArg Option.isSome e1) ?_
      rw [Array.getElem?_eq_getElem (by rw [hsize]; exact hj)]
      rfl
    · exact ⟨rfl, rfl, rfl, by simp, fun k hk _ => Below.heap_alloc w.drew _ k hk, fun a _ hlt o _ => cell_of_heap (Below.heap_alloc w.drew _ a.block hlt) o⟩
    · simp [baseOf] at ha
      subst ha
      exact Nat.le_refl _
    · exact fun a _ hlt => live_heap (Below.heap_alloc w.drew _ a.block hlt)
  rcases h with ⟨rfl, rfl⟩ | ⟨g, off, cap, rfl, h1, h2, h3, h4, h5⟩
  · by_cases hm : m.length = 0
    · obtain rfl : m = [] := List.eq_nil_of_length_eq_zero hm
      exact ⟨_, _, run_append_nothing (P := P) w t tx ty e i U.und hi none 0 0 (Nat.le_refl _) x hs', .inl ⟨rfl, rfl⟩, Kept.refl _ _, At.refl _ _, Live.refl _ _⟩
    · exact grow none 0 rfl (by simp; omega) (run_firstCells_none w.drew i.size 0 0 0)
  · by_cases hroom : l.length + m.length ≤ cap
    · have hsome : ∀ j, j < (m.map B).length → (w.cell? ⟨g, off + l.length * i.size + j, none⟩).isSome = true := fun j hj => by
        rw [hsz, Nat.mul_one, Nat.add_assoc]; exact (h5 _ (by simp at hj; omega)).1
      have hrun := run_append_room_src (P := P) w t tx ty e i U.und hi g off l.length cap x m.length (m.map B) hs' hroom hsome
        (fun j hj => by rw [hsz, Nat.mul_one, Nat.add_assoc]; exact (h5 _ (by simp at hj; omega)).2)
      refine ⟨_, _, hrun, .inr ⟨g, off, cap, by rw [List.length_append], by rw [List.length_append]; exact hroom, h2, by rw [size_setCells]; exact h3, fun j hj => ?_, fun j hj => ⟨?_, ?_⟩⟩, ?_, .inl rfl, fun a _ _ o => ⟨fun h => World.isSome_setCells g _ _ _ _ h, World.frozen?_setCells _ _ _ _ _⟩⟩
      · by_cases hjl : j < l.length
        · rw [World.cell?_setCells_out g _ _ _ _ (fun _ _ => Or.inl (by show off + j < off + l.length * i.size; rw [hsz]; omega)), List.map_append, List.getElem?_append_left (by simpa using hjl)]
          exact h4 j hjl
        · have ht' : j - l.length < (m.map B).length := by simp at hj ⊢; omega
          have := World.cell?_setCells_in g (m.map B) (off + l.length * i.size) w hsome (j - l.length) ht'
          rw [hsz, Nat.mul_one, show off + l.length + (j - l.length) = off + j by omega] at this
          rw [hsz, Nat.mul_one, this, List.map_append, List.getElem?_append_right (by simp; omega), List.getElem?_eq_getElem (by simpa using ht')]
          simp
      · exact World.isSome_setCells g _ _ _ _ (h5 j hj).1
      · rw [World.frozen?_setCells]; exact (h5 j hj).2
      · refine ⟨World.os_setCells _ _ _ _, tape_setCells _ _ _ _, World.output_setCells _ _ _ _, by rw [size_setCells]; exact Nat.le_refl _, fun k hk hne => World.heap_setCells_other w g _ _ hk (fun e => hne _ rfl e.symm), fun a ha hlt o ho => ?_⟩
        simp [baseOf] at ha
        subst ha
        exact World.cell?_setCells_out g _ _ _ _ (fun _ _ => Or.inl (by show o < off + l.length * i.size; have : o < off := ho; omega))
    · refine grow (some ⟨g, off, none⟩) cap rfl (by omega) ?_
      have := run_firstCells_some (P := P) w.drew i.size l.length ⟨g, off, none⟩ l.length cap (l.map B) (by rw [hsz]; simp) (fun j u hu => by
        rw [Addr.add_lit]
        have hj : j < l.length := by simpa using (List.getElem?_eq_some_iff.1 hu).1
        exact (h4 j hj).trans hu)
      exact this

/-- What has been appended since (w0, v0), and the row's cells are cells still. -/
structure AppL (w0 : World) (v0 : Value) (w : World) (v : Value) (l : List UInt8) : Prop extends AppTo w0 v0 w v l where
  live : Live w0 w v0

theorem AppL.refl {w : World} {v : Value} {l : List UInt8} (h : Own w v l) : AppL w v w v l := ⟨AppTo.refl h, Live.refl _ _⟩

theorem AppL.trans {w0 w1 w2 : World} {v0 v1 v2 : Value} {l l' : List UInt8} (h : AppL w0 v0 w1 v1 l) (k : AppL w1 v1 w2 v2 l') : AppL w0 v0 w2 v2 l' :=
  ⟨h.toAppTo.trans k.toAppTo, fun a ha hlt o => by
    have h1 := h.live a ha hlt o
    have hs := h.kept.size
    rcases h.pos with hb | hb
    · have h2 := k.live a (hb.trans ha) (by omega) o
      exact ⟨fun e => h2.1 (h1.1 e), h2.2.trans h1.2⟩
    · have h2 := live_heap (k.kept.block a.block (by omega) (fun a' ha' e => by have := hb a' ha'; omega)) o
      exact ⟨fun e => h2.1 (h1.1 e), h2.2.trans h1.2⟩⟩

theorem AppL.alloc {w0 w : World} {v0 v : Value} {l : List UInt8} (h : AppL w0 v0 w v l) (o : Obj) : AppL w0 v0 (w.alloc o) v l :=
  ⟨h.toAppTo.alloc o, fun a ha hlt o' => by
    have h1 := h.live a ha hlt o'
    have h2 := live_heap (Below.heap_alloc w o a.block (Nat.lt_of_lt_of_le hlt h.kept.size)) o'
    exact ⟨fun e => h2.1 (h1.1 e), h2.2.trans h1.2⟩⟩

theorem AppL.drew {w0 w : World} {v0 v : Value} {l : List UInt8} (h : AppL w0 v0 w v l) : AppL w0 v0 w.drew v l := ⟨h.toAppTo.drew, h.live⟩

/-- 'append', for the walk. -/
theorem wpList_appL {P : Program} {t e : TypeId} (U : U8 P t e) {w : World} {ops : Array Oper} {rest : List Oper} {o : Oper} {a : Act} {Q : Exit → Act → World → Prop} (hw : Region.wanted o (yielded ops a.tmps) = true) (s x : Operand) (tx : TypeId)
    (ho : o.op = .call { callee := .builtin .append, args := #[s, x], argTypes := #[t, tx] })
    {w0 : World} {v0 v : Value} {l : List UInt8} (h : AppL w0 v0 w v l) (hv : a.eval s = v) {xv : Value} (m : List UInt8) (hx : a.eval x = xv) (hs : Src P 1 tx xv m.length (m.map B) w)
    (hb : l.length + m.length ≤ 1099511627776)
    (hK : ∀ v' w', AppL w0 v0 w' v' (l ++ m) → wpList P ops Q rest (a.put o.dst v') w') : wpList P ops Q (o :: rest) a w := by
  obtain ⟨v', w', hrun, r1, r2, r3, r4⟩ := run_appL U h.own hs o.type hb
  exact wpList_run hw (by simp [execOp, ho, resolve, invoke, builtin, hv, hx, hrun, Result.andThen]) (hK v' w' (h.trans ⟨⟨r1, r2, r3⟩, r4⟩))


end Go.Proofs.YtlgmdcaoogiooaaGreatDoor
