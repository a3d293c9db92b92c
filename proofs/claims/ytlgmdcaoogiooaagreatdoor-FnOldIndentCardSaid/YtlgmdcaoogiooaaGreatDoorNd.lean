/- The reference's nodes in memory. -/
import Derived.Test.YtlgmdcaoogiooaaGreatDoorValP
import Derived.Test.YtlgmdcaoogiooaaGreatDoorNumW
import Derived.Deep.AppendLies
namespace Go.Proofs.YtlgmdcaoogiooaaGreatDoor
open Go.RowKit

theorem strInfo : (Tryz.prog.info? 9).map (fun i => (i.zero, i.size, i.bytes)) = some (some (.string ⟨#[]⟩), 1, 16) := by kernel_rfl
theorem nodeInfo : (Tryz.prog.info? 41).map (fun i => (i.zero, i.size, i.bytes)) = some (some (.agg #[.int .u8 0, .string ⟨#[]⟩, .slice none 0 0, .slice none 0 0]), 4, 72) := by kernel_rfl

theorem strU : Tryz.prog.underlying 9 = some .string := Tryz.underlying9

/-- A part of a text, as a slice expression has it. -/
theorem run_part (s : ByteArray) (k m : Nat) (hm : Int) (hmm : hm = (m : Int)) (h1 : k ≤ m) (h2 : m ≤ s.size) (w : World) : (Instr.slice 9 (.string s) (some (.int .i64 (k : Int))) (some (.int .i64 hm)) none).run Tryz.prog w = .ok (.string (s.extract k m)) w := by
  subst hmm
  have := run_slice_string (P := Tryz.prog) w 9 s .i64 .i64 (k : Int) (m : Int) strU (by omega) (by omega) (by omega)
  simp only [Int.toNat_natCast] at this
  exact this

theorem ownsRow_same {w w' : World} {B : Nat} {e : TypeId} {size : Nat} {v : Value} {n : Nat} {xs : List Value} (h : w.ownsRow B e size v n xs) (hh : ∀ g, v.ownBlock = some g → w'.heap[g]? = w.heap[g]?) : w'.ownsRow B e size v n xs := by
  refine ⟨h.1, ?_⟩
  rcases h.2 with h2 | ⟨g, cap, cur, hv, hb, hg, r⟩
  · exact .inl h2
  · exact .inr ⟨g, cap, cur, hv, hb, (hh g (by rw [hv]; rfl)).trans hg, r⟩

theorem ownsRow_base {w : World} {B B' : Nat} {e : TypeId} {size : Nat} {v : Value} {n : Nat} {xs : List Value} (h : w.ownsRow B e size v n xs) (hB : B' ≤ B) : w.ownsRow B' e size v n xs := by
  refine ⟨h.1, ?_⟩
  rcases h.2 with h2 | ⟨g, cap, cur, hv, hb, r⟩
  · exact .inl h2
  · exact .inr ⟨g, cap, cur, hv, Nat.le_trans hB hb, r⟩

theorem ownsRow_at {w : World} {B : Nat} {e : TypeId} {size : Nat} {v : Value} {n : Nat} {xs : List Value} (h : w.ownsRow B e size v n xs) : ∀ g, v.ownBlock = some g → B ≤ g ∧ g < w.heap.size := by
  intro g hg
  rcases h.2 with ⟨rfl, _⟩ | ⟨g', cap, cur, rfl, hb, hg', _⟩
  · cases hg
  · simp only [Value.ownBlock, Option.some.injEq] at hg
    subst hg
    exact ⟨hb, (Array.getElem?_eq_some_iff.1 hg').1⟩

theorem ownsRow_slice {w : World} {B : Nat} {e : TypeId} {size : Nat} {v : Value} {n : Nat} {xs : List Value} (h : w.ownsRow B e size v n xs) : ∃ a c, v = .slice a n c := by
  rcases h.2 with ⟨rfl, rfl⟩ | ⟨g', cap, cur, rfl, hb, hg', _⟩
  · exact ⟨_, _, rfl⟩
  · exact ⟨_, _, rfl⟩

/-- The value is a tree's node, whose rows lie in blocks of D. -/
inductive Rep (w : World) (D : Nat → Prop) : Tr → List Value → Prop
  | mk {kind : Nat} {text : ByteArray} {names : List ByteArray} {kids : List Tr} {nv kv : Value} {cells : List Value} :
      w.ownsRow 0 9 1 nv names.length (names.map .string) → (∀ g, nv.ownBlock = some g → D g) → w.ownsRow 0 41 4 kv kids.length cells → (∀ g, kv.ownBlock = some g → D g) →
      (∀ i T, kids[i]? = some T → Rep w D T ((cells.drop (i * 4)).take 4)) → Rep w D (.mk kind text names kids) [.int .u8 ((kind : Nat) : Int), .string text, nv, kv]

theorem Rep.frame {w w' : World} {D D' : Nat → Prop} {T : Tr} {vs : List Value} (h : Rep w D T vs) (hh : ∀ g, D g → w'.heap[g]? = w.heap[g]?) (hD : ∀ g, D g → D' g) : Rep w' D' T vs := by
  induction h with
  | mk h1 h2 h3 h4 _ ih => exact .mk (ownsRow_same h1 (fun g hg => hh g (h2 g hg))) (fun g hg => hD g (h2 g hg)) (ownsRow_same h3 (fun g hg => hh g (h4 g hg))) (fun g hg => hD g (h4 g hg)) ih

theorem Rep.shape {w : World} {D : Nat → Prop} {T : Tr} {vs : List Value} (h : Rep w D T vs) : vs.length = 4 := by
  cases h
  rfl

/-- A node that is being filled: its block, its own rows (in blocks from B on), its kids. -/
structure Nd (w : World) (B nb : Nat) (kind : Nat) (tx : ByteArray) (nv kv : Value) (names : List ByteArray) (kids : List Tr) : Prop where
  row : w.heap[nb]? = some (.cells #[.int .u8 ((kind : Nat) : Int), .string tx, nv, kv] 41 (0, 0))
  lo : nb < B
  le : B ≤ w.heap.size
  names : w.ownsRow B 9 1 nv names.length (names.map .string)
  kids : ∃ cells, w.ownsRow B 41 4 kv kids.length cells ∧ ∃ D : Nat → Prop, (∀ g, D g → B ≤ g ∧ g < w.heap.size ∧ nv.ownBlock ≠ some g ∧ kv.ownBlock ≠ some g) ∧ ∀ i T, kids[i]? = some T → Rep w D T ((cells.drop (i * 4)).take 4)

theorem Nd.lt {w : World} {B nb kind : Nat} {tx : ByteArray} {nv kv : Value} {names : List ByteArray} {kids : List Tr} (h : Nd w B nb kind tx nv kv names kids) : nb < w.heap.size := Nat.lt_of_lt_of_le h.lo h.le

theorem Nd.cells {w : World} {B nb kind : Nat} {tx : ByteArray} {nv kv : Value} {names : List ByteArray} {kids : List Tr} (h : Nd w B nb kind tx nv kv names kids) :
    w.cell? ⟨nb, 0, none⟩ = some (.int .u8 ((kind : Nat) : Int)) ∧ w.cell? ⟨nb, 1, none⟩ = some (.string tx) ∧ w.cell? ⟨nb, 2, none⟩ = some nv ∧ w.cell? ⟨nb, 3, none⟩ = some kv ∧
    w.frozen? ⟨nb, 0, none⟩ = false ∧ w.frozen? ⟨nb, 1, none⟩ = false ∧ w.frozen? ⟨nb, 2, none⟩ = false ∧ w.frozen? ⟨nb, 3, none⟩ = false :=
  ⟨cell_of_row w nb 0 _ _ _ h.row, cell_of_row w nb 1 _ _ _ h.row, cell_of_row w nb 2 _ _ _ h.row, cell_of_row w nb 3 _ _ _ h.row, frozen_of_row w nb 0 _ _ h.row, frozen_of_row w nb 1 _ _ h.row, frozen_of_row w nb 2 _ _ h.row, frozen_of_row w nb 3 _ _ h.row⟩

/-- The node's rows are two. -/
theorem Nd.apart {w : World} {B nb kind : Nat} {tx : ByteArray} {nv kv : Value} {names : List ByteArray} {kids : List Tr} (h : Nd w B nb kind tx nv kv names kids) : ∀ g, nv.ownBlock = some g → kv.ownBlock ≠ some g := by
  intro g h1 h2
  obtain ⟨cells, hk, _⟩ := h.kids
  rcases h.names.2 with ⟨rfl, _⟩ | ⟨g1, cap, cur, rfl, _, hg, _⟩
  · cases h1
  rcases hk.2 with ⟨rfl, _⟩ | ⟨g2, cap2, cur2, rfl, _, hg2, _⟩
  · cases h2
  simp only [Value.ownBlock, Option.some.injEq] at h1 h2
  subst h1
  subst h2
  rw [hg] at hg2
  cases hg2

/-- Nothing of the node has changed. -/
theorem Nd.same {w w' : World} {B nb kind : Nat} {tx : ByteArray} {nv kv : Value} {names : List ByteArray} {kids : List Tr} (h : Nd w B nb kind tx nv kv names kids) (hs : w.heap.size ≤ w'.heap.size) (hh : ∀ g, nb ≤ g → g < w.heap.size → w'.heap[g]? = w.heap[g]?) : Nd w' B nb kind tx nv kv names kids := by
  have hl := h.lo
  obtain ⟨cells, hk, D, hD, hr⟩ := h.kids
  refine ⟨(hh nb (Nat.le_refl _) h.lt).trans h.row, h.lo, Nat.le_trans h.le hs, ownsRow_same h.names (fun g hg => ?_), cells, ownsRow_same hk (fun g hg => ?_), D, fun g hg => ?_, fun i T hi => (hr i T hi).frame (fun g hg => ?_) (fun _ q => q)⟩
  · have := ownsRow_at h.names g hg; exact hh g (by omega) this.2
  · have := ownsRow_at hk g hg; exact hh g (by omega) this.2
  · obtain ⟨q1, q2, q3⟩ := hD g hg; exact ⟨q1, by omega, q3⟩
  · obtain ⟨q1, q2, q3⟩ := hD g hg; exact hh g (by omega) q2

theorem Nd.grown {w w' : World} {B nb kind : Nat} {tx : ByteArray} {nv kv : Value} {names : List ByteArray} {kids : List Tr} {b : Nat} (h : Nd w B nb kind tx nv kv names kids) (hg : w.grownBy w' (some b)) (hb : b < nb) : Nd w' B nb kind tx nv kv names kids :=
  h.same hg.size (fun g h1 h2 => hg.block g h2 (fun e => by cases e; omega))

theorem Nd.alloc {w : World} {B nb kind : Nat} {tx : ByteArray} {nv kv : Value} {names : List ByteArray} {kids : List Tr} (h : Nd w B nb kind tx nv kv names kids) (o : Obj) : Nd (w.alloc o) B nb kind tx nv kv names kids :=
  h.same (by simp) (fun g _ h2 => Below.heap_alloc w o g h2)

/-- A cell of its own that is no row. -/
theorem Nd.setKind {w : World} {B nb kind : Nat} {tx : ByteArray} {nv kv : Value} {names : List ByteArray} {kids : List Tr} (h : Nd w B nb kind tx nv kv names kids) (kind' : Nat) : Nd (w.setCell ⟨nb, 0, none⟩ (.int .u8 ((kind' : Nat) : Int))) B nb kind' tx nv kv names kids := by
  have hl := h.lo
  have ho : ∀ g, g ≠ nb → (w.setCell ⟨nb, 0, none⟩ (.int .u8 ((kind' : Nat) : Int))).heap[g]? = w.heap[g]? := fun g hg => Below.heap_setCell w ⟨nb, 0, none⟩ _ g (fun e => hg e)
  obtain ⟨cells, hk, D, hD, hr⟩ := h.kids
  refine ⟨heap_setCell_same w nb 0 _ _ _ h.row, hl, by simp [World.setCell]; exact h.le, ownsRow_same h.names (fun g hg => ho g ?_), cells, ownsRow_same hk (fun g hg => ho g ?_), D, fun g hg => ?_, fun i T hi => (hr i T hi).frame (fun g hg => ho g ?_) (fun _ q => q)⟩
  · have := ownsRow_at h.names g hg; omega
  · have := ownsRow_at hk g hg; omega
  · obtain ⟨q1, q2, q3⟩ := hD g hg; exact ⟨q1, by simp [World.setCell]; exact q2, q3⟩
  · obtain ⟨q1, q2, q3⟩ := hD g hg; omega

theorem Nd.setText {w : World} {B nb kind : Nat} {tx : ByteArray} {nv kv : Value} {names : List ByteArray} {kids : List Tr} (h : Nd w B nb kind tx nv kv names kids) (tx' : ByteArray) : Nd (w.setCell ⟨nb, 1, none⟩ (.string tx')) B nb kind tx' nv kv names kids := by
  have hl := h.lo
  have ho : ∀ g, g ≠ nb → (w.setCell ⟨nb, 1, none⟩ (.string tx')).heap[g]? = w.heap[g]? := fun g hg => Below.heap_setCell w ⟨nb, 1, none⟩ _ g (fun e => hg e)
  obtain ⟨cells, hk, D, hD, hr⟩ := h.kids
  refine ⟨heap_setCell_same w nb 1 _ _ _ h.row, hl, by simp [World.setCell]; exact h.le, ownsRow_same h.names (fun g hg => ho g ?_), cells, ownsRow_same hk (fun g hg => ho g ?_), D, fun g hg => ?_, fun i T hi => (hr i T hi).frame (fun g hg => ho g ?_) (fun _ q => q)⟩
  · have := ownsRow_at h.names g hg; omega
  · have := ownsRow_at hk g hg; omega
  · obtain ⟨q1, q2, q3⟩ := hD g hg; exact ⟨q1, by simp [World.setCell]; exact q2, q3⟩
  · obtain ⟨q1, q2, q3⟩ := hD g hg; omega

/-- One name more: the row was appended to, and its slice stored. -/
theorem Nd.pushName {w w1 : World} {B nb kind : Nat} {tx : ByteArray} {nv kv nv' : Value} {names : List ByteArray} {kids : List Tr} (h : Nd w B nb kind tx nv kv names kids) (nm : ByteArray) {g0 : Nat}
    (hown : w1.ownsRow B 9 1 nv' (names.length + 1) (names.map .string ++ [.string nm])) (hg : w.grownBy w1 nv.ownBlock) (hv : nv'.ownBlock = some g0) (hat : nv.ownBlock = some g0 ∨ w.heap.size ≤ g0) :
    Nd (w1.setCell ⟨nb, 2, none⟩ nv') B nb kind tx nv' kv (names ++ [nm]) kids := by
  have hl := h.lo
  have hlt := h.lt
  have ho : ∀ g, g ≠ nb → (w1.setCell ⟨nb, 2, none⟩ nv').heap[g]? = w1.heap[g]? := fun g hg => Below.heap_setCell w1 ⟨nb, 2, none⟩ _ g (fun e => hg e)
  have hrow : w1.heap[nb]? = some (.cells #[.int .u8 ((kind : Nat) : Int), .string tx, nv, kv] 41 (0, 0)) := (hg.block nb hlt (fun e => by have := (ownsRow_at h.names nb e.symm).1; omega)).trans h.row
  have hsz : (w1.setCell ⟨nb, 2, none⟩ nv').heap.size = w1.heap.size := by simp [World.setCell]
  have hap := h.apart
  obtain ⟨cells, hk, D, hD, hr⟩ := h.kids
  have hk' : ∀ g, kv.ownBlock = some g → (w1.setCell ⟨nb, 2, none⟩ nv').heap[g]? = w.heap[g]? := fun g hgk => by
    have hb := ownsRow_at hk g hgk
    exact (ho g (by omega)).trans (hg.block g hb.2 (fun e => hap g e.symm hgk))
  refine ⟨heap_setCell_same w1 nb 2 _ _ _ hrow, hl, by rw [hsz]; exact Nat.le_trans h.le hg.size, ?_, cells, ownsRow_same hk hk', D, fun g hgd => ?_, fun i T hi => (hr i T hi).frame (fun g hgd => ?_) (fun _ q => q)⟩
  · have e1 : (names ++ [nm]).length = names.length + 1 := by simp
    have e2 : (names ++ [nm]).map Value.string = names.map Value.string ++ [.string nm] := by simp
    rw [e1, e2]
    exact ownsRow_same hown (fun g hgn => ho g (by have := (ownsRow_at hown g hgn).1; omega))
  · obtain ⟨q1, q2, q3, q4⟩ := hD g hgd
    refine ⟨q1, by rw [hsz]; exact Nat.lt_of_lt_of_le q2 hg.size, fun e => ?_, q4⟩
    rw [hv] at e
    cases e
    rcases hat with e | e
    · exact q3 e
    · omega
  · obtain ⟨q1, q2, q3, q4⟩ := hD g hgd
    exact (ho g (by omega)).trans (hg.block g q2 (fun e => q3 e.symm))

/-- A string's end. -/
theorem qrun_end {l : List UInt8} {k : Nat} {r : Bool × Nat} (h : QRun true l k r) : r.1 = true → k ≤ r.2 ∧ l[r.2]? = some 34 := by
  induction h with
  | eof _ => intro e; cases e
  | done h => intro _; exact ⟨Nat.le_refl _, h⟩
  | escNo _ _ => intro e; cases e
  | @esc k k' r _ h2 _ ih =>
    intro e
    have := mEscape_le true l (k + 1)
    rw [h2] at this
    have hi := ih e
    exact ⟨by simp only at this; omega, hi.2⟩
  | ctrl _ _ => intro e; cases e
  | plain _ _ _ _ _ _ ih => intro e; have hi := ih e; exact ⟨by omega, hi.2⟩
  | rune _ _ h3 => cases h3
  | runeNo _ _ h3 => cases h3

/-- What changes while an object or an array is read: the reader, the node, blocks from B on. -/
structure Fr (B b nb : Nat) (w w' : World) : Prop where
  os : w'.os = w.os
  tape : w'.tape = w.tape
  output : w'.output = w.output
  size : w.heap.size ≤ w'.heap.size
  block : ∀ g, g < B → g ≠ b → g ≠ nb → w'.heap[g]? = w.heap[g]?

theorem Fr.refl (B b nb : Nat) (w : World) : Fr B b nb w w := ⟨rfl, rfl, rfl, Nat.le_refl _, fun _ _ _ _ => rfl⟩
theorem Fr.trans {B b nb : Nat} {w w1 w2 : World} (h : Fr B b nb w w1) (k : Fr B b nb w1 w2) : Fr B b nb w w2 :=
  ⟨k.os.trans h.os, k.tape.trans h.tape, k.output.trans h.output, Nat.le_trans h.size k.size, fun g h1 h2 h3 => (k.block g h1 h2 h3).trans (h.block g h1 h2 h3)⟩
theorem Fr.grown {B b nb : Nat} {w w' : World} (hB : B ≤ w.heap.size) (h : w.grownBy w' (some b)) : Fr B b nb w w' :=
  ⟨h.os, h.tape, h.output, h.size, fun g h1 h2 _ => h.block g (by omega) (fun e => by cases e; exact h2 rfl)⟩
theorem Fr.row {B b nb : Nat} {w w' : World} (hB : B ≤ w.heap.size) {r : Option Nat} (h : w.grownBy w' r) (hr : ∀ g, r = some g → B ≤ g) : Fr B b nb w w' :=
  ⟨h.os, h.tape, h.output, h.size, fun g h1 _ _ => h.block g (by omega) (fun e => by have := hr g e.symm; omega)⟩
theorem Fr.alloc {B b nb : Nat} {w w' : World} (h : Fr B b nb w w') (hB : B ≤ w'.heap.size) (o : Obj) : Fr B b nb w (w'.alloc o) :=
  ⟨h.os, h.tape, h.output, by have := h.size; simp; omega, fun g h1 h2 h3 => (Below.heap_alloc w' o g (by omega)).trans (h.block g h1 h2 h3)⟩
theorem Fr.set {B b nb : Nat} (w : World) (o : Nat) (v : Value) : Fr B b nb w (w.setCell ⟨nb, o, none⟩ v) :=
  ⟨rfl, rfl, rfl, by simp [World.setCell], fun g _ _ h3 => Below.heap_setCell w ⟨nb, o, none⟩ v g (fun e => h3 e)⟩
theorem Fr.setR {B b nb : Nat} (w : World) (o : Nat) (v : Value) : Fr B b nb w (w.setCell ⟨b, o, none⟩ v) :=
  ⟨rfl, rfl, rfl, by simp [World.setCell], fun g _ h2 _ => Below.heap_setCell w ⟨b, o, none⟩ v g (fun e => h2 e)⟩
theorem Fr.outer {B b nb : Nat} {w w' : World} (h : Fr B b nb w w') {w0 : World} (h0 : w0.grownBy w (some b)) (hn : w0.heap.size ≤ nb) (hB : w0.heap.size ≤ B) : w0.grownBy w' (some b) :=
  ⟨h.os.trans h0.os, h.tape.trans h0.tape, h.output.trans h0.output, Nat.le_trans h0.size h.size, fun g h1 h2 => (h.block g (by omega) (fun e => h2 (by rw [e])) (by omega)).trans (h0.block g h1 h2)⟩

/-- A row's last element was written, and the row's slice stored in the node. -/
structure Stored (w Z : World) (nb gg o : Nat) (hdr v0 v1 v2 v3 : Value) : Prop where
  os : Z.os = w.os
  tape : Z.tape = w.tape
  output : Z.output = w.output
  size : Z.heap.size = w.heap.size
  node : ∀ cs t, w.heap[nb]? = some (.cells cs t (0, 0)) → Z.heap[nb]? = some (.cells (cs.setIfInBounds 3 hdr) t (0, 0))
  row : ∀ cs t, w.heap[gg]? = some (.cells cs t (0, 0)) → Z.heap[gg]? = some (.cells ((((cs.setIfInBounds o v0).setIfInBounds (o + 1) v1).setIfInBounds (o + 2) v2).setIfInBounds (o + 3) v3) t (0, 0))
  rest : ∀ g, g ≠ nb → g ≠ gg → Z.heap[g]? = w.heap[g]?

theorem sc_os (w : World) (a : Addr) (v : Value) : (w.setCell a v).os = w.os := rfl
theorem sc_tape (w : World) (a : Addr) (v : Value) : (w.setCell a v).tape = w.tape := rfl
theorem sc_output (w : World) (a : Addr) (v : Value) : (w.setCell a v).output = w.output := rfl
theorem sc_size (w : World) (a : Addr) (v : Value) : (w.setCell a v).heap.size = w.heap.size := by simp [World.setCell]
theorem sc_far (w : World) (b o : Nat) (v : Value) (g : Nat) (h : g ≠ b) : (w.setCell ⟨b, o, none⟩ v).heap[g]? = w.heap[g]? := Below.heap_setCell w ⟨b, o, none⟩ v g (fun e => h e)

theorem four_row (w : World) (gg o : Nat) (v0 v1 v2 v3 : Value) (cs : Array Value) (t : TypeId) (h : w.heap[gg]? = some (.cells cs t (0, 0))) :
    ((((w.setCell ⟨gg, o, none⟩ v0).setCell ⟨gg, o + 1, none⟩ v1).setCell ⟨gg, o + 2, none⟩ v2).setCell ⟨gg, o + 3, none⟩ v3).heap[gg]? = some (.cells ((((cs.setIfInBounds o v0).setIfInBounds (o + 1) v1).setIfInBounds (o + 2) v2).setIfInBounds (o + 3) v3) t (0, 0)) := by
  have a1 := heap_setCell_same w gg o _ _ v0 h
  have a2 := heap_setCell_same _ gg (o + 1) _ _ v1 a1
  have a3 := heap_setCell_same _ gg (o + 2) _ _ v2 a2
  exact heap_setCell_same _ gg (o + 3) _ _ v3 a3

theorem four_far (w : World) (gg o : Nat) (v0 v1 v2 v3 : Value) (g : Nat) (h : g ≠ gg) :
    ((((w.setCell ⟨gg, o, none⟩ v0).setCell ⟨gg, o + 1, none⟩ v1).setCell ⟨gg, o + 2, none⟩ v2).setCell ⟨gg, o + 3, none⟩ v3).heap[g]? = w.heap[g]? := by
  rw [sc_far _ _ _ _ _ h, sc_far _ _ _ _ _ h, sc_far _ _ _ _ _ h, sc_far _ _ _ _ _ h]

theorem stored_first (w : World) {nb gg : Nat} (h : gg ≠ nb) (o : Nat) (hdr v0 v1 v2 v3 : Value) :
    Stored w (((((w.setCell ⟨nb, 3, none⟩ hdr).setCell ⟨gg, o, none⟩ v0).setCell ⟨gg, o + 1, none⟩ v1).setCell ⟨gg, o + 2, none⟩ v2).setCell ⟨gg, o + 3, none⟩ v3) nb gg o hdr v0 v1 v2 v3 where
  os := by rw [sc_os, sc_os, sc_os, sc_os, sc_os]
  tape := by rw [sc_tape, sc_tape, sc_tape, sc_tape, sc_tape]
  output := by rw [sc_output, sc_output, sc_output, sc_output, sc_output]
  size := by rw [sc_size, sc_size, sc_size, sc_size, sc_size]
  node := fun cs t hc => (four_far _ gg o v0 v1 v2 v3 nb (Ne.symm h)).trans (heap_setCell_same w nb 3 _ _ _ hc)
  row := fun cs t hc => four_row _ gg o v0 v1 v2 v3 cs t ((sc_far w nb 3 hdr gg h).trans hc)
  rest := fun g h1 h2 => (four_far _ gg o v0 v1 v2 v3 g h2).trans (sc_far w nb 3 hdr g h1)

theorem stored_last (w : World) {nb gg : Nat} (h : gg ≠ nb) (o : Nat) (hdr v0 v1 v2 v3 : Value) :
    Stored w (((((w.setCell ⟨gg, o, none⟩ v0).setCell ⟨gg, o + 1, none⟩ v1).setCell ⟨gg, o + 2, none⟩ v2).setCell ⟨gg, o + 3, none⟩ v3).setCell ⟨nb, 3, none⟩ hdr) nb gg o hdr v0 v1 v2 v3 where
  os := by rw [sc_os, sc_os, sc_os, sc_os, sc_os]
  tape := by rw [sc_tape, sc_tape, sc_tape, sc_tape, sc_tape]
  output := by rw [sc_output, sc_output, sc_output, sc_output, sc_output]
  size := by rw [sc_size, sc_size, sc_size, sc_size, sc_size]
  node := fun cs t hc => heap_setCell_same _ nb 3 _ _ _ ((four_far w gg o v0 v1 v2 v3 nb (Ne.symm h)).trans hc)
  row := fun cs t hc => (sc_far _ nb 3 hdr gg h).trans (four_row w gg o v0 v1 v2 v3 cs t hc)
  rest := fun g h1 h2 => (sc_far _ nb 3 hdr g h1).trans (four_far w gg o v0 v1 v2 v3 g h2)

theorem Stored.fr {w Z : World} {B b nb gg o : Nat} {hdr v0 v1 v2 v3 : Value} (h : Stored w Z nb gg o hdr v0 v1 v2 v3) (hB : B ≤ gg) : Fr B b nb w Z :=
  ⟨h.os, h.tape, h.output, Nat.le_of_eq h.size.symm, fun g h1 _ h3 => h.rest g h3 (by omega)⟩

/-- The row behind the write. -/
theorem stored_row {w Z : World} {nb gg : Nat} {hdr v0 v1 v2 v3 z0 z1 z2 z3 : Value} {B : Nat} {e : TypeId} {n cap : Nat} {cells : List Value} (h : Stored w Z nb gg (n * 4) hdr v0 v1 v2 v3)
    (hown : w.ownsRow B e 4 (.slice (some ⟨gg, 0, none⟩) (n + 1) cap) (n + 1) (cells ++ [z0, z1, z2, z3])) (hl : cells.length = n * 4) : Z.ownsRow B e 4 (.slice (some ⟨gg, 0, none⟩) (n + 1) cap) (n + 1) (cells ++ [v0, v1, v2, v3]) := by
  refine ⟨by simp [hl]; omega, ?_⟩
  rcases hown.2 with ⟨h2, _⟩ | ⟨g', cap', cur, hv, hb, hg, h1, h2, h3, h4⟩
  · cases h2
  simp only [Value.slice.injEq, Option.some.injEq, Addr.mk.injEq, and_true, true_and] at hv
  obtain ⟨rfl, rfl⟩ := hv
  have hsz : n * 4 + 4 ≤ cur.size := by rw [h3]; have := Nat.mul_le_mul_right 4 h1; omega
  refine .inr ⟨gg, cap, _, rfl, hb, h.row _ _ hg, h1, h2, by simp [h3], ?_⟩
  apply List.ext_getElem?
  intro i
  have hcell : ∀ j, j < n * 4 → cur.toList[j]? = cells[j]? := fun j hj => by
    have e1 : (cur.toList.take ((n + 1) * 4))[j]? = cur.toList[j]? := by rw [List.getElem?_take, if_pos (by omega)]
    rw [← e1, h4, List.getElem?_append_left (by omega)]
  rw [List.getElem?_take]
  split
  · rw [Array.getElem?_toList]
    simp only [Array.getElem?_setIfInBounds, Array.size_setIfInBounds]
    by_cases i0 : i < n * 4
    · rw [if_neg (by omega), if_neg (by omega), if_neg (by omega), if_neg (by omega), List.getElem?_append_left (by omega), ← hcell i i0, Array.getElem?_toList]
    · rw [List.getElem?_append_right (by omega), hl]
      by_cases q0 : i = n * 4
      · subst q0
        rw [if_neg (by omega), if_neg (by omega), if_neg (by omega), if_pos rfl, if_pos (by omega), Nat.sub_self]
        rfl
      · by_cases q1 : i = n * 4 + 1
        · subst q1
          rw [if_neg (by omega), if_neg (by omega), if_pos rfl, if_pos (by omega), Nat.add_sub_cancel_left]
          rfl
        · by_cases q2 : i = n * 4 + 2
          · subst q2
            rw [if_neg (by omega), if_pos rfl, if_pos (by omega), Nat.add_sub_cancel_left]
            rfl
          · obtain rfl : i = n * 4 + 3 := by omega
            rw [if_pos rfl, if_pos (by omega), Nat.add_sub_cancel_left]
            rfl
  · rw [List.getElem?_eq_none (by simp [hl]; omega)]

/-- One kid more. -/
theorem Nd.pushKid {w w4 Z : World} {B nb kind : Nat} {tx : ByteArray} {nv kv : Value} {names : List ByteArray} {kids : List Tr} (h : Nd w B nb kind tx nv kv names kids) {cells : List Value} (hk : w.ownsRow B 41 4 kv kids.length cells)
    {D : Nat → Prop} (hD : ∀ g, D g → B ≤ g ∧ g < w.heap.size ∧ nv.ownBlock ≠ some g ∧ kv.ownBlock ≠ some g) (hr : ∀ i T, kids[i]? = some T → Rep w D T ((cells.drop (i * 4)).take 4)) (hg : w.grownBy w4 kv.ownBlock) {gg cap : Nat} {z0 z1 z2 z3 v0 v1 v2 v3 : Value}
    (hown : w4.ownsRow B 41 4 (.slice (some ⟨gg, 0, none⟩) (kids.length + 1) cap) (kids.length + 1) (cells ++ [z0, z1, z2, z3])) (hat : kv.ownBlock = some gg ∨ w.heap.size ≤ gg)
    (hS : Stored w4 Z nb gg (kids.length * 4) (.slice (some ⟨gg, 0, none⟩) (kids.length + 1) cap) v0 v1 v2 v3) {T : Tr} {D0 : Nat → Prop} (hrep : Rep w D0 T [v0, v1, v2, v3]) (hD0 : ∀ g, D0 g → B ≤ g ∧ g < w.heap.size ∧ nv.ownBlock ≠ some g ∧ kv.ownBlock ≠ some g) :
    Nd Z B nb kind tx nv (.slice (some ⟨gg, 0, none⟩) (kids.length + 1) cap) names (kids ++ [T]) := by
  have hl := h.lo
  have hlt := h.lt
  have hgB : B ≤ gg := (ownsRow_at hown gg rfl).1
  have hcl : cells.length = kids.length * 4 := hk.1
  have hap := h.apart
  -- a block that is neither the node nor the row
  have hsame : ∀ g, g < w.heap.size → g ≠ nb → kv.ownBlock ≠ some g → Z.heap[g]? = w.heap[g]? := fun g h1 h2 h3 => by
    have hgg : g ≠ gg := fun e => by
      rcases hat with q | q
      · exact h3 (by rw [e]; exact q)
      · omega
    exact (hS.rest g h2 hgg).trans (hg.block g h1 (fun e => h3 e.symm))
  have hrow : w4.heap[nb]? = some (.cells #[.int .u8 ((kind : Nat) : Int), .string tx, nv, kv] 41 (0, 0)) := (hg.block nb hlt (fun e => by have := (ownsRow_at hk nb e.symm).1; omega)).trans h.row
  have hlen : (kids ++ [T]).length = kids.length + 1 := by simp
  refine ⟨hS.node _ _ hrow, hl, by rw [hS.size]; exact Nat.le_trans h.le hg.size, ownsRow_same h.names (fun g hgn => ?_), cells ++ [v0, v1, v2, v3], by rw [hlen]; exact stored_row hS hown hcl, fun g => D g ∨ D0 g, fun g hgd => ?_, fun i T' hi => ?_⟩
  · have hb := ownsRow_at h.names g hgn
    exact hsame g hb.2 (by omega) (hap g hgn)
  · have hq : B ≤ g ∧ g < w.heap.size ∧ nv.ownBlock ≠ some g ∧ kv.ownBlock ≠ some g := hgd.elim (hD g) (hD0 g)
    refine ⟨hq.1, by rw [hS.size]; exact Nat.lt_of_lt_of_le hq.2.1 hg.size, hq.2.2.1, fun e => ?_⟩
    simp only [Value.ownBlock, Option.some.injEq] at e
    subst e
    rcases hat with q | q
    · exact hq.2.2.2 q
    · omega
  · by_cases hin : i < kids.length
    · rw [List.getElem?_append_left hin] at hi
      have e1 : ((cells ++ [v0, v1, v2, v3]).drop (i * 4)).take 4 = (cells.drop (i * 4)).take 4 := by
        rw [List.drop_append_of_le_length (by omega), List.take_append_of_le_length (by simp; omega)]
      rw [e1]
      exact (hr i T' hi).frame (fun g hgd => by obtain ⟨q1, q2, q3, q4⟩ := hD g hgd; exact hsame g q2 (by omega) q4) (fun g q => .inl q)
    · have hi2 := (List.getElem?_eq_some_iff.1 hi).1
      rw [hlen] at hi2
      obtain rfl : i = kids.length := by omega
      rw [List.getElem?_append_right (Nat.le_refl _), Nat.sub_self] at hi
      cases hi
      have e1 : ((cells ++ [v0, v1, v2, v3]).drop (kids.length * 4)).take 4 = [v0, v1, v2, v3] := by
        rw [← hcl, List.drop_left]
        rfl
      rw [e1]
      exact hrep.frame (fun g hgd => by obtain ⟨q1, q2, q3, q4⟩ := hD0 g hgd; exact hsame g q2 (by omega) q4) (fun g q => .inr q)

end Go.Proofs.YtlgmdcaoogiooaaGreatDoor
