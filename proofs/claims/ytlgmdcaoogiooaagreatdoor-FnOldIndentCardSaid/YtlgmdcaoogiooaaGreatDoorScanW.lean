/- The scanner of encoding/json in memory; its smallest steps. -/
import Derived.Test.YtlgmdcaoogiooaaGreatDoorChecked
import Derived.Test.YtlgmdcaoogiooaaGreatDoorSpcW
import Derived.WalkKit
import Derived.ProofKit
import Derived.Laws.EntriesVeiled
import Derived.Maps.AppendAt
import Derived.Deep.QuietTactic
import Derived.BigQuiet
namespace Go.Proofs.YtlgmdcaoogiooaaGreatDoor
open Go.RowKit

/-- The number of the function of a state. -/
def stN : St → Nat
  | .bve => 100
  | .bv => 81
  | .bse => 98
  | .bs => 111
  | .ev => 110
  | .et => 119
  | .str => 101
  | .esc => 112
  | .u0 => 121
  | .u1 => 127
  | .u2 => 130
  | .u3 => 131
  | .neg => 102
  | .s1 => 107
  | .s0 => 103
  | .dot => 113
  | .dot0 => 122
  | .e => 114
  | .esign => 123
  | .e0 => 128
  | .t => 104
  | .tr => 115
  | .tru => 124
  | .f => 105
  | .fa => 116
  | .fal => 125
  | .fals => 129
  | .n => 106
  | .nu => 117
  | .nul => 126
  | .err => 118

/-- A state, as a cell holds it. -/
def stV (s : St) : Value := .func (.func (stN s)) #[] #[]

/-- An int, as a cell holds it. -/
def I64 (x : Nat) : Value := .int .i64 (x : Int)

/-- The scanner in block b: what it holds; pv: its slice of what is open, ev: its error, y: its bytes. -/
structure Scn (w : World) (B b : Nat) (g : Cfg) (y : Int) (pv ev : Value) : Prop where
  row : w.heap[b]? = some (.cells #[stV g.st, .bool g.top, pv, ev, .int .i64 y] 96 (0, 0))
  own : w.ownsRow B 3 1 pv g.ps.length (g.ps.map I64)
  ne : pv.ownBlock ≠ some b

theorem Scn.lt {w : World} {B b : Nat} {g : Cfg} {y : Int} {pv ev : Value} (h : Scn w B b g y pv ev) : b < w.heap.size := (Array.getElem?_eq_some_iff.1 h.row).1

theorem Scn.cells {w : World} {B b : Nat} {g : Cfg} {y : Int} {pv ev : Value} (h : Scn w B b g y pv ev) :
    w.cell? ⟨b, 0, none⟩ = some (stV g.st) ∧ w.cell? ⟨b, 1, none⟩ = some (.bool g.top) ∧ w.cell? ⟨b, 2, none⟩ = some pv ∧ w.cell? ⟨b, 3, none⟩ = some ev ∧ w.cell? ⟨b, 4, none⟩ = some (.int .i64 y) ∧
    w.frozen? ⟨b, 0, none⟩ = false ∧ w.frozen? ⟨b, 1, none⟩ = false ∧ w.frozen? ⟨b, 2, none⟩ = false ∧ w.frozen? ⟨b, 3, none⟩ = false ∧ w.frozen? ⟨b, 4, none⟩ = false :=
  ⟨cell_of_row w b 0 _ _ _ h.row, cell_of_row w b 1 _ _ _ h.row, cell_of_row w b 2 _ _ _ h.row, cell_of_row w b 3 _ _ _ h.row, cell_of_row w b 4 _ _ _ h.row,
    frozen_of_row w b 0 _ _ h.row, frozen_of_row w b 1 _ _ h.row, frozen_of_row w b 2 _ _ h.row, frozen_of_row w b 3 _ _ h.row, frozen_of_row w b 4 _ _ h.row⟩

/-- From w on only the scanner's block and that of its slice were written, and new blocks made. -/
structure SK (w w' : World) (b : Nat) (pv : Value) : Prop where
  os : w'.os = w.os
  tape : w'.tape = w.tape
  output : w'.output = w.output
  size : w.heap.size ≤ w'.heap.size
  block : ∀ k, k < w.heap.size → k ≠ b → some k ≠ pv.ownBlock → w'.heap[k]? = w.heap[k]?

/-- A slice lies where another one lay, or in a new block. -/
def PAt (w : World) (pv pv' : Value) : Prop := pv'.ownBlock = pv.ownBlock ∨ ∀ k, pv'.ownBlock = some k → w.heap.size ≤ k

theorem SK.refl (w : World) (b : Nat) (pv : Value) : SK w w b pv := ⟨rfl, rfl, rfl, Nat.le_refl _, fun _ _ _ _ => rfl⟩
theorem PAt.refl (w : World) (pv : Value) : PAt w pv pv := .inl rfl

theorem PAt.trans {w w1 : World} {p p1 p2 : Value} (h : PAt w p p1) (hs : w.heap.size ≤ w1.heap.size) (k : PAt w1 p1 p2) : PAt w p p2 := by
  rcases k with k | k
  · rcases h with h | h
    · exact .inl (k.trans h)
    · exact .inr (fun x hx => h x (k ▸ hx))
  · exact .inr (fun x hx => Nat.le_trans hs (k x hx))

theorem SK.trans {w w1 w2 : World} {b : Nat} {p p1 : Value} (h : SK w w1 b p) (ha : PAt w p p1) (k : SK w1 w2 b p1) : SK w w2 b p :=
  ⟨k.os.trans h.os, k.tape.trans h.tape, k.output.trans h.output, Nat.le_trans h.size k.size, fun i hi hb hp => by
    refine (k.block i (Nat.lt_of_lt_of_le hi h.size) hb (fun e => ?_)).trans (h.block i hi hb hp)
    rcases ha with ha | ha
    · exact hp (e.trans ha)
    · have := ha i e.symm; omega⟩

theorem SK.set {w w' : World} {b : Nat} {pv : Value} (h : SK w w' b pv) (o : Nat) (v : Value) : SK w (w'.setCell ⟨b, o, none⟩ v) b pv :=
  ⟨h.os, h.tape, h.output, by simp [World.setCell]; exact h.size, fun k hk hb hp => (Below.heap_setCell w' ⟨b, o, none⟩ v k (fun e => hb e)).trans (h.block k hk hb hp)⟩

theorem SK.alloc {w w' : World} {b : Nat} {pv : Value} (h : SK w w' b pv) (o : Obj) : SK w (w'.alloc o) b pv :=
  ⟨h.os, h.tape, h.output, by have := h.size; simp; omega, fun k hk hb hp => (Below.heap_alloc w' o k (Nat.lt_of_lt_of_le hk h.size)).trans (h.block k hk hb hp)⟩

theorem SK.below {w w' : World} {b n : Nat} {pv : Value} (h : SK w w' b pv) (hb : n ≤ b) (hn : n ≤ w.heap.size) (hp : ∀ k, pv.ownBlock = some k → n ≤ k) : Below n w w' :=
  ⟨h.os, h.tape, h.output, h.size, fun k hk => h.block k (Nat.lt_of_lt_of_le hk hn) (by omega) (fun e => by have := hp k e.symm; omega)⟩

theorem setArr0 {a0 a1 a2 a3 a4 v : Value} : (#[a0, a1, a2, a3, a4] : Array Value).setIfInBounds 0 v = #[v, a1, a2, a3, a4] := rfl

/-- The block that owns a slice is not the scanner's, so a store into the scanner leaves the slice. -/
theorem Scn.own_set {w : World} {B b : Nat} {g : Cfg} {y : Int} {pv ev : Value} (h : Scn w B b g y pv ev) (o : Nat) (v : Value) : (w.setCell ⟨b, o, none⟩ v).ownsRow B 3 1 pv g.ps.length (g.ps.map I64) :=
  h.own.kept (row := some b) ⟨rfl, rfl, rfl, by simp [World.setCell], fun k _ hne => Below.heap_setCell w ⟨b, o, none⟩ v k (fun e => hne (by rw [e]))⟩ (.inr h.ne)

theorem Scn.to {w : World} {B b : Nat} {g : Cfg} {y : Int} {pv ev : Value} (h : Scn w B b g y pv ev) (s : St) : Scn (w.setCell ⟨b, 0, none⟩ (stV s)) B b (g.to s) y pv ev :=
  ⟨heap_setCell_same w b 0 _ _ _ h.row, h.own_set _ _, h.ne⟩

theorem Scn.topped {w : World} {B b : Nat} {g : Cfg} {y : Int} {pv ev : Value} (h : Scn w B b g y pv ev) : Scn (w.setCell ⟨b, 1, none⟩ (.bool true)) B b { g with top := true } y pv ev :=
  ⟨heap_setCell_same w b 1 _ _ _ h.row, h.own_set _ _, h.ne⟩

theorem Scn.err {w : World} {B b : Nat} {g : Cfg} {y : Int} {pv ev : Value} (h : Scn w B b g y pv ev) (v : Value) (er : Option Int) : Scn (w.setCell ⟨b, 3, none⟩ v) B b { g with er := er } y pv v :=
  ⟨heap_setCell_same w b 3 _ _ _ h.row, h.own_set _ _, h.ne⟩

theorem Scn.bytes {w : World} {B b : Nat} {g : Cfg} {y : Int} {pv ev : Value} (h : Scn w B b g y pv ev) (y' : Int) : Scn (w.setCell ⟨b, 4, none⟩ (.int .i64 y')) B b g y' pv ev :=
  ⟨heap_setCell_same w b 4 _ _ _ h.row, h.own_set _ _, h.ne⟩

theorem Scn.alloc {w : World} {B b : Nat} {g : Cfg} {y : Int} {pv ev : Value} (h : Scn w B b g y pv ev) (o : Obj) : Scn (w.alloc o) B b g y pv ev :=
  ⟨(Below.heap_alloc w o b h.lt).trans h.row, h.own.alloc o, h.ne⟩

/-- A fault that has been told. -/
structure ErrAt (w w' : World) (pv' ev' : Value) (y : Int) : Prop where
  what : ∃ q t, ev' = .iface 74 (.pointer (some ⟨q, 0, none⟩)) ∧ w.heap.size ≤ q ∧ w'.heap[q]? = some (.cells #[.string t, .int .i64 y] 78 (0, 0)) ∧ pv'.ownBlock ≠ some q

/-- What a step leaves. -/
structure SRes (w : World) (B b : Nat) (g : Cfg) (y : Int) (pv ev : Value) (r : Cfg × Nat) (e : Ending) (w' : World) : Prop where
  what : ∃ pv' ev', e = .returned (.int .i64 (r.2 : Int)) ∧ Scn w' B b r.1 y pv' ev' ∧ SK w w' b pv ∧ PAt w pv pv' ∧ ((ev' = ev ∧ r.1.er = g.er) ∨ (r.1.er = some y ∧ ErrAt w w' pv' ev' y))

/-- A step that goes to another state, or stays. -/
theorem SRes.same {w : World} {B b : Nat} {g : Cfg} {y : Int} {pv ev : Value} {k : Nat} (h : Scn w B b g y pv ev) : SRes w B b g y pv ev (g, k) (.returned (.int .i64 (k : Int))) w :=
  ⟨pv, ev, rfl, h, SK.refl _ _ _, PAt.refl _ _, .inl ⟨rfl, rfl⟩⟩

theorem SRes.went {w : World} {B b : Nat} {g : Cfg} {y : Int} {pv ev : Value} {k : Nat} (h : Scn w B b g y pv ev) (s : St) : SRes w B b g y pv ev (g.to s, k) (.returned (.int .i64 (k : Int))) (w.setCell ⟨b, 0, none⟩ (stV s)) :=
  ⟨pv, ev, rfl, h.to s, (SK.refl _ _ _).set _ _, PAt.refl _ _, .inl ⟨rfl, rfl⟩⟩

/-- .. of which another function told. -/
theorem SRes.handed {w w' : World} {B b : Nat} {g : Cfg} {y : Int} {pv ev : Value} {r : Cfg × Nat} {e : Ending} (h : SRes w B b g y pv ev r e w') : ∃ k : Int, e = .returned (.int .i64 k) ∧ SRes w B b g y pv ev r (.returned (.int .i64 k)) w' := by
  obtain ⟨pv', ev', rfl, h⟩ := h
  exact ⟨_, rfl, pv', ev', rfl, h⟩

set_option maxRecDepth 100000 in
set_option maxHeartbeats 1000000 in
theorem error_any (B b : Nat) (g : Cfg) (y : Int) (pv ev : Value) (c : Int) (t : ByteArray) (ht : t.size ≤ 1000) (w : World) (h : Scn w B b g y pv ev) :
    Calls Tryz.prog 108 #[.pointer (some ⟨b, 0, none⟩), .int .u8 c, .string t] w (SRes w B b g y pv ev (g.fail y, 11)) := by
  obtain ⟨c0, c1, c2, c3, c4, f0, f1, f2, f3, f4⟩ := h.cells
  have hlt := h.lt
  have H := Lib.hid h
  have hbig : ¬ 9223372036854775807 < 18 + t.size := by omega
  clear h
  go_enter Tryz.func108, Tryz.ntmps108
  go_wp2_with fail
  go_ret
  refine ⟨pv, _, rfl, ((H.out.to .err).err _ _).alloc _, (((SK.refl _ _ _).set _ _).set _ _).alloc _, PAt.refl _ _, .inr ⟨rfl, w.heap.size, ⟨#[105, 110, 118, 97, 108, 105, 100, 32, 99, 104, 97, 114, 97, 99, 116, 101, 114, 32]⟩ ++ t, rfl, Nat.le_refl _, ?_, ?_⟩⟩
  · have h1 := heap_alloc_new ((w.setCell ⟨b, 0, none⟩ (stV .err)).setCell ⟨b, 3, none⟩ (.iface 74 (.pointer (some ⟨w.heap.size, 0, none⟩)))) (.cells #[.string (⟨#[105, 110, 118, 97, 108, 105, 100, 32, 99, 104, 97, 114, 97, 99, 116, 101, 114, 32]⟩ ++ t), .int .i64 y] 78)
    have h2 : ((w.setCell ⟨b, 0, none⟩ (stV .err)).setCell ⟨b, 3, none⟩ (.iface 74 (.pointer (some ⟨w.heap.size, 0, none⟩)))).heap.size = w.heap.size := by simp [World.setCell]
    rw [h2] at h1
    exact h1
  · intro hp
    have := (H.out.own.lt _ hp).2
    omega

set_option maxRecDepth 100000 in
set_option maxHeartbeats 1000000 in
theorem isSpace_any (c : Nat) (w : World) :
    Calls Tryz.prog 97 #[.int .u8 (c : Int)] w fun e w' => w' = w ∧ e = .returned (.bool (decide (isSp c))) := by
  by_cases h0 : c ≤ 32
  · have e0 : (c : Int) ≤ 32 := by omega
    by_cases h1 : c = 32
    · subst h1
      go_enter Tryz.func97, Tryz.ntmps97
      go_wp2
      go_ret
      exact ⟨rfl, rfl⟩
    have n1 : ((c : Int) == 32) = false := by rw [beq_eq_false_iff_ne]; omega
    by_cases h2 : c = 9
    · subst h2
      go_enter Tryz.func97, Tryz.ntmps97
      go_wp2
      go_ret
      exact ⟨rfl, rfl⟩
    have n2 : ((c : Int) == 9) = false := by rw [beq_eq_false_iff_ne]; omega
    by_cases h3 : c = 13
    · subst h3
      go_enter Tryz.func97, Tryz.ntmps97
      go_wp2
      go_ret
      exact ⟨rfl, rfl⟩
    have n3 : ((c : Int) == 13) = false := by rw [beq_eq_false_iff_ne]; omega
    by_cases h4 : c = 10
    · subst h4
      go_enter Tryz.func97, Tryz.ntmps97
      go_wp2
      go_ret
      exact ⟨rfl, rfl⟩
    have n4 : ((c : Int) == 10) = false := by rw [beq_eq_false_iff_ne]; omega
    have hd : decide (isSp c) = false := decide_eq_false (fun h => by unfold isSp at h; omega)
    rw [hd]
    clear hd
    go_enter Tryz.func97, Tryz.ntmps97
    go_wp2
    go_ret
    exact ⟨rfl, rfl⟩
  · have e0 : ¬ (c : Int) ≤ 32 := by omega
    have hd : decide (isSp c) = false := decide_eq_false (fun h => by unfold isSp at h; omega)
    rw [hd]
    clear hd
    go_enter Tryz.func97, Tryz.ntmps97
    go_wp2
    go_ret
    exact ⟨rfl, rfl⟩

theorem space_yes (c : Nat) (h : isSp c) (w : World) : Calls Tryz.prog 97 #[.int .u8 (c : Int)] w fun e w' => w' = w ∧ e = .returned (.bool true) :=
  (isSpace_any c w).mono fun e w' k => ⟨k.1, by rw [k.2, decide_eq_true h]⟩
theorem space_no (c : Nat) (h : ¬ isSp c) (w : World) : Calls Tryz.prog 97 #[.int .u8 (c : Int)] w fun e w' => w' = w ∧ e = .returned (.bool false) :=
  (isSpace_any c w).mono fun e w' k => ⟨k.1, by rw [k.2, decide_eq_false h]⟩

end Go.Proofs.YtlgmdcaoogiooaaGreatDoor
