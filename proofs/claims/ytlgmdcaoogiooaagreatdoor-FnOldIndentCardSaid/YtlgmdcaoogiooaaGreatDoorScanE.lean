/- The scanner of encoding/json: what is open, and the ends of values. -/
import Derived.Test.YtlgmdcaoogiooaaGreatDoorScanF
import Derived.Test.YtlgmdcaoogiooaaGreatDoorPush
namespace Go.Proofs.YtlgmdcaoogiooaaGreatDoor
open Go.RowKit

theorem el_int : El8 Tryz.prog 60 3 (.int .i64 0) := ⟨by kernel_rfl, by kernel_rfl, rfl⟩

/-- The form of what is open. -/
theorem Scn.form {w : World} {B b : Nat} {g : Cfg} {y : Int} {pv ev : Value} (h : Scn w B b g y pv ev) {i : List Nat} {p : Nat} (hps : g.ps = i ++ [p]) :
    ∃ q cap cur, pv = .slice (some ⟨q, 0, none⟩) (i.length + 1) cap ∧ i.length + 1 ≤ cap ∧ cap ≤ maxLen ∧ q ≠ b ∧ B ≤ q ∧ w.heap[q]? = some (.cells cur 3 (0, 0)) ∧ cur.size = cap ∧ cur.toList.take (i.length + 1) = (i ++ [p]).map I64 ∧
      w.cell? ⟨q, i.length, none⟩ = some (I64 p) ∧ w.frozen? ⟨q, i.length, none⟩ = false := by
  have hown := h.own
  rw [hps, List.length_append, List.length_singleton] at hown
  rcases hown.2 with ⟨_, h0⟩ | ⟨q, cap, cur, hpv, hB, hq, hn, hc, hcs, ht⟩
  · omega
  · rw [Nat.mul_one] at hcs ht
    refine ⟨q, cap, cur, hpv, hn, hc, ?_, hB, hq, hcs, ht, ?_, frozen_of_row w q _ _ _ hq⟩
    · have := h.ne
      rw [hpv] at this
      intro e
      exact this (by rw [e]; rfl)
    · rw [cell_of_row w q _ _ _ _ hq]
      have h1 : (cur.toList.take (i.length + 1))[i.length]? = ((i ++ [p]).map I64)[i.length]? := by rw [ht]
      rw [List.getElem?_take_of_lt (by omega)] at h1
      rw [← Array.getElem?_toList, h1]
      simp

/-- The innermost one is stored anew. -/
theorem Scn.turned {w : World} {B b : Nat} {g : Cfg} {y : Int} {pv ev : Value} (h : Scn w B b g y pv ev) {i : List Nat} {p : Nat} (hps : g.ps = i ++ [p]) {q cap : Nat} (hpv : pv = .slice (some ⟨q, 0, none⟩) (i.length + 1) cap) (x : Nat) :
    Scn (w.setCell ⟨q, i.length, none⟩ (I64 x)) B b { g with ps := i ++ [x] } y pv ev := by
  obtain ⟨q', cap', cur, hpv', h1, h2, h3, h4, h5, h6, h7, h8, _⟩ := h.form hps
  rw [hpv] at hpv'
  simp only [Value.slice.injEq, Option.some.injEq, Addr.mk.injEq, and_true, true_and] at hpv'
  obtain ⟨rfl, rfl⟩ := hpv'
  refine ⟨?_, ?_, h.ne⟩
  · rw [Below.heap_setCell w _ _ b (by show b ≠ q; omega)]
    exact h.row
  · show (w.setCell ⟨q, i.length, none⟩ (I64 x)).ownsRow B 3 1 pv (i ++ [x]).length ((i ++ [x]).map I64)
    refine ⟨by simp, .inr ⟨q, cap, _, ?_, h4, heap_setCell_same w q _ _ _ _ h5, by simpa using h1, h2, by simp [h6], ?_⟩⟩
    · rw [hpv]; simp
    · rw [Nat.mul_one, List.length_append, List.length_singleton, Array.toList_setIfInBounds, List.take_set, h7]
      simp

/-- The innermost one is taken off. -/
theorem Scn.popped {w : World} {B b : Nat} {g : Cfg} {y : Int} {pv ev : Value} (h : Scn w B b g y pv ev) {i : List Nat} {p : Nat} (hps : g.ps = i ++ [p]) {q cap : Nat} (hpv : pv = .slice (some ⟨q, 0, none⟩) (i.length + 1) cap) :
    Scn (w.setCell ⟨b, 2, none⟩ (.slice (some ⟨q, 0, none⟩) i.length cap)) B b { g with ps := i } y (.slice (some ⟨q, 0, none⟩) i.length cap) ev := by
  obtain ⟨q', cap', cur, hpv', h1, h2, h3, h4, h5, h6, h7, h8, _⟩ := h.form hps
  rw [hpv] at hpv'
  simp only [Value.slice.injEq, Option.some.injEq, Addr.mk.injEq, and_true, true_and] at hpv'
  obtain ⟨rfl, rfl⟩ := hpv'
  refine ⟨heap_setCell_same w b 2 _ _ _ h.row, ⟨by simp, .inr ⟨q, cap, cur, rfl, h4, ?_, (by show i.length ≤ cap; omega), h2, by rw [Nat.mul_one]; exact h6, ?_⟩⟩, ?_⟩
  · rw [Below.heap_setCell w _ _ q (by show q ≠ b; exact h3)]
    exact h5
  · rw [Nat.mul_one]
    have := congrArg (List.take i.length) h7
    rw [List.take_take, show min i.length (i.length + 1) = i.length by omega] at this
    rw [this]
    simp
  · intro e
    have : q = b := by simpa [Value.ownBlock] using e
    exact h3 this

/-- What 'popParseState' leaves. -/
structure PRes (w : World) (B b : Nat) (g : Cfg) (y : Int) (pv ev : Value) (e : Ending) (w' : World) : Prop where
  what : ∃ pv', e = .returned (.tuple #[]) ∧ Scn w' B b g.pop y pv' ev ∧ SK w w' b pv ∧ PAt w pv pv'

set_option maxRecDepth 100000 in
set_option maxHeartbeats 1000000 in
theorem pop_any (B b : Nat) (g : Cfg) (y : Int) (pv ev : Value) (w : World) (h : Scn w B b g y pv ev) (i : List Nat) (p : Nat) (hps : g.ps = i ++ [p]) :
    Calls Tryz.prog 120 #[.pointer (some ⟨b, 0, none⟩)] w (PRes w B b g y pv ev) := by
  obtain ⟨q, cap, cur, rfl, h1, h2, h3, h4, h5, h6, h7, h8, h9⟩ := h.form hps
  unfold maxLen at h2
  obtain ⟨c0, c1, c2, c3, c4, f0, f1, f2, f3, f4⟩ := h.cells
  have hlt := h.lt
  have HP := Lib.hid (h.popped hps rfl)
  have hdl : g.ps.dropLast = i := by rw [hps, List.dropLast_concat]
  have HDL := Lib.hid hdl
  have i1 : (i.length : Int) ≤ (cap : Int) := by omega
  clear h h5 h6 h7 h8 h9 hps hdl
  by_cases hi : i = []
  · subst hi
    have hg : g.pop = { g with ps := [], st := .et, top := true } := if_pos HDL.out
    have HG := Lib.hid hg
    clear hg
    go_enter Tryz.func120, Tryz.ntmps120
    go_wp2_with fail
    refine bodyPost_end (v := .tuple #[]) (by simp [results, Tryz.results120]) rfl ⟨.slice (some ⟨q, 0, none⟩) 0 cap, rfl, ?_, (((SK.refl _ _ _).set _ _).set _ _).set _ _, .inl rfl⟩
    rw [HG.out]
    exact (HP.out.to .et).topped
  · have hn : ((i.length : Int) == 0) = false := by
      rw [beq_eq_false_iff_ne]
      intro e
      exact hi (List.eq_nil_of_length_eq_zero (by omega))
    have hg : g.pop = { g with ps := i, st := .ev } := by unfold Cfg.pop; rw [HDL.out]; exact if_neg hi
    have HG := Lib.hid hg
    clear hg hi
    go_enter Tryz.func120, Tryz.ntmps120
    go_wp2_with fail
    refine bodyPost_end (v := .tuple #[]) (by simp [results, Tryz.results120]) rfl ⟨.slice (some ⟨q, 0, none⟩) i.length cap, rfl, ?_, ((SK.refl _ _ _).set _ _).set _ _, .inl rfl⟩
    rw [HG.out]
    exact HP.out.to .ev

/-- What is owned, with a further element, is the scanner's. -/
theorem Scn.pushed {w w1 : World} {B b : Nat} {g : Cfg} {y : Int} {pv ev v1 : Value} (h : Scn w B b g y pv ev) (p : Nat) (hown : w1.ownsRow B 3 1 v1 (g.ps.length + 1) (g.ps.map I64 ++ [I64 p])) (hg : w.grownBy w1 pv.ownBlock) (hat : PAt w pv v1) :
    Scn (w1.setCell ⟨b, 2, none⟩ v1) B b { g with ps := g.ps ++ [p] } y v1 ev := by
  have hlt := h.lt
  have hrow : w1.heap[b]? = some (.cells #[stV g.st, .bool g.top, pv, ev, .int .i64 y] 96 (0, 0)) := (hg.block b hlt (fun e => h.ne e.symm)).trans h.row
  have hne : v1.ownBlock ≠ some b := by
    rcases hat with e | e
    · rw [e]; exact h.ne
    · intro k; have := e b k; omega
  refine ⟨heap_setCell_same w1 b 2 _ _ _ hrow, ?_, hne⟩
  show (w1.setCell ⟨b, 2, none⟩ v1).ownsRow B 3 1 v1 (g.ps ++ [p]).length ((g.ps ++ [p]).map I64)
  rw [List.length_append, List.length_singleton, List.map_append]
  exact hown.kept (row := some b) ⟨rfl, rfl, rfl, by simp [World.setCell], fun k _ hk => Below.heap_setCell w1 ⟨b, 2, none⟩ v1 k (fun e => hk (by rw [e]))⟩ (.inr hne)

/-- What 'pushParseState' leaves. -/
structure URes (w : World) (B b : Nat) (g : Cfg) (y : Int) (pv ev : Value) (p : Nat) (k : Int) (e : Ending) (w' : World) : Prop where
  what : ∃ pv', e = .returned (.int .i64 k) ∧ Scn w' B b { g with ps := g.ps ++ [p] } y pv' ev ∧ SK w w' b pv ∧ PAt w pv pv'

set_option maxRecDepth 100000 in
set_option maxHeartbeats 2000000 in
theorem push_any (B b : Nat) (g : Cfg) (y : Int) (pv ev : Value) (c k : Int) (p : Nat) (w : World) (h : Scn w B b g y pv ev) (hB : B ≤ w.heap.size) (hl : g.ps.length < 10000) :
    Calls Tryz.prog 99 #[.pointer (some ⟨b, 0, none⟩), .int .u8 c, .int .i64 (p : Int), .int .i64 k] w (URes w B b g y pv ev p k) := by
  obtain ⟨c0, c1, c2, c3, c4, f0, f1, f2, f3, f4⟩ := h.cells
  have hlt := h.lt
  have H := Lib.hid h
  have hform : (pv = .slice none 0 0) ∨ ∃ q cap, pv = .slice (some ⟨q, 0, none⟩) g.ps.length cap := by
    rcases h.own.2 with h | ⟨q, cap, cur, h1, _⟩
    · exact .inl h.1
    · exact .inr ⟨q, cap, h1⟩
  have hl2 : (g.ps.length : Int) + 1 ≤ 10000 := by omega
  have hl3 : g.ps.length < 1000000 := by omega
  have key : ∀ (e : Ending) (v1 : Value) (w1 : World), w1.ownsRow B 3 1 v1 (g.ps.length + 1) (g.ps.map I64 ++ [I64 p]) → (w.alloc (.cells #[I64 p] 3)).grownBy w1 pv.ownBlock → PAt (w.alloc (.cells #[I64 p] 3)) pv v1 → e = .returned (.int .i64 k) → URes w B b g y pv ev p k e (w1.setCell ⟨b, 2, none⟩ v1) := fun e v1 w1 ho hg ha he => by
    have hg2 := (World.grownBy_alloc w (.cells #[I64 p] 3) pv.ownBlock).trans hg
    have ha2 : PAt w pv v1 := by
      rcases ha with e | e
      · exact .inl e
      · exact .inr (fun x hx => by have := e x hx; simp at this; omega)
    exact ⟨v1, he, H.out.pushed p ho hg2 ha2, SK.set ⟨hg2.os, hg2.tape, hg2.output, hg2.size, fun j hj _ hp => hg2.block j hj hp⟩ _ _, ha2⟩
  have cells : ∀ w1 : World, (w.alloc (.cells #[I64 p] 3)).grownBy w1 pv.ownBlock → w1.cell? ⟨b, 2, none⟩ = some pv ∧ w1.frozen? ⟨b, 2, none⟩ = false ∧ b < w1.heap.size := fun w1 hg => by
    have hg2 := (World.grownBy_alloc w (.cells #[I64 p] 3) pv.ownBlock).trans hg
    have e := hg2.block b hlt (fun e => H.out.ne e.symm)
    exact ⟨(World.cell?_of_block (a := ⟨b, 2, none⟩) e).trans c2, (World.frozen?_of_block (a := ⟨b, 2, none⟩) e).trans f2, Nat.lt_of_lt_of_le hlt hg2.size⟩
  have HKey := Lib.hid key
  have HCells := Lib.hid cells
  clear h key cells hl
  rcases hform with rfl | ⟨q0, cap0, rfl⟩
  all_goals
    go_enter Tryz.func99, Tryz.ntmps99
    go_wp2_with (first
      | (at_builtin
         refine wpList_push el_int rfl (.tmp 13) (.tmp 15) rfl B g.ps.length (g.ps.map I64) (H.out.own.alloc _) (by rfl) ⟨w.heap.size, 0, none⟩ 1 (I64 p) (by rfl) (one_new w _ _) (by intro u hu; simp at hu; subst hu; rfl) hl3 (by simp; omega) ?_
         intro q cap w1 own1 grow1 at1
         obtain ⟨d2, d3, d4⟩ := HCells.out w1 grow1
         have O1 := Lib.hid own1
         have G1 := Lib.hid grow1
         have A1 := Lib.hid at1
         clear own1 grow1 at1))
    go_ret
    exact HKey.out _ _ _ O1.out G1.out A1.out rfl

end Go.Proofs.YtlgmdcaoogiooaaGreatDoor
