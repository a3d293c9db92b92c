/- The scanner of encoding/json: a new one, and the end of the input. -/
import Derived.Test.YtlgmdcaoogiooaaGreatDoorScanV
namespace Go.Proofs.YtlgmdcaoogiooaaGreatDoor
open Go.RowKit

/-- What a new scanner holds. -/
def newRow (y : Int) : Array Value := #[stV .bv, .bool false, .slice none 0 0, .nilIface, .int .i64 y]
def newCfg : Cfg := ⟨.bv, false, [], none⟩

theorem Scn.new {w : World} {b : Nat} {y : Int} (B : Nat) (h : w.heap[b]? = some (.cells (newRow y) 96 (0, 0))) : Scn w B b newCfg y (.slice none 0 0) .nilIface :=
  ⟨h, World.ownsRow_nil w B 3 1, by simp [Value.ownBlock]⟩

/-- What 'reset' leaves. -/
structure Rst (w : World) (b : Nat) (y : Int) (e : Ending) (w' : World) : Prop where
  what : e = .returned (.tuple #[])
  row : w'.heap[b]? = some (.cells (newRow y) 96 (0, 0))
  kept : SK w w' b (.slice none 0 0)

set_option maxRecDepth 100000 in
set_option maxHeartbeats 1000000 in
theorem reset_any (b : Nat) (y : Int) (x0 x1 x3 : Value) (w : World) (h : w.heap[b]? = some (.cells #[x0, x1, .slice none 0 0, x3, .int .i64 y] 96 (0, 0))) :
    Calls Tryz.prog 66 #[.pointer (some ⟨b, 0, none⟩)] w (Rst w b y) := by
  have c0 := cell_of_row w b 0 _ _ _ h
  have c1 := cell_of_row w b 1 _ _ _ h
  have c2 := cell_of_row w b 2 _ _ _ h
  have c3 := cell_of_row w b 3 _ _ _ h
  have f0 := frozen_of_row w b 0 _ _ h
  have f1 := frozen_of_row w b 1 _ _ h
  have f2 := frozen_of_row w b 2 _ _ h
  have f3 := frozen_of_row w b 3 _ _ h
  have hlt : b < w.heap.size := (Array.getElem?_eq_some_iff.1 h).1
  have HR := Lib.hid (heap_setCell_same _ b 1 _ _ (.bool false) (heap_setCell_same _ b 3 _ _ .nilIface (heap_setCell_same _ b 2 _ _ (.slice none 0 0) (heap_setCell_same w b 0 _ _ (stV .bv) h))))
  clear h
  go_enter Tryz.func66, Tryz.ntmps66
  go_wp2_with fail
  refine bodyPost_end (v := .tuple #[]) (by simp [results, Tryz.results66]) rfl ⟨rfl, HR.out, (((((SK.refl _ _ _).set _ _).set _ _).set _ _).set _ _)⟩

/-- What 'newScanner' leaves. -/
structure NewS (w : World) (e : Ending) (w' : World) : Prop where
  what : e = .returned (.pointer (some ⟨w.heap.size, 0, none⟩))
  row : w'.heap[w.heap.size]? = some (.cells (newRow 0) 96 (0, 0))
  below : Below w.heap.size w w'

set_option maxRecDepth 100000 in
set_option maxHeartbeats 1000000 in
theorem newScanner_any (w : World) :
    Calls Tryz.prog 42 #[] w (NewS w) := by
  go_enter Tryz.func42, Tryz.ntmps42
  go_wp2_with fail
  refine (reset_any w.heap.size 0 _ _ _ _ (heap_alloc_new w _)).mono ?_
  rintro e w1 ⟨rfl, hrow, hk⟩
  have HR := Lib.hid hrow
  have HK := Lib.hid hk
  clear hrow hk
  go_wp2_with fail
  go_ret
  exact ⟨rfl, HR.out, ((Below.refl _ w).alloc (Nat.le_refl _) _).trans (HK.out.below (Nat.le_refl _) (by simp) (fun k h => by simp [Value.ownBlock] at h))⟩

/-- An error is there exactly if a fault was told. -/
def EvIs (er : Option Int) (ev : Value) : Prop := (er = none → ev = .nilIface) ∧ (er ≠ none → ∃ u x, ev = .iface u x)

/-- The end of the input. -/
def eofC (g : Cfg) (y : Int) : Cfg × Nat :=
  if g.er ≠ none then (g, 11) else if g.top = true then (g, 10)
  else if (stepC g y 32).1.top = true then ((stepC g y 32).1, 10)
  else if (stepC g y 32).1.er = none then ({ (stepC g y 32).1 with er := some y }, 11) else ((stepC g y 32).1, 11)

set_option maxRecDepth 100000 in
set_option maxHeartbeats 2000000 in
theorem eof_any (B b : Nat) (g : Cfg) (y : Int) (pv ev : Value) (w : World) (h : Scn w B b g y pv ev) (hB : B ≤ w.heap.size) (hl : g.ps.length < 10000) (hw : g.st = .bse → g.ps ≠ []) (hev : EvIs g.er ev) :
    Calls Tryz.prog 45 #[.pointer (some ⟨b, 0, none⟩)] w (SRes w B b g y pv ev (eofC g y)) := by
  obtain ⟨c0, c1, c2, c3, c4, f0, f1, f2, f3, f4⟩ := h.cells
  unfold stV at c0
  have hlt := h.lt
  have H := Lib.hid h
  have HL := Lib.hid hl
  have HW := Lib.hid hw
  clear h hl hw
  obtain ⟨er, her⟩ : ∃ er, g.er = er := ⟨_, rfl⟩
  rw [her] at hev
  have HER := Lib.hid her
  clear her
  cases er with
  | some o =>
    obtain ⟨u, x, rfl⟩ := hev.2 (by simp)
    have hr : eofC g y = (g, 11) := by unfold eofC; rw [HER.out]; exact if_pos (by simp)
    rw [hr]
    clear hr hev
    go_enter Tryz.func45, Tryz.ntmps45
    go_wp2_with fail
    go_ret
    exact SRes.same H.out
  | none =>
    obtain rfl := hev.1 rfl
    clear hev
    obtain ⟨tp, htp⟩ : ∃ tp, g.top = tp := ⟨_, rfl⟩
    rw [htp] at c1
    have HTP := Lib.hid htp
    clear htp
    cases tp with
    | true =>
      have hr : eofC g y = (g, 10) := by unfold eofC; rw [HER.out, if_neg (by simp)]; exact if_pos HTP.out
      rw [hr]
      clear hr
      go_enter Tryz.func45, Tryz.ntmps45
      go_wp2_with fail
      go_ret
      exact SRes.same H.out
    | false =>
      have hr : eofC g y = if (stepC g y 32).1.top = true then ((stepC g y 32).1, 10) else if (stepC g y 32).1.er = none then ({ (stepC g y 32).1 with er := some y }, 11) else ((stepC g y 32).1, 11) := by
        unfold eofC; rw [HER.out, if_neg (by simp), if_neg (by rw [HTP.out]; decide)]
      have HR := Lib.hid hr
      clear hr
      obtain ⟨r, hrr⟩ : ∃ r, stepC g y 32 = r := ⟨_, rfl⟩
      have HRR := Lib.hid hrr
      have hrun := run_st g.st
      clear hrr
      go_enter Tryz.func45, Tryz.ntmps45
      go_wp2_with fail
      refine (step_any B b g y pv .nilIface 32 _ H.out hB HL.out HW.out).mono ?_
      rw [HRR.out]
      rintro e w1 ⟨pv1, ev1, rfl, hs, hk, ha, hx⟩
      have hrE := HR.out
      rw [HRR.out] at hrE
      obtain ⟨⟨rs, rt, rp, re⟩, rk⟩ := r
      simp only at hrE
      have HRE := Lib.hid hrE
      obtain ⟨d0, d1, d2, d3, d4, g0, g1, g2, g3, g4⟩ := hs.cells
      have hlt1 := hs.lt
      have HS := Lib.hid hs
      have HK := Lib.hid hk
      have HA := Lib.hid ha
      clear hs hk ha hrE hrun c0 c1 c2 c3 c4 f0 f1 f2 f3 f4
      simp only at d1 hx
      cases rt with
      | true =>
        have HF := Lib.hid (HRE.out.trans (if_pos rfl))
        have hx' : (ev1 = .nilIface ∧ re = g.er) ∨ (re = some y ∧ ErrAt w w1 pv1 ev1 y) := hx
        have HX := Lib.hid hx'
        clear hx hx'
        go_wp2_with fail
        go_ret
        rw [HF.out]
        exact ⟨pv1, ev1, rfl, HS.out, HK.out, HA.out, HX.out⟩
      | false =>
        have HF0 := Lib.hid (HRE.out.trans (if_neg Bool.false_ne_true))
        rcases hx with ⟨rfl, hre⟩ | ⟨rfl, hat⟩
        · rw [HER.out] at hre
          subst hre
          have HF := Lib.hid (HF0.out.trans (if_pos rfl))
          go_wp2_with fail
          go_ret
          rw [HF.out]
          refine ⟨pv1, _, rfl, (HS.out.err _ (some y)).alloc _, (HK.out.set _ _).alloc _, HA.out, .inr ⟨rfl, w1.heap.size, ⟨#[117, 110, 101, 120, 112, 101, 99, 116, 101, 100, 32, 101, 110, 100, 32, 111, 102, 32, 74, 83, 79, 78, 32, 105, 110, 112, 117, 116]⟩, rfl, HK.out.size, ?_, ?_⟩⟩
          · have h1 := heap_alloc_new (w1.setCell ⟨b, 3, none⟩ (.iface 74 (.pointer (some ⟨w1.heap.size, 0, none⟩)))) (.cells #[.string ⟨#[117, 110, 101, 120, 112, 101, 99, 116, 101, 100, 32, 101, 110, 100, 32, 111, 102, 32, 74, 83, 79, 78, 32, 105, 110, 112, 117, 116]⟩, .int .i64 y] 78)
            have h2 : (w1.setCell ⟨b, 3, none⟩ (.iface 74 (.pointer (some ⟨w1.heap.size, 0, none⟩)))).heap.size = w1.heap.size := by simp [World.setCell]
            rw [h2] at h1
            exact h1
          · intro hp
            have := (HS.out.own.lt _ hp).2
            omega
        · have HF := Lib.hid (HF0.out.trans (if_neg (by simp)))
          obtain ⟨q, t, rfl, hq1, hq2, hq3⟩ := hat
          have HQ := Lib.hid (And.intro hq1 (And.intro hq2 hq3))
          clear hq1 hq2 hq3
          go_wp2_with fail
          go_ret
          rw [HF.out]
          exact ⟨pv1, _, rfl, HS.out, HK.out, HA.out, .inr ⟨rfl, q, t, rfl, HQ.out.1, HQ.out.2.1, HQ.out.2.2⟩⟩

end Go.Proofs.YtlgmdcaoogiooaaGreatDoor
