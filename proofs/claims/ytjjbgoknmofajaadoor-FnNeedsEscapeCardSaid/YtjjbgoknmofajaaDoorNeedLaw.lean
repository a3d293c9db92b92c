/- FnNeedsEscape: its walk. -/
import Derived.Test.YtjjbgoknmofajaaDoorNeed
import Derived.Test.YtjjbgoknmofajaaDoorFits
namespace Go.Proofs.YtjjbgoknmofajaaDoor.Needs
open Go.RowKit Go.Proofs.YtjjbgoknmofajaaDoor

theorem strs1' {w : World} {b : Nat} {a : ByteArray} (h : w.cell? ⟨b, 0, none⟩ = some (.string a)) : Strs w b [a] := by
  intro j hj
  match j, hj with
  | 0, _ => exact h

set_option maxRecDepth 100000 in
set_option maxHeartbeats 2000000 in
theorem walk (f : Nat → Nat) (s : ByteArray) (hs : s.size ≤ maxLen) (w : World) (hT : EscTab f w) (hf : EscAll f) (hU : Lib.Utf8Tabs 3 4 w) :
    Calls Tryd.prog 3 #[.string s] w fun e w' => e = .returned (.bool true) ∧ Below w.heap.size w w' := by
  unfold maxLen at hs
  have h0s : 0 < w.heap.size := by have := Go.block_lt_of_cell (hT.cell 0 (by decide)); exact this
  have HT := Lib.hid hT
  have HF := Lib.hid hf
  have HU := Lib.hid hU
  clear hT hf hU
  by_cases h1 : 2147483647 < s.size
  · go_enter Tryd.func3, Tryd.ntmps3
    go_wp2
    go_ret
    exact ⟨rfl, Below.refl _ _⟩
  cases hfit : fitsB [s]
  · have H := Lib.hid hfit
    clear hfit
    go_enter Tryd.func3, Tryd.ntmps3
    go_wp2_with fail
    refine (fits8_any [s] _ _ _ _ rfl (by simp) (strs1' (by simp)) (sizes1 (by omega))).mono ?_
    rintro e w1 ⟨rfl, rfl⟩
    rw [H.out]
    go_wp2_with fail
    go_ret
    exact ⟨rfl, (Below.refl _ _).alloc (Nat.le_refl _) _⟩
  have hz : s.size ≤ 1000 := by simpa [fitsB] using hfit
  have H := Lib.hid hfit
  clear hfit
  go_enter Tryd.func3, Tryd.ntmps3
  go_wp2_with fail
  refine (fits8_any [s] _ _ _ _ rfl (by simp) (strs1' (by simp)) (sizes1 (by omega))).mono ?_
  rintro e w1 ⟨rfl, rfl⟩
  rw [H.out]
  obtain ⟨W, hW⟩ : ∃ W, W = w.alloc (.cells #[.string s] 9) := ⟨_, rfl⟩
  have hb0 : Below w.heap.size w W := by rw [hW]; exact (Below.refl _ _).alloc (Nat.le_refl _) _
  rw [← hW]
  have HB0 := Lib.hid hb0
  clear hW hb0
  go_wp2_with fail
  refine (hasBroken_any s (by omega) _).mono ?_
  rintro e w1 ⟨rfl, b, rfl, hb⟩
  cases b with
  | true =>
    clear hb
    go_wp2_with fail
    go_ret
    exact ⟨rfl, HB0.out⟩
  | false =>
    have HN := Lib.hid (hb rfl)
    clear hb
    go_wp2_with fail
    refine (implNeeds_any f s _ (HT.out.below HB0.out h0s) HF.out (Go.Proofs.Utf8Tabs_below HU.out HB0.out) (by omega)).mono ?_
    rintro e w2 ⟨b2, r, rfl, y1, y2⟩
    have B2 := Lib.hid b2
    have Y1 := Lib.hid y1
    have Y2 := Lib.hid y2
    clear b2 y1 y2
    go_wp2_with fail
    refine (simple_any s (by omega) _).mono ?_
    rintro e w3 ⟨b3, q, rfl, hq⟩
    have B3 := Lib.hid b3
    have HQ := Lib.hid hq
    clear b3 hq
    have hne : r = !q := by
      cases r with
      | false =>
        have : q = true := HQ.out.2 (Y1.out rfl)
        rw [this]
        rfl
      | true =>
        have : ¬ Calm s.data.toList := Y2.out rfl HN.out
        cases q with
        | false => rfl
        | true => exact absurd (HQ.out.1 rfl) this
    subst hne
    cases q with
    | false =>
      go_wp2_with fail
      go_ret
      exact ⟨rfl, below_step (below_step HB0.out B2.out) B3.out⟩
    | true =>
      go_wp2_with fail
      go_ret
      exact ⟨rfl, below_step (below_step HB0.out B2.out) B3.out⟩

end Go.Proofs.YtjjbgoknmofajaaDoor.Needs
