/- Reading a string step by step agrees with the reference (plain). -/
import Derived.Test.YtifemmjblamfkaaDoorStrE
namespace Go.Proofs.YtifemmjblamfkaaDoor.Wire
open Go.RowKit Go.Proofs.YtifemmjblamfkaaDoor

theorem esc_simple {lo : Bool} {l : List UInt8} {k : Nat} (h : simpleE (seeB l k) = true) : mEscape lo l k = (true, k + 1) := if_pos h

theorem esc_unit1 {lo : Bool} {l : List UInt8} {k : Nat} (hu : seeB l k = 117) (h : mUnit lo false l (k + 1) = (true, k + 1 + 4, false)) : mEscape lo l k = (true, k + 5) := by
  unfold mEscape
  rw [hu, if_neg (by decide), if_pos rfl, h]
  rw [if_neg (by simp)]

theorem esc_unit2 {l : List UInt8} {k : Nat} (hu : seeB l k = 117) (h : mUnit false false l (k + 1) = (true, k + 1 + 4, true)) (h1 : (mNeed l 92 92 (k + 1 + 4)).1 = true) (h2 : (mNeed l 117 117 (k + 1 + 4 + 1)).1 = true) (h3 : mUnit false true l (k + 1 + 4 + 1 + 1) = (true, k + 1 + 4 + 1 + 1 + 4, false)) :
    mEscape false l k = (true, k + 11) := by
  unfold mEscape
  rw [hu, if_neg (by decide), if_pos rfl, h]
  rw [if_pos ⟨rfl, rfl⟩]
  simp only
  rw [if_pos h1, if_pos h2, h3]

theorem esc_unit_no {lo : Bool} {l : List UInt8} {k : Nat} (hu : seeB l k = 117) (h : (mUnit lo false l (k + 1)).1 = false) : mEscape lo l k = (false, (mUnit lo false l (k + 1)).2.1) := by
  unfold mEscape
  rw [hu, if_neg (by decide), if_pos rfl, h]
  rw [if_neg (by simp)]

theorem esc_other {lo : Bool} {l : List UInt8} {k : Nat} (h : simpleE (seeB l k) = false) (hu : seeB l k ≠ 117) : mEscape lo l k = (false, k) := by
  unfold mEscape
  rw [h, if_neg (by decide), if_neg hu]

/-- The two ways of naming the simple escapes. -/
theorem simple_same (c : UInt8) : simpleE ((c.toNat : Nat) : Int) = simpleB c := by
  have h : ∀ n : Fin 256, simpleE ((n.val : Nat) : Int) = simpleB (UInt8.ofNat n.val) := by decide +kernel
  have := h ⟨c.toNat, c.toNat_lt⟩
  rwa [UInt8.ofNat_toNat] at this

theorem some_ne {l : List UInt8} {k : Nat} {c d : UInt8} (h : l[k]? = some c) (e : l[k]? = some d) : c = d := Option.some.inj (h.symm.trans e)

/-- Reading by the reference is told once. -/
theorem QRun.one {lo : Bool} {l : List UInt8} {k : Nat} {r : Bool × Nat} (h : QRun lo l k r) : ∀ q, QRun lo l k q → r = q := by
  induction h with
  | eof h1 =>
    intro q hq
    have hn := List.getElem?_eq_none h1
    cases hq <;> simp_all
  | done h1 =>
    intro q hq
    cases hq with
    | done => rfl
    | eof e => simp [List.getElem?_eq_none e] at h1
    | escNo e => cases some_ne h1 e
    | esc e => cases some_ne h1 e
    | ctrl e x => cases some_ne h1 e; exfalso; revert x; decide
    | plain e x y => exact absurd (some_ne e h1) y
    | rune e x => cases some_ne h1 e; exfalso; revert x; decide
    | runeNo e x => cases some_ne h1 e; exfalso; revert x; decide
  | escNo h1 h2 =>
    intro q hq
    cases hq with
    | done e => cases some_ne h1 e
    | eof e => simp [List.getElem?_eq_none e] at h1
    | escNo e e2 => rw [h2] at e2; cases e2; rfl
    | esc e e2 => rw [h2] at e2; cases e2
    | ctrl e x => cases some_ne h1 e; exfalso; revert x; decide
    | plain e x y z => exact absurd (some_ne e h1) z
    | rune e x => cases some_ne h1 e; exfalso; revert x; decide
    | runeNo e x => cases some_ne h1 e; exfalso; revert x; decide
  | esc h1 h2 _ ih =>
    intro q hq
    cases hq with
    | done e => cases some_ne h1 e
    | eof e => simp [List.getElem?_eq_none e] at h1
    | escNo e e2 => rw [h2] at e2; cases e2
    | esc e e2 e3 => rw [h2] at e2; cases e2; exact ih _ e3
    | ctrl e x => cases some_ne h1 e; exfalso; revert x; decide
    | plain e x y z => exact absurd (some_ne e h1) z
    | rune e x => cases some_ne h1 e; exfalso; revert x; decide
    | runeNo e x => cases some_ne h1 e; exfalso; revert x; decide
  | ctrl h1 h2 =>
    intro q hq
    cases hq with
    | done e => cases some_ne e h1; exfalso; revert h2; decide
    | eof e => simp [List.getElem?_eq_none e] at h1
    | escNo e e2 => cases some_ne e h1; exfalso; revert h2; decide
    | esc e e2 e3 => cases some_ne e h1; exfalso; revert h2; decide
    | ctrl e x => rfl
    | plain e x y z => cases some_ne e h1; omega
    | rune e x => cases some_ne e h1; omega
    | runeNo e x => cases some_ne e h1; omega
  | plain h1 h2 h3 h4 h5 _ ih =>
    intro q hq
    cases hq with
    | done e => exact absurd (some_ne h1 e) h3
    | eof e => simp [List.getElem?_eq_none e] at h1
    | escNo e e2 => exact absurd (some_ne h1 e) h4
    | esc e e2 e3 => exact absurd (some_ne h1 e) h4
    | ctrl e x => cases some_ne e h1; omega
    | plain e x y z u v => exact ih _ v
    | rune e x y => cases some_ne e h1; rcases h5 with h5 | h5; omega; rw [y] at h5; cases h5
    | runeNo e x y => cases some_ne e h1; rcases h5 with h5 | h5; omega; rw [y] at h5; cases h5
  | rune h1 h2 h3 h4 _ ih =>
    intro q hq
    cases hq with
    | done e => cases some_ne e h1; exfalso; revert h2; decide
    | eof e => simp [List.getElem?_eq_none e] at h1
    | escNo e e2 => cases some_ne e h1; exfalso; revert h2; decide
    | esc e e2 e3 => cases some_ne e h1; exfalso; revert h2; decide
    | ctrl e x => cases some_ne e h1; omega
    | plain e x y z u v => cases some_ne e h1; rcases u with u | u; omega; rw [h3] at u; cases u
    | rune e x y e2 e3 => rw [h4] at e2; cases e2; exact ih _ e3
    | runeNo e x y e2 => rw [h4] at e2; cases e2
  | runeNo h1 h2 h3 h4 =>
    intro q hq
    cases hq with
    | done e => cases some_ne e h1; exfalso; revert h2; decide
    | eof e => simp [List.getElem?_eq_none e] at h1
    | escNo e e2 => cases some_ne e h1; exfalso; revert h2; decide
    | esc e e2 e3 => cases some_ne e h1; exfalso; revert h2; decide
    | ctrl e x => cases some_ne e h1; omega
    | plain e x y z u v => cases some_ne e h1; rcases u with u | u; omega; rw [h3] at u; cases u
    | rune e x y e2 e3 => rw [h4] at e2; cases e2
    | runeNo e x y e2 => rw [h4] at e2; cases e2; rfl

end Go.Proofs.YtifemmjblamfkaaDoor.Wire
