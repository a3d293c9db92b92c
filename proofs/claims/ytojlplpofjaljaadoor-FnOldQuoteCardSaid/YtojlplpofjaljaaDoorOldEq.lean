/- The package's and the reference's text of a character are one. -/
import Derived.Test.YtojlplpofjaljaaDoorQuoWalkB
import Derived.Test.YtojlplpofjaljaaDoorUnit
namespace Go.Proofs.YtojlplpofjaljaaDoor
open Go.RowKit

/-- What the two tables must hold. -/
structure SafeTabs (hs ss : Nat → Bool) : Prop where
  html : ∀ c, c < 128 → (hs c = true ↔ (32 ≤ c ∧ c ≠ 34 ∧ c ≠ 92 ∧ c ≠ 38 ∧ c ≠ 60 ∧ c ≠ 62))
  safe : ∀ c, c < 128 → (ss c = true ↔ (32 ≤ c ∧ c ≠ 34 ∧ c ≠ 92))

def hsD (c : Nat) : Bool := decide (32 ≤ c ∧ c ≠ 34 ∧ c ≠ 92 ∧ c ≠ 38 ∧ c ≠ 60 ∧ c ≠ 62)
def ssD (c : Nat) : Bool := decide (32 ≤ c ∧ c ≠ 34 ∧ c ≠ 92)

theorem one_eq : ∀ (html : Bool) (c : Fin 128), fq (safeB hsD ssD html) [UInt8.ofNat c.val] = Exact.qp html true [UInt8.ofNat c.val] := by decide +kernel

theorem many_eq {html : Bool} {safe : Nat → Bool} {c : List UInt8} (hc : CharAt c c.length) (h2 : 2 ≤ c.length) : fq safe c = Exact.qp html true c := by
  obtain ⟨r, _, h3, _, _, _, _, h7⟩ := decode_char' ⟨c.toArray⟩ 0 c.length (by simpa using hc)
  have hr : rv c = r := by simpa using h7.symm
  have henc : Lib.encodeRune (r : Int) = c := by simpa using h3
  have hhead : 128 ≤ (c.headD 0).toNat := by
    rcases hc with ⟨e, _⟩ | ⟨_, a, b, t, e, h1, _⟩ | ⟨_, a, b, d, t, e, h1, _⟩ | ⟨_, a, b, d, f, t, e, h1, _⟩
    · omega
    · rw [e]; show 128 ≤ a.toNat; omega
    · rw [e]; show 128 ≤ a.toNat; omega
    · rw [e]; show 128 ≤ a.toNat; omega
  have hne : ∀ x : UInt8, x.toNat < 128 → c.headD 0 ≠ x := fun x hx e => by rw [e] at hhead; omega
  have hone : ∀ x : UInt8, c ≠ [x] := fun x e => by rw [e] at h2; simp at h2
  have hfq : fq safe c = (if rv c = 8232 then [92, 117, 50, 48, 50, 56] else if rv c = 8233 then [92, 117, 50, 48, 50, 57] else c) := by
    match c, h2 with
    | a :: b :: t, _ => rfl
  rw [hfq]
  by_cases k1 : c = [226, 128, 168]
  · subst k1
    cases html <;> decide +kernel
  · by_cases k2 : c = [226, 128, 169]
    · subst k2
      cases html <;> decide +kernel
    · have n1 : ¬ rv c = 8232 := fun e => k1 (by
        rw [← henc, ← hr, e]
        decide +kernel)
      have n2 : ¬ rv c = 8233 := fun e => k2 (by
        rw [← henc, ← hr, e]
        decide +kernel)
      rw [if_neg n1, if_neg n2]
      have hmk : Exact.mk html true c = [] := by
        unfold Exact.mk
        rw [if_neg (fun h => by rcases h.2 with h | h | h <;> exact hone _ h), if_neg (fun h => k1 h.2), if_neg (fun h => k2 h.2)]
      unfold Exact.qp
      rw [if_neg (by rw [hmk]; simp), if_neg (fun h => by rcases h with h | h; exact hne 34 (by decide) h; exact hne 92 (by decide) h), if_neg (hne 8 (by decide)), if_neg (hne 12 (by decide)), if_neg (hne 10 (by decide)), if_neg (hne 13 (by decide)), if_neg (hne 9 (by decide)), if_neg (by omega)]

theorem chunk_eq {hs ss : Nat → Bool} (hT : SafeTabs hs ss) (html : Bool) (c : List UInt8) (hc : CharAt c c.length) : fq (safeB hs ss html) c = Exact.qp html true c := by
  by_cases h2 : 2 ≤ c.length
  · exact many_eq hc h2
  · match c, hc with
    | [], hc => have := hc.le4; simp at this
    | [a], hc =>
      have ha : a.toNat < 128 := by
        rcases hc with ⟨_, x, t, e, h1⟩ | ⟨e, _⟩ | ⟨e, _⟩ | ⟨e, _⟩
        · simp at e; rw [e.1]; exact h1
        · simp at e
        · simp at e
        · simp at e
      have h := one_eq html ⟨a.toNat, ha⟩
      simp only [UInt8.ofNat_toNat] at h
      rw [← h]
      have e1 : hs a.toNat = hsD a.toNat := by
        unfold hsD
        rw [Bool.eq_iff_iff, hT.html _ ha, decide_eq_true_eq]
      have e2 : ss a.toNat = ssD a.toNat := by
        unfold ssD
        rw [Bool.eq_iff_iff, hT.safe _ ha, decide_eq_true_eq]
      show (if safeB hs ss html a.toNat then [a] else escA a) = (if safeB hsD ssD html a.toNat then [a] else escA a)
      unfold safeB
      rw [e1, e2]
    | a :: b :: t, hc => simp at h2

end Go.Proofs.YtojlplpofjaljaaDoor
