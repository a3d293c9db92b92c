/- jsonwire's and the reference's text of a character are one. -/
import Derived.Test.YtjjbgoknmofajaaDoorAppQ
import Derived.Test.YtjjbgoknmofajaaDoorQuoX
namespace Go.Proofs.YtjjbgoknmofajaaDoor.Wire
open Go.RowKit Go.Proofs.YtjjbgoknmofajaaDoor

theorem one_eq : ∀ (html js : Bool) (c : Fin 128), fx html js [UInt8.ofNat c.val] = Exact.qp html js [UInt8.ofNat c.val] := by decide +kernel

theorem many_eq {html js : Bool} {c : List UInt8} (hc : CharAt c c.length) (h2 : 2 ≤ c.length) : fx html js c = Exact.qp html js c := by
  have hhead : 128 ≤ (c.headD 0).toNat := by
    rcases hc with ⟨e, _⟩ | ⟨_, a, b, t, e, h1, _⟩ | ⟨_, a, b, d, t, e, h1, _⟩ | ⟨_, a, b, d, f, t, e, h1, _⟩
    · omega
    · rw [e]; show 128 ≤ a.toNat; omega
    · rw [e]; show 128 ≤ a.toNat; omega
    · rw [e]; show 128 ≤ a.toNat; omega
  have hne : ∀ x : UInt8, x.toNat < 128 → c.headD 0 ≠ x := fun x hx e => by rw [e] at hhead; omega
  have hone : ∀ x : UInt8, c ≠ [x] := fun x e => by rw [e] at h2; simp at h2
  rw [fx_many h2]
  have hmk : Exact.mk html js c = (if js = true ∧ c = [226, 128, 168] then Exact.unit 8232 else if js = true ∧ c = [226, 128, 169] then Exact.unit 8233 else []) := by
    unfold Exact.mk
    rw [if_neg (fun h => by rcases h.2 with h | h | h <;> exact hone _ h)]
  unfold Exact.qp
  rw [hmk]
  by_cases k1 : js = true ∧ c = [226, 128, 168]
  · rw [if_pos k1, if_pos k1, if_pos (by simp [Exact.unit])]
  · rw [if_neg k1, if_neg k1]
    by_cases k2 : js = true ∧ c = [226, 128, 169]
    · rw [if_pos k2, if_pos k2, if_pos (by simp [Exact.unit])]
    · rw [if_neg k2, if_neg k2]
      rw [if_neg (by simp), if_neg (fun h => by rcases h with h | h; exact hne 34 (by decide) h; exact hne 92 (by decide) h), if_neg (hne 8 (by decide)), if_neg (hne 12 (by decide)), if_neg (hne 10 (by decide)), if_neg (hne 13 (by decide)), if_neg (hne 9 (by decide)), if_neg (by omega)]

theorem chunk_eq (html js : Bool) (c : List UInt8) (hc : CharAt c c.length) : fx html js c = Exact.qp html js c := by
  by_cases h2 : 2 ≤ c.length
  · exact many_eq hc h2
  · match c, hc with
    | [], hc => have := hc.le4; simp at this
    | [a], hc =>
      have ha : a.toNat < 128 := by
        rcases hc with ⟨_, x, t, e, h1⟩ | ⟨e, _⟩ | ⟨e, _⟩ | ⟨e, _⟩
        · simp at e; rw [e.1]; exact h1
        · simp at e
        · simp at e
        · simp at e
      have h := one_eq html js ⟨a.toNat, ha⟩
      simp only [UInt8.ofNat_toNat] at h
      exact h
    | a :: b :: t, hc => simp at h2

end Go.Proofs.YtjjbgoknmofajaaDoor.Wire
