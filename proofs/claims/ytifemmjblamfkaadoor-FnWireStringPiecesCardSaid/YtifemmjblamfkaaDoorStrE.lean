/- Escapes, as the reference reads them and as they are read step by step (plain). -/
import Derived.Test.YtifemmjblamfkaaDoorStrR
namespace Go.Proofs.YtifemmjblamfkaaDoor.Wire
open Go.RowKit Go.Proofs.YtifemmjblamfkaaDoor

theorem hexd_eq (a : Nat) : hexd a = hexD a := rfl

theorem hexAt_some {l : List UInt8} {k : Nat} {c : UInt8} {d : Nat} (h : l[k]? = some c) (hd : hexd c.toNat = some d) : hexAt l k = (d : Int) ∧ d < 16 := by
  rw [hexd_eq] at hd
  refine ⟨?_, hexD_lt hd⟩
  unfold hexAt
  rw [h]
  simp only [hexI, hd]

theorem hexAt_none {l : List UInt8} {k : Nat} {c : UInt8} (h : l[k]? = some c) (hd : hexd c.toNat = none) : hexAt l k = -1 := by
  rw [hexd_eq] at hd
  unfold hexAt
  rw [h]
  simp only [hexI, hd]

theorem hexAt_end {l : List UInt8} {k : Nat} (h : l.length ≤ k) : hexAt l k = -1 := by
  unfold hexAt
  rw [List.getElem?_eq_none h]

theorem mHex_in {l : List UInt8} {a b : Int} {k : Nat} (h1 : a ≤ hexAt l k) (h2 : hexAt l k ≤ b) : (mHex l a b k).1 = true := by
  unfold mHex
  rw [if_neg (by omega)]

theorem mHex_out {l : List UInt8} {a b : Int} {k : Nat} (h : hexAt l k < a ∨ b < hexAt l k) : (mHex l a b k).1 = false := by
  unfold mHex
  rw [if_pos h]

theorem hexs_in {l : List UInt8} {a b c d e f g h : Int} {k : Nat} (h0 : a ≤ hexAt l k ∧ hexAt l k ≤ b) (h1 : c ≤ hexAt l (k + 1) ∧ hexAt l (k + 1) ≤ d) (h2 : e ≤ hexAt l (k + 1 + 1) ∧ hexAt l (k + 1 + 1) ≤ f) (h3 : g ≤ hexAt l (k + 1 + 1 + 1) ∧ hexAt l (k + 1 + 1 + 1) ≤ h) :
    mHexs l [(a, b), (c, d), (e, f), (g, h)] k = (true, k + 4) := by
  rw [mHexs_true (mHex_in h0.1 h0.2), mHexs_true (mHex_in h1.1 h1.2), mHexs_true (mHex_in h2.1 h2.2), mHexs_true (mHex_in h3.1 h3.2)]
  rfl

/-- A digit out of bounds: reading stops there or before. -/
theorem hexs_out {l : List UInt8} : ∀ (rs : List (Int × Int)) (k i : Nat) (a b : Int), rs[i]? = some (a, b) → (hexAt l (k + i) < a ∨ b < hexAt l (k + i)) → (mHexs l rs k).1 = false ∧ (mHexs l rs k).2 ≤ k + i
  | [], k, i, a, b, h, _ => by simp at h
  | (c, d) :: t, k, 0, a, b, h, ho => by
    simp only [List.getElem?_cons_zero, Option.some.injEq, Prod.mk.injEq] at h
    obtain ⟨rfl, rfl⟩ := h
    rw [Nat.add_zero] at ho ⊢
    rw [mHexs_false (mHex_out ho)]
    exact ⟨rfl, Nat.le_refl _⟩
  | (c, d) :: t, k, i + 1, a, b, h, ho => by
    rw [List.getElem?_cons_succ] at h
    cases e : (mHex l c d k).1 with
    | false => rw [mHexs_false e]; exact ⟨rfl, by show k ≤ _; omega⟩
    | true =>
      rw [mHexs_true e]
      have := hexs_out t (k + 1) i a b h (by rw [show k + 1 + i = k + (i + 1) by omega]; exact ho)
      exact ⟨this.1, by omega⟩

/-- Where it stops at all: within the digits. -/
theorem hexs_place {l : List UInt8} : ∀ (rs : List (Int × Int)) (k : Nat), (mHexs l rs k).1 = false → (mHexs l rs k).2 < k + rs.length
  | [], k, h => by cases h
  | (c, d) :: t, k, h => by
    cases e : (mHex l c d k).1 with
    | false => rw [mHexs_false e]; show k < k + (t.length + 1); omega
    | true =>
      rw [mHexs_true e] at h ⊢
      have := hexs_place t (k + 1) h
      rw [List.length_cons]
      omega

theorem unit_place {lo low : Bool} {l : List UInt8} {k : Nat} (h : (mUnit lo low l k).1 = false) : (mUnit lo low l k).2.1 < k + 4 := by
  unfold mUnit at h ⊢
  split at h <;> rename_i q1
  · rw [if_pos q1]; exact hexs_place _ _ h
  · rw [if_neg q1]
    split at h <;> rename_i q2
    · rw [if_pos q2]; exact hexs_place _ _ h
    · rw [if_neg q2]
      split at h <;> rename_i q3
      · rw [if_pos q3]; exact hexs_place _ _ h
      · rw [if_neg q3]; exact hexs_place _ _ h

theorem unit_end {lo low : Bool} {l : List UInt8} {k : Nat} (h : (mUnit lo low l k).1 = true) : (mUnit lo low l k).2.1 = k + 4 := by
  unfold mUnit at h ⊢
  split at h <;> rename_i q1
  · rw [if_pos q1]; exact mHexs_lt _ _ _ (Prod.ext h rfl)
  · rw [if_neg q1]
    split at h <;> rename_i q2
    · rw [if_pos q2]; exact mHexs_lt _ _ _ (Prod.ext h rfl)
    · rw [if_neg q2]
      split at h <;> rename_i q3
      · rw [if_pos q3]; exact mHexs_lt _ _ _ (Prod.ext h rfl)
      · rw [if_neg q3]; exact mHexs_lt _ _ _ (Prod.ext h rfl)

/-- Where an escape fails: within the eleven bytes behind its backslash. -/
theorem esc_place {lo : Bool} {l : List UInt8} {k : Nat} (h : (mEscape lo l k).1 = false) : (mEscape lo l k).2 ≤ k + 10 := by
  unfold mEscape at h ⊢
  split at h <;> rename_i q1
  · cases h
  · rw [if_neg q1]
    split at h <;> rename_i q2
    · rw [if_pos q2]
      split at h <;> rename_i q3
      · rw [if_pos q3]
        have e1 := unit_end q3.1
        split at h <;> rename_i q4
        · rw [if_pos q4]
          split at h <;> rename_i q5
          · rw [if_pos q5]
            have := unit_place h
            show (mUnit lo true l ((mUnit lo false l (k + 1)).2.1 + 1 + 1)).2.1 ≤ _
            omega
          · rw [if_neg q5]; show _ + 1 ≤ _; omega
        · rw [if_neg q4]; show _ ≤ _; omega
      · rw [if_neg q3]
        have := unit_place h
        show (mUnit lo false l (k + 1)).2.1 ≤ _
        omega
    · rw [if_neg q2]; show k ≤ _; omega

theorem hex4_some {q : List UInt8} {v : Nat} (h : hex4 q = some v) : ∃ x0 x1 x2 x3 d0 d1 d2 d3, q = [x0, x1, x2, x3] ∧ hexd x0.toNat = some d0 ∧ hexd x1.toNat = some d1 ∧ hexd x2.toNat = some d2 ∧ hexd x3.toNat = some d3 ∧ v = ((d0 * 16 + d1) * 16 + d2) * 16 + d3 := by
  unfold hex4 at h
  split at h
  · rename_i h4
    match q, h4 with
    | [a, b, c, d], _ =>
      simp only [hexFold] at h
      cases ha : hexd a.toNat with
      | none => rw [ha] at h; cases h
      | some x =>
        rw [ha] at h
        simp only at h
        cases hb : hexd b.toNat with
        | none => rw [hb] at h; cases h
        | some y =>
          rw [hb] at h
          simp only at h
          cases hc : hexd c.toNat with
          | none => rw [hc] at h; cases h
          | some z =>
            rw [hc] at h
            simp only at h
            cases he : hexd d.toNat with
            | none => rw [he] at h; cases h
            | some u =>
              rw [he] at h
              simp only [Option.some.injEq] at h
              exact ⟨a, b, c, d, x, y, z, u, rfl, ha, hb, hc, he, by rw [← h]; omega⟩
  · cases h

theorem hex4_none {q : List UInt8} (hl : q.length = 4) (h : hex4 q = none) : ∃ (i : Nat) (x : UInt8), i < 4 ∧ q[i]? = some x ∧ hexd x.toNat = none := by
  unfold hex4 at h
  rw [if_pos hl] at h
  match q, hl with
  | [a, b, c, d], _ =>
    simp only [hexFold] at h
    cases ha : hexd a.toNat with
    | none => exact ⟨0, a, by decide, rfl, ha⟩
    | some x =>
      rw [ha] at h
      simp only at h
      cases hb : hexd b.toNat with
      | none => exact ⟨1, b, by decide, rfl, hb⟩
      | some y =>
        rw [hb] at h
        simp only at h
        cases hc : hexd c.toNat with
        | none => exact ⟨2, c, by decide, rfl, hc⟩
        | some z =>
          rw [hc] at h
          simp only at h
          cases he : hexd d.toNat with
          | none => exact ⟨3, d, by decide, rfl, he⟩
          | some u => rw [he] at h; cases h

/-- Four digits at k. -/
def Dig4 (l : List UInt8) (k d0 d1 d2 d3 : Nat) : Prop := hexAt l k = (d0 : Int) ∧ hexAt l (k + 1) = (d1 : Int) ∧ hexAt l (k + 1 + 1) = (d2 : Int) ∧ hexAt l (k + 1 + 1 + 1) = (d3 : Int) ∧ d0 < 16 ∧ d1 < 16 ∧ d2 < 16 ∧ d3 < 16

theorem dig4_of {l q : List UInt8} {k v : Nat} (hq : ∀ i y, q[i]? = some y → l[k + i]? = some y) (h : hex4 q = some v) : ∃ d0 d1 d2 d3, Dig4 l k d0 d1 d2 d3 ∧ v = ((d0 * 16 + d1) * 16 + d2) * 16 + d3 := by
  obtain ⟨x0, x1, x2, x3, d0, d1, d2, d3, rfl, h0, h1, h2, h3, hv⟩ := hex4_some h
  have g0 := hexAt_some (hq 0 x0 rfl) h0
  have g1 := hexAt_some (hq 1 x1 rfl) h1
  have g2 := hexAt_some (hq 2 x2 rfl) h2
  have g3 := hexAt_some (hq 3 x3 rfl) h3
  exact ⟨d0, d1, d2, d3, ⟨g0.1, g1.1, g2.1, g3.1, g0.2, g1.2, g2.2, g3.2⟩, hv⟩

/-- One unit that is no half, or in loose reading. -/
theorem unit_one {lo : Bool} {l : List UInt8} {k d0 d1 d2 d3 : Nat} (h : Dig4 l k d0 d1 d2 d3) (hv : lo = true ∨ ¬ (55296 ≤ ((d0 * 16 + d1) * 16 + d2) * 16 + d3 ∧ ((d0 * 16 + d1) * 16 + d2) * 16 + d3 < 57344)) : mUnit lo false l k = (true, k + 4, false) := by
  obtain ⟨h0, h1, h2, h3, b0, b1, b2, b3⟩ := h
  unfold mUnit
  by_cases q : lo = true
  · rw [if_pos q, hexs_in ⟨by omega, by omega⟩ ⟨by omega, by omega⟩ ⟨by omega, by omega⟩ ⟨by omega, by omega⟩]
  · have hn := hv.resolve_left q
    rw [if_neg q, if_neg (by decide)]
    by_cases q2 : hexAt l k = 13
    · have e0 : d0 = 13 := by omega
      rw [if_pos q2, hexs_in ⟨by omega, by omega⟩ ⟨by omega, by omega⟩ ⟨by omega, by omega⟩ ⟨by omega, by omega⟩]
      simp only [Bool.true_and, Prod.mk.injEq, true_and, decide_eq_false_iff_not]
      omega
    · rw [if_neg q2, hexs_in ⟨by omega, by omega⟩ ⟨by omega, by omega⟩ ⟨by omega, by omega⟩ ⟨by omega, by omega⟩]

/-- The first half. -/
theorem unit_high {l : List UInt8} {k d0 d1 d2 d3 : Nat} (h : Dig4 l k d0 d1 d2 d3) (hv : 55296 ≤ ((d0 * 16 + d1) * 16 + d2) * 16 + d3 ∧ ((d0 * 16 + d1) * 16 + d2) * 16 + d3 < 56320) : mUnit false false l k = (true, k + 4, true) := by
  obtain ⟨h0, h1, h2, h3, b0, b1, b2, b3⟩ := h
  unfold mUnit
  rw [if_neg (by decide), if_neg (by decide), if_pos (by omega), hexs_in ⟨by omega, by omega⟩ ⟨by omega, by omega⟩ ⟨by omega, by omega⟩ ⟨by omega, by omega⟩]
  simp only [Bool.true_and, Prod.mk.injEq, true_and, decide_eq_true_eq]
  omega

/-- The second half, where the first one is wanted. -/
theorem unit_lone {l : List UInt8} {k d0 d1 d2 d3 : Nat} (h : Dig4 l k d0 d1 d2 d3) (hv : 56320 ≤ ((d0 * 16 + d1) * 16 + d2) * 16 + d3 ∧ ((d0 * 16 + d1) * 16 + d2) * 16 + d3 < 57344) : (mUnit false false l k).1 = false := by
  obtain ⟨h0, h1, h2, h3, b0, b1, b2, b3⟩ := h
  unfold mUnit
  rw [if_neg (by decide), if_neg (by decide), if_pos (by omega)]
  exact (hexs_out _ _ 1 0 11 rfl (.inr (by omega))).1

/-- The second half. -/
theorem unit_second {l : List UInt8} {k d0 d1 d2 d3 : Nat} (h : Dig4 l k d0 d1 d2 d3) (hv : 56320 ≤ ((d0 * 16 + d1) * 16 + d2) * 16 + d3 ∧ ((d0 * 16 + d1) * 16 + d2) * 16 + d3 < 57344) : mUnit false true l k = (true, k + 4, false) := by
  obtain ⟨h0, h1, h2, h3, b0, b1, b2, b3⟩ := h
  unfold mUnit
  rw [if_neg (by decide), if_pos rfl, hexs_in ⟨by omega, by omega⟩ ⟨by omega, by omega⟩ ⟨by omega, by omega⟩ ⟨by omega, by omega⟩]

theorem unit_notsecond {l : List UInt8} {k d0 d1 d2 d3 : Nat} (h : Dig4 l k d0 d1 d2 d3) (hv : ¬ (56320 ≤ ((d0 * 16 + d1) * 16 + d2) * 16 + d3 ∧ ((d0 * 16 + d1) * 16 + d2) * 16 + d3 < 57344)) : (mUnit false true l k).1 = false := by
  obtain ⟨h0, h1, h2, h3, b0, b1, b2, b3⟩ := h
  unfold mUnit
  rw [if_neg (by decide), if_pos rfl]
  by_cases q : d0 = 13
  · exact (hexs_out _ _ 1 12 15 rfl (by omega)).1
  · exact (hexs_out _ _ 0 13 13 rfl (by rw [Nat.add_zero]; omega)).1

/-- No digit among the four. -/
theorem unit_nodig {lo low : Bool} {l : List UInt8} {k i : Nat} (hi : i < 4) (h : hexAt l (k + i) = -1) : (mUnit lo low l k).1 = false ∧ (mUnit lo low l k).2.1 ≤ k + i := by
  have key : ∀ rs : List (Int × Int), rs.length = 4 → (∀ x ∈ rs, 0 ≤ x.1) → (mHexs l rs k).1 = false ∧ (mHexs l rs k).2 ≤ k + i := fun rs hl hp => by
    have hlt : i < rs.length := by omega
    exact hexs_out rs k i rs[i].1 rs[i].2 (List.getElem?_eq_getElem hlt) (.inl (by have := hp _ (List.getElem_mem hlt); omega))
  unfold mUnit
  split
  · exact key _ rfl (by simp)
  · split
    · exact key _ rfl (by simp)
    · split
      · exact key _ rfl (by simp)
      · exact key _ rfl (by simp)

end Go.Proofs.YtifemmjblamfkaaDoor.Wire
