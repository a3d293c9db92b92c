/- Reading a number that may go on later, in plain words, beside the reference's. -/
import Derived.Test.YtifemmjblamfkaaDoorNumP
namespace Go.Proofs.YtifemmjblamfkaaDoor
open Go.RowKit

/-- What is read from the exponent, the fraction, the whole part on: the place, the state that is told, and how it came out (0 well, 1 too short, 2 wrong). -/
def cExp (l : List UInt8) (n st : Nat) : Nat × Nat × Nat :=
  if seeB l n = 101 ∨ seeB l n = 69 then
    if l.length ≤ (if seeB l (n + 1) = 43 ∨ seeB l (n + 1) = 45 then n + 1 + 1 else n + 1) then (n, 5, 1)
    else if 48 ≤ seeB l (if seeB l (n + 1) = 43 ∨ seeB l (n + 1) = 45 then n + 1 + 1 else n + 1) ∧ seeB l (if seeB l (n + 1) = 43 ∨ seeB l (n + 1) = 45 then n + 1 + 1 else n + 1) ≤ 57 then (mDigs l ((if seeB l (n + 1) = 43 ∨ seeB l (n + 1) = 45 then n + 1 + 1 else n + 1) + 1), 6, 0)
    else ((if seeB l (n + 1) = 43 ∨ seeB l (n + 1) = 45 then n + 1 + 1 else n + 1), st, 2)
  else (n, st, 0)
def cFrac (l : List UInt8) (n st : Nat) : Nat × Nat × Nat :=
  if seeB l n = 46 then
    if l.length ≤ n + 1 then (n, 3, 1)
    else if 48 ≤ seeB l (n + 1) ∧ seeB l (n + 1) ≤ 57 then cExp l (mDigs l (n + 1 + 1)) 4
    else (n + 1, st, 2)
  else cExp l n st
def cInt (l : List UInt8) (st : Nat) : Nat × Nat × Nat :=
  if l.length ≤ (if seeB l 0 = 45 then 1 else 0) then (0, 1, 1)
  else if seeB l (if seeB l 0 = 45 then 1 else 0) = 48 then cFrac l ((if seeB l 0 = 45 then 1 else 0) + 1) 3
  else if 49 ≤ seeB l (if seeB l 0 = 45 then 1 else 0) ∧ seeB l (if seeB l 0 = 45 then 1 else 0) ≤ 57 then cFrac l (mDigs l ((if seeB l 0 = 45 then 1 else 0) + 1)) 2
  else ((if seeB l 0 = 45 then 1 else 0), st, 2)

/-- The two tell the same. -/
def Agree (r : Bool × Nat) (c : Nat × Nat × Nat) (len : Nat) : Prop :=
  (c.2.2 = 0 ∧ r = (true, c.1)) ∨ (c.2.2 = 1 ∧ r = (false, len)) ∨ (c.2.2 = 2 ∧ r.1 = false ∧ r.2 < len)

theorem mDigits_see (l : List UInt8) (k : Nat) : mDigits l k = if 48 ≤ seeB l k ∧ seeB l k ≤ 57 then (true, mDigs l (k + 1)) else (false, k) := by
  unfold mDigits
  cases h : l[k]? with
  | none =>
    have e : mNeed l 48 57 k = (false, k) := by unfold mNeed; rw [h]
    rw [e, seeB_none h, if_neg (by simp), if_neg (by omega)]
  | some c =>
    rw [seeB_some h]
    by_cases q : 48 ≤ ((c.toNat : Nat) : Int) ∧ ((c.toNat : Nat) : Int) ≤ 57
    · have e : mNeed l 48 57 k = (true, k + 1) := by unfold mNeed; rw [h]; exact if_pos q
      rw [e, if_pos q, if_pos rfl]
    · have e : mNeed l 48 57 k = (false, k) := by unfold mNeed; rw [h]; exact if_neg q
      rw [e, if_neg q, if_neg (by simp)]

theorem digits_y {l : List UInt8} {k : Nat} (h : 48 ≤ seeB l k ∧ seeB l k ≤ 57) : mDigits l k = (true, mDigs l (k + 1)) := by rw [mDigits_see, if_pos h]
theorem digits_n {l : List UInt8} {k : Nat} (h : ¬ (48 ≤ seeB l k ∧ seeB l k ≤ 57)) : mDigits l k = (false, k) := by rw [mDigits_see, if_neg h]

theorem see_end {l : List UInt8} {k : Nat} (h : l.length ≤ k) : seeB l k = 0 := seeB_none (List.getElem?_eq_none h)

/-- Behind the sign of an exponent. -/
def signE (l : List UInt8) (n : Nat) : Nat := if seeB l (n + 1) = 43 ∨ seeB l (n + 1) = 45 then n + 1 + 1 else n + 1
/-- Behind the sign of a number. -/
def signN (l : List UInt8) : Nat := if seeB l 0 = 45 then 1 else 0

theorem mExp_y {l : List UInt8} {n : Nat} (h : seeB l n = 101 ∨ seeB l n = 69) : mExp l n = mDigits l (signE l n) := if_pos h
theorem mExp_n {l : List UInt8} {n : Nat} (h : ¬ (seeB l n = 101 ∨ seeB l n = 69)) : mExp l n = (true, n) := if_neg h
theorem cExp_y {l : List UInt8} {n st : Nat} (h : seeB l n = 101 ∨ seeB l n = 69) : cExp l n st = if l.length ≤ signE l n then (n, 5, 1) else if 48 ≤ seeB l (signE l n) ∧ seeB l (signE l n) ≤ 57 then (mDigs l (signE l n + 1), 6, 0) else (signE l n, st, 2) := if_pos h
theorem cExp_n {l : List UInt8} {n st : Nat} (h : ¬ (seeB l n = 101 ∨ seeB l n = 69)) : cExp l n st = (n, st, 0) := if_neg h
theorem mFrac_y {l : List UInt8} {n : Nat} (h : seeB l n = 46) : mFrac l n = if (mDigits l (n + 1)).1 = true then mExp l (mDigits l (n + 1)).2 else mDigits l (n + 1) := if_pos h
theorem mFrac_n {l : List UInt8} {n : Nat} (h : ¬ seeB l n = 46) : mFrac l n = mExp l n := if_neg h
theorem cFrac_y {l : List UInt8} {n st : Nat} (h : seeB l n = 46) : cFrac l n st = if l.length ≤ n + 1 then (n, 3, 1) else if 48 ≤ seeB l (n + 1) ∧ seeB l (n + 1) ≤ 57 then cExp l (mDigs l (n + 1 + 1)) 4 else (n + 1, st, 2) := if_pos h
theorem cFrac_n {l : List UInt8} {n st : Nat} (h : ¬ seeB l n = 46) : cFrac l n st = cExp l n st := if_neg h
theorem mNumber_sign (l : List UInt8) : mNumber l 0 = mInt l (signN l) := rfl
theorem cInt_sign (l : List UInt8) (st : Nat) : cInt l st = if l.length ≤ signN l then (0, 1, 1) else if seeB l (signN l) = 48 then cFrac l (signN l + 1) 3 else if 49 ≤ seeB l (signN l) ∧ seeB l (signN l) ≤ 57 then cFrac l (mDigs l (signN l + 1)) 2 else (signN l, st, 2) := rfl
theorem mInt_0 {l : List UInt8} {k : Nat} (h : seeB l k = 48) : mInt l k = mFrac l (k + 1) := if_pos h
theorem mInt_y {l : List UInt8} {k : Nat} (h : 49 ≤ seeB l k ∧ seeB l k ≤ 57) : mInt l k = mFrac l (mDigs l (k + 1)) := by
  unfold mInt
  rw [if_neg (show ¬ seeB l k = 48 by omega), digits_y (show 48 ≤ seeB l k ∧ seeB l k ≤ 57 by omega)]
  exact if_pos rfl
theorem mInt_n {l : List UInt8} {k : Nat} (h : ¬ (48 ≤ seeB l k ∧ seeB l k ≤ 57)) : mInt l k = (false, k) := by
  unfold mInt
  rw [if_neg (show ¬ seeB l k = 48 by omega), digits_n h]
  exact if_neg (by simp)

theorem signE_len {l : List UInt8} {n : Nat} (h : n < l.length) : signE l n ≤ l.length := by
  unfold signE
  split
  · rename_i q2
    have : n + 1 < l.length := seeB_lt (by omega)
    omega
  · omega
theorem signN_len (l : List UInt8) : signN l ≤ l.length := by
  unfold signN
  split
  · rename_i q
    have : 0 < l.length := seeB_lt (by omega)
    omega
  · omega

theorem agree_exp (l : List UInt8) (n st : Nat) : Agree (mExp l n) (cExp l n st) l.length := by
  by_cases q : seeB l n = 101 ∨ seeB l n = 69
  · have hk := signE_len (l := l) (n := n) (seeB_lt (by omega))
    rw [mExp_y q, cExp_y q]
    generalize signE l n = k at hk ⊢
    by_cases h1 : l.length ≤ k
    · have h0 := see_end h1
      rw [if_pos h1, digits_n (by omega)]
      exact .inr (.inl ⟨rfl, by rw [show k = l.length by omega]⟩)
    · rw [if_neg h1]
      by_cases h2 : 48 ≤ seeB l k ∧ seeB l k ≤ 57
      · rw [if_pos h2, digits_y h2]; exact .inl ⟨rfl, rfl⟩
      · rw [if_neg h2, digits_n h2]; exact .inr (.inr ⟨rfl, rfl, by show k < _; omega⟩)
  · rw [mExp_n q, cExp_n q]; exact .inl ⟨rfl, rfl⟩

theorem agree_frac (l : List UInt8) (n st : Nat) : Agree (mFrac l n) (cFrac l n st) l.length := by
  by_cases q : seeB l n = 46
  · have hn : n < l.length := seeB_lt (by omega)
    rw [mFrac_y q, cFrac_y q]
    by_cases h1 : l.length ≤ n + 1
    · have h0 := see_end h1
      rw [if_pos h1, digits_n (by omega), if_neg (by simp)]
      exact .inr (.inl ⟨rfl, by rw [show n + 1 = l.length by omega]⟩)
    · rw [if_neg h1]
      by_cases h2 : 48 ≤ seeB l (n + 1) ∧ seeB l (n + 1) ≤ 57
      · rw [if_pos h2, digits_y h2, if_pos rfl]
        exact agree_exp l _ 4
      · rw [if_neg h2, digits_n h2, if_neg (by simp)]
        exact .inr (.inr ⟨rfl, rfl, by show n + 1 < _; omega⟩)
  · rw [mFrac_n q, cFrac_n q]; exact agree_exp l n st

theorem agree_int (l : List UInt8) (st : Nat) : Agree (mNumber l 0) (cInt l st) l.length := by
  have hk := signN_len l
  rw [mNumber_sign, cInt_sign]
  generalize signN l = k at hk ⊢
  by_cases h1 : l.length ≤ k
  · have h0 := see_end h1
    rw [if_pos h1, mInt_n (by omega)]
    exact .inr (.inl ⟨rfl, by rw [show k = l.length by omega]⟩)
  · rw [if_neg h1]
    by_cases h48 : seeB l k = 48
    · rw [if_pos h48, mInt_0 h48]; exact agree_frac l _ 3
    · rw [if_neg h48]
      by_cases h2 : 49 ≤ seeB l k ∧ seeB l k ≤ 57
      · rw [if_pos h2, mInt_y h2]; exact agree_frac l _ 2
      · rw [if_neg h2, mInt_n (by omega)]
        exact .inr (.inr ⟨rfl, rfl, by show k < _; omega⟩)

/-! ### A part of the text, and the whole -/
theorem seeB_take {l : List UInt8} {c k : Nat} (h : k < c) : seeB (l.take c) k = seeB l k := by
  unfold seeB
  rw [List.getElem?_take, if_pos h]

theorem seeB_take_lt {l : List UInt8} {c k : Nat} (h : seeB (l.take c) k ≠ 0) : k < c ∧ seeB l k = seeB (l.take c) k := by
  have := seeB_lt h
  rw [List.length_take] at this
  exact ⟨by omega, (seeB_take (by omega)).symm⟩

theorem mDigs_take {l : List UInt8} {c : Nat} : ∀ (n k : Nat), l.length - k ≤ n → mDigs (l.take c) k < (l.take c).length → mDigs l k = mDigs (l.take c) k
  | 0, k, hn, h => by
    have := mDigs_ge (l.take c) k
    rw [List.length_take] at h
    omega
  | n + 1, k, hn, h => by
    have hge := mDigs_ge (l.take c) k
    have hk : k < (l.take c).length := by omega
    have hk2 : k < c ∧ k < l.length := by rw [List.length_take] at hk; omega
    have hget : (l.take c)[k]'hk = l[k]'hk2.2 := by simp
    by_cases hd : isDig (l[k]'hk2.2).toNat
    · rw [mDigs_on hk (by rw [hget]; exact hd)] at h ⊢
      rw [mDigs_on hk2.2 hd]
      exact mDigs_take n (k + 1) (by omega) h
    · have ha : mDigs l k = k := mDigs_off (fun _ => hd)
      have hb : mDigs (l.take c) k = k := mDigs_off (fun _ => by rw [hget]; exact hd)
      rw [ha, hb]

/-- Where a part ended too early, reading the whole comes by that place. -/
theorem resume_exp {l : List UInt8} {c n st m s : Nat} (h : cExp (l.take c) n st = (m, s, 1)) : s = 5 ∧ m = n ∧ n < (l.take c).length := by
  by_cases q : seeB (l.take c) n = 101 ∨ seeB (l.take c) n = 69
  · have h1 : n < (l.take c).length := seeB_lt (by omega)
    rw [cExp_y q] at h
    split at h
    · simp only [Prod.mk.injEq] at h
      exact ⟨h.2.1.symm, h.1.symm, h1⟩
    · split at h
      · simp at h
      · simp at h
  · rw [cExp_n q] at h
    simp at h

theorem resume_frac {l : List UInt8} {c n st m s : Nat} (h : cFrac (l.take c) n st = (m, s, 1)) : n < (l.take c).length ∧ ((s = 3 ∧ m = n) ∨ (s = 5 ∧ mFrac l n = mExp l m)) := by
  by_cases q : seeB (l.take c) n = 46
  · have h1 : n < (l.take c).length := seeB_lt (by omega)
    obtain ⟨h2, h3⟩ := seeB_take_lt (l := l) (c := c) (k := n) (by omega)
    refine ⟨h1, ?_⟩
    rw [cFrac_y q] at h
    split at h
    · simp only [Prod.mk.injEq] at h
      exact .inl ⟨h.2.1.symm, h.1.symm⟩
    · split at h
      · rename_i hd
        obtain ⟨e1, e2, e3⟩ := resume_exp h
        obtain ⟨h4, h5⟩ := seeB_take_lt (l := l) (c := c) (k := n + 1) (by omega)
        refine .inr ⟨e1, ?_⟩
        have hdg := mDigs_take (l := l) (c := c) _ (n + 1 + 1) (Nat.le_refl _) e3
        rw [mFrac_y (by omega), digits_y (by omega), if_pos rfl, e2]
        show mExp l (mDigs l (n + 1 + 1)) = _
        rw [hdg]
      · simp at h
  · rw [cFrac_n q] at h
    obtain ⟨e1, e2, e3⟩ := resume_exp h
    have hc : n < c := by rw [List.length_take] at e3; omega
    refine ⟨e3, .inr ⟨e1, ?_⟩⟩
    rw [mFrac_n (by rw [← seeB_take hc]; exact q), e2]

theorem resume_int {l : List UInt8} {c st m s : Nat} (h : cInt (l.take c) st = (m, s, 1)) : (s = 1 ∧ m = 0) ∨ (s = 3 ∧ mNumber l 0 = mFrac l m) ∨ (s = 5 ∧ mNumber l 0 = mExp l m) := by
  rw [cInt_sign] at h
  split at h
  · simp only [Prod.mk.injEq] at h
    exact .inl ⟨h.2.1.symm, h.1.symm⟩
  · rename_i hlen
    have h0 : 0 < c := by rw [List.length_take] at hlen; omega
    have hk : signN (l.take c) = signN l := by unfold signN; rw [seeB_take h0]
    rw [mNumber_sign, ← hk]
    generalize signN (l.take c) = k at h hlen ⊢
    have hkc : k < c := by rw [List.length_take] at hlen; omega
    have hse : seeB (l.take c) k = seeB l k := seeB_take hkc
    split at h
    · rename_i h48
      obtain ⟨e0, e⟩ := resume_frac h
      rw [mInt_0 (by rw [← hse]; exact h48)]
      rcases e with ⟨e1, e2⟩ | ⟨e1, e2⟩
      · exact .inr (.inl ⟨e1, by rw [e2]⟩)
      · exact .inr (.inr ⟨e1, e2⟩)
    · split at h
      · rename_i hd
        obtain ⟨e0, e⟩ := resume_frac h
        have hdg := mDigs_take (l := l) (c := c) _ (k + 1) (Nat.le_refl _) e0
        rw [hse] at hd
        rw [mInt_y hd, hdg]
        rcases e with ⟨e1, e2⟩ | ⟨e1, e2⟩
        · exact .inr (.inl ⟨e1, by rw [e2]⟩)
        · exact .inr (.inr ⟨e1, e2⟩)
      · simp at h

/-- What the first call leaves for the second one. -/
theorem first_call {l : List UInt8} {c : Nat} (hn : mNumber (l.take c) 0 = (false, (l.take c).length)) (st : Nat) :
    ∃ m s, cInt (l.take c) st = (m, s, 1) ∧ ((s = 1 ∧ m = 0) ∨ (s = 3 ∧ mNumber l 0 = mFrac l m) ∨ (s = 5 ∧ mNumber l 0 = mExp l m)) := by
  have ha := agree_int (l.take c) st
  rw [hn] at ha
  rcases ha with ⟨_, h2⟩ | ⟨h1, _⟩ | ⟨_, _, h3⟩
  · cases h2
  · have e : cInt (l.take c) st = ((cInt (l.take c) st).1, (cInt (l.take c) st).2.1, 1) := by rw [← h1]
    exact ⟨_, _, e, resume_int e⟩
  · omega

end Go.Proofs.YtifemmjblamfkaaDoor
