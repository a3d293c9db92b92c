/- The decimal digits of a number, and what they are read as. No program. -/
import Derived.WalkKit
namespace Go.Proofs.Ytifemmjblamfkaa.Dig

def digF : Nat → Nat → List UInt8
  | 0, _ => []
  | f + 1, n => if n < 10 then [UInt8.ofNat (48 + n)] else digF f (n / 10) ++ [UInt8.ofNat (48 + n % 10)]

/-- The digits of a number below 10^25. -/
def dig (n : Nat) : List UInt8 := digF 25 n

def val (l : List UInt8) : Nat := l.foldl (fun v c => 10 * v + (c.toNat - 48)) 0

def isDigit (c : UInt8) : Prop := 48 ≤ c.toNat ∧ c.toNat ≤ 57

theorem digit_toNat {n : Nat} (h : n < 10) : (UInt8.ofNat (48 + n)).toNat = 48 + n := by
  simp
  omega

theorem val_snoc (l : List UInt8) (c : UInt8) : val (l ++ [c]) = 10 * val l + (c.toNat - 48) := by
  simp [val, List.foldl_append]

theorem digF_more : ∀ (f n : Nat), n < 10 ^ f → digF (f + 1) n = digF f n ∨ f = 0
  | 0, _, _ => .inr rfl
  | 1, n, h => .inl (by
    have : n < 10 := by simpa using h
    simp [digF, this])
  | f + 2, n, h => .inl (by
    have ih := digF_more (f + 1) (n / 10) (by rw [Nat.pow_succ] at h; omega)
    rcases ih with ih | ih
    · show (if n < 10 then [UInt8.ofNat (48 + n)] else digF (f + 1 + 1) (n / 10) ++ [UInt8.ofNat (48 + n % 10)]) = _
      rw [ih]
      rfl
    · omega)

theorem dig_step (n : Nat) (h : n < 10 ^ 24) : dig n = if n < 10 then [UInt8.ofNat (48 + n)] else dig (n / 10) ++ [UInt8.ofNat (48 + n % 10)] := by
  show digF (24 + 1) n = _
  have h2 : n / 10 < 10 ^ 24 := by omega
  rw [digF]
  rcases digF_more 24 (n / 10) h2 with e | e
  · rw [← e]; rfl
  · omega

/-- What the digits are. -/
theorem digF_spec : ∀ (f n : Nat), n < 10 ^ (f + 1) → (∀ c ∈ digF (f + 1) n, isDigit c) ∧ val (digF (f + 1) n) = n ∧
    ∃ c t, digF (f + 1) n = c :: t ∧ (c.toNat - 48) * 10 ^ t.length ≤ n ∧ n < (c.toNat - 48 + 1) * 10 ^ t.length ∧ (0 < n → 49 ≤ c.toNat) ∧ (n < 10 → t = [])
  | f, n, h => by
    by_cases h10 : n < 10
    · have e : digF (f + 1) n = [UInt8.ofNat (48 + n)] := by rw [digF, if_pos h10]
      have hd := digit_toNat h10
      rw [e]
      refine ⟨fun c hc => ?_, ?_, _, [], rfl, ?_, ?_, ?_, fun _ => rfl⟩
      · rw [List.mem_singleton] at hc
        subst hc
        unfold isDigit
        rw [hd]; omega
      · simp only [val, List.foldl_cons, List.foldl_nil]
        rw [hd]; omega
      · rw [hd]; simp
      · rw [hd]; simp
      · intro h0; rw [hd]; omega
    · match f with
      | 0 => exact absurd (by simpa using h) h10
      | f + 1 =>
        have hm : n % 10 < 10 := Nat.mod_lt _ (by omega)
        obtain ⟨i1, i2, c, t, i3, i4, i5, i6, i7⟩ := digF_spec f (n / 10) (by rw [Nat.pow_succ] at h; omega)
        have e : digF (f + 1 + 1) n = digF (f + 1) (n / 10) ++ [UInt8.ofNat (48 + n % 10)] := by rw [digF, if_neg h10]
        have hd := digit_toNat hm
        rw [e]
        refine ⟨fun d hd' => ?_, ?_, c, t ++ [UInt8.ofNat (48 + n % 10)], by rw [i3]; rfl, ?_, ?_, fun _ => i6 (by omega), fun h => absurd h h10⟩
        · rcases List.mem_append.1 hd' with hd' | hd'
          · exact i1 d hd'
          · rw [List.mem_singleton] at hd'
            subst hd'
            unfold isDigit
            rw [hd]; omega
        · rw [val_snoc, i2, hd]; omega
        · rw [List.length_append, List.length_singleton, Nat.pow_succ, ← Nat.mul_assoc]; omega
        · rw [List.length_append, List.length_singleton, Nat.pow_succ, ← Nat.mul_assoc]; omega

theorem dig_spec (n : Nat) (h : n < 10 ^ 24) : (∀ c ∈ dig n, isDigit c) ∧ val (dig n) = n ∧
    ∃ c t, dig n = c :: t ∧ (c.toNat - 48) * 10 ^ t.length ≤ n ∧ n < (c.toNat - 48 + 1) * 10 ^ t.length ∧ (0 < n → 49 ≤ c.toNat) ∧ (n < 10 → t = []) :=
  digF_spec 24 n (by omega)

/-- .. of 64 bits: at most twenty; a first 0 stands alone; twenty of them begin with 1. -/
theorem dig64 (n : Nat) (h : n < 18446744073709551616) : ∃ c t, dig n = c :: t ∧ t.length ≤ 19 ∧ isDigit c ∧ (c.toNat = 48 → n = 0 ∧ t = []) ∧ (t.length = 19 → c.toNat = 49 ∧ 10000000000000000000 ≤ n) := by
  obtain ⟨i1, i2, c, t, i3, i4, i5, i6, i7⟩ := dig_spec n (by omega)
  have hc : isDigit c := i1 c (by rw [i3]; simp)
  have hlen : t.length ≤ 19 := by
    rcases Nat.lt_or_ge t.length 20 with h' | h'
    · omega
    · exfalso
      have hp : 10 ^ 20 ≤ 10 ^ t.length := Nat.pow_le_pow_right (by omega) h'
      rcases Nat.eq_zero_or_pos n with h0 | h0
      · have := i7 (by omega)
        rw [this] at h'
        simp at h'
      · have h49 := i6 h0
        have : 1 * 10 ^ t.length ≤ (c.toNat - 48) * 10 ^ t.length := Nat.mul_le_mul_right _ (by omega)
        omega
  refine ⟨c, t, i3, hlen, hc, fun h48 => ?_, fun h19 => ?_⟩
  · rcases Nat.eq_zero_or_pos n with h0 | h0
    · exact ⟨h0, i7 (by omega)⟩
    · have := i6 h0; omega
  · rw [h19] at i4 i5
    unfold isDigit at hc
    have : n ≠ 0 := fun h0 => by
      have := i7 (by omega)
      rw [this] at h19
      simp at h19
    have h49 := i6 (by omega)
    constructor <;> omega

theorem val_take_succ (l : List UInt8) (k : Nat) (hk : k < l.length) : val (l.take (k + 1)) = 10 * val (l.take k) + (l[k].toNat - 48) := by
  rw [List.take_add_one, List.getElem?_eq_getElem hk]
  exact val_snoc _ _

theorem val_mono (l m : List UInt8) : val l ≤ val (l ++ m) := by
  have h : ∀ (m : List UInt8) (v : Nat), v ≤ m.foldl (fun v c => 10 * v + (c.toNat - 48)) v := by
    intro m
    induction m with
    | nil => intro v; simp
    | cons c m ih => intro v; exact Nat.le_trans (show v ≤ 10 * v + (c.toNat - 48) by omega) (ih _)
  unfold val
  rw [List.foldl_append]
  exact h m _

theorem val_take_le (l : List UInt8) (k : Nat) : val (l.take k) ≤ val l := by
  have := val_mono (l.take k) (l.drop k)
  rwa [List.take_append_drop] at this

end Go.Proofs.Ytifemmjblamfkaa.Dig
