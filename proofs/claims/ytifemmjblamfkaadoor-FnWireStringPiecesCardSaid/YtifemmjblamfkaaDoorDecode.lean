/- Characters: decoding and encoding (plain). -/
import Derived.Test.YtifemmjblamfkaaDoorChar
import Derived.Lib.RuneBytes
import Derived.Laws.RangeAny
namespace Go.Proofs.YtifemmjblamfkaaDoor
open Go.RowKit

theorem get_of {s : ByteArray} {pos i : Nat} {a : UInt8} (h : (s.data.toList.drop pos)[i]? = some a) : s.get! (pos + i) = a ∧ pos + i < s.size := by
  rw [List.getElem?_drop] at h
  obtain ⟨h1, h2⟩ := List.getElem?_eq_some_iff.1 h
  have h3 : pos + i < s.size := by rw [size_eq] at h1; exact h1
  refine ⟨?_, h3⟩
  have := get_at s (pos + i) h3
  rw [Nat.add_zero] at this
  rw [this]
  exact h2

theorem enc_one (x : Int) (a : UInt8) (h : x = (a.toNat : Int)) : x.toNat.toUInt8 = a := by
  subst h
  rw [Int.toNat_natCast]
  exact UInt8.toNat_inj.1 (by simp)

/-- What the bytes of one character say. -/
def rv : List UInt8 → Nat
  | [a] => a.toNat
  | [a, b] => a.toNat % 32 * 64 + b.toNat % 64
  | [a, b, c] => a.toNat % 16 * 4096 + b.toNat % 64 * 64 + c.toNat % 64
  | [a, b, c, d] => a.toNat % 8 * 262144 + b.toNat % 64 * 4096 + c.toNat % 64 * 64 + d.toNat % 64
  | _ => 0

/-- Decoding a character, and encoding what has been read. -/
theorem decode_char' (s : ByteArray) (pos n : Nat) (h : CharAt (s.data.toList.drop pos) n) :
    ∃ r : Nat, Utf8.decode s pos = (r, n) ∧ Lib.encodeRune r = (s.data.toList.drop pos).take n ∧ r ≤ 1114111 ∧ (r < 55296 ∨ 57343 < r) ∧ (r < 128 → ∃ a t, s.data.toList.drop pos = a :: t ∧ n = 1 ∧ a.toNat = r) ∧ (128 ≤ r → ∀ c ∈ (s.data.toList.drop pos).take n, 128 ≤ c.toNat) ∧ r = rv ((s.data.toList.drop pos).take n) := by
  rcases h with ⟨rfl, a, t, e, h1⟩ | ⟨rfl, a, b, t, e, h1, h2, h3⟩ | ⟨rfl, a, b, c, t, e, h1, h2, h3, h4, h5, h6⟩ | ⟨rfl, a, b, c, d, t, e, h1, h2, h3, h4, h5, h6, h7⟩
  · obtain ⟨g0, k0⟩ := get_of (s := s) (pos := pos) (i := 0) (a := a) (by rw [e]; rfl)
    refine ⟨a.toNat, ?_, ?_, by omega, .inl (by omega), fun _ => ⟨a, t, e, rfl, rfl⟩, fun h => absurd h (by omega), by rw [e]; rfl⟩
    · simp only [Utf8.decode, g0, if_pos h1]
    · rw [e]
      simp only [Lib.encodeRune, Lib.encodeRuneZ_one (r := (a.toNat : Int)) (by omega) (by omega), List.map_cons, List.map_nil]
      rw [enc_one _ a rfl]
      rfl
  · obtain ⟨g0, k0⟩ := get_of (s := s) (pos := pos) (i := 0) (a := a) (by rw [e]; rfl)
    obtain ⟨g1, k1⟩ := get_of (s := s) (pos := pos) (i := 1) (a := b) (by rw [e]; rfl)
    unfold cont at h3
    refine ⟨a.toNat % 32 * 64 + b.toNat % 64, ?_, ?_, by omega, .inl (by omega), fun h => absurd h (by omega), fun _ x hx => ?_, by rw [e]; rfl⟩
    · have c1 : ¬ a.toNat < 128 := by omega
      have c2 : (a.toNat / 32 == 6) = true := by rw [beq_iff_eq]; omega
      have c3 : (b.toNat / 64 == 2) = true := by rw [beq_iff_eq]; omega
      have c4 : a.toNat % 32 * 64 + b.toNat % 64 ≥ 128 := by omega
      simp only [Utf8.decode, g0, g1, k1, c1, c2, c3, c4, decide_true, Bool.and_true, if_true, if_false]
    · rw [e]
      simp only [Lib.encodeRune, Lib.encodeRuneZ_two (r := ((a.toNat % 32 * 64 + b.toNat % 64 : Nat) : Int)) (by omega) (by omega), List.map_cons, List.map_nil]
      rw [enc_one _ a (by omega), enc_one _ b (by omega)]
      rfl
    · rw [e] at hx
      simp at hx
      rcases hx with rfl | rfl <;> omega
  · obtain ⟨g0, k0⟩ := get_of (s := s) (pos := pos) (i := 0) (a := a) (by rw [e]; rfl)
    obtain ⟨g1, k1⟩ := get_of (s := s) (pos := pos) (i := 1) (a := b) (by rw [e]; rfl)
    obtain ⟨g2, k2⟩ := get_of (s := s) (pos := pos) (i := 2) (a := c) (by rw [e]; rfl)
    unfold cont at h3 h4
    have hv : a.toNat % 16 * 4096 + b.toNat % 64 * 64 + c.toNat % 64 < 55296 ∨ 57343 < a.toNat % 16 * 4096 + b.toNat % 64 * 64 + c.toNat % 64 := by omega
    refine ⟨a.toNat % 16 * 4096 + b.toNat % 64 * 64 + c.toNat % 64, ?_, ?_, by omega, hv, fun h => absurd h (by omega), fun _ x hx => ?_, by rw [e]; rfl⟩
    · have c1 : ¬ a.toNat < 128 := by omega
      have c2 : (a.toNat / 32 == 6) = false := by rw [beq_eq_false_iff_ne]; omega
      have c2' : (a.toNat / 16 == 14) = true := by rw [beq_iff_eq]; omega
      have c3 : (b.toNat / 64 == 2) = true := by rw [beq_iff_eq]; omega
      have c3' : (c.toNat / 64 == 2) = true := by rw [beq_iff_eq]; omega
      have c4 : decide (a.toNat % 16 * 4096 + b.toNat % 64 * 64 + c.toNat % 64 ≥ 2048) = true := by simp; omega
      have c5 : Utf8.valid ((a.toNat % 16 * 4096 + b.toNat % 64 * 64 + c.toNat % 64 : Nat) : Int) = true := by
        rw [Utf8.valid]
        simp only [Bool.or_eq_true, Bool.and_eq_true, decide_eq_true_eq]
        omega
      simp only [Utf8.decode, g0, g1, g2, k1, k2, c1, c2, c2', c3, c3', c4, c5, decide_true, Bool.and_true, if_true, if_false, Bool.false_eq_true]
    · rw [e]
      simp only [Lib.encodeRune, Lib.encodeRuneZ_three (r := ((a.toNat % 16 * 4096 + b.toNat % 64 * 64 + c.toNat % 64 : Nat) : Int)) (by omega), List.map_cons, List.map_nil]
      rw [enc_one _ a (by omega), enc_one _ b (by omega), enc_one _ c (by omega)]
      rfl
    · rw [e] at hx
      simp at hx
      rcases hx with rfl | rfl | rfl <;> omega
  · obtain ⟨g0, k0⟩ := get_of (s := s) (pos := pos) (i := 0) (a := a) (by rw [e]; rfl)
    obtain ⟨g1, k1⟩ := get_of (s := s) (pos := pos) (i := 1) (a := b) (by rw [e]; rfl)
    obtain ⟨g2, k2⟩ := get_of (s := s) (pos := pos) (i := 2) (a := c) (by rw [e]; rfl)
    obtain ⟨g3, k3⟩ := get_of (s := s) (pos := pos) (i := 3) (a := d) (by rw [e]; rfl)
    unfold cont at h3 h4 h5
    have hv : 65536 ≤ a.toNat % 8 * 262144 + b.toNat % 64 * 4096 + c.toNat % 64 * 64 + d.toNat % 64 ∧ a.toNat % 8 * 262144 + b.toNat % 64 * 4096 + c.toNat % 64 * 64 + d.toNat % 64 ≤ 1114111 := by omega
    refine ⟨a.toNat % 8 * 262144 + b.toNat % 64 * 4096 + c.toNat % 64 * 64 + d.toNat % 64, ?_, ?_, hv.2, .inr (by omega), fun h => absurd h (by omega), fun _ x hx => ?_, by rw [e]; rfl⟩
    · have c1 : ¬ a.toNat < 128 := by omega
      have c2 : (a.toNat / 32 == 6) = false := by rw [beq_eq_false_iff_ne]; omega
      have c2' : (a.toNat / 16 == 14) = false := by rw [beq_eq_false_iff_ne]; omega
      have c2'' : (a.toNat / 8 == 30) = true := by rw [beq_iff_eq]; omega
      have c3 : (b.toNat / 64 == 2) = true := by rw [beq_iff_eq]; omega
      have c3' : (c.toNat / 64 == 2) = true := by rw [beq_iff_eq]; omega
      have c3'' : (d.toNat / 64 == 2) = true := by rw [beq_iff_eq]; omega
      have c4 : decide (a.toNat % 8 * 262144 + b.toNat % 64 * 4096 + c.toNat % 64 * 64 + d.toNat % 64 ≥ 65536) = true := by simp; omega
      have c5 : Utf8.valid ((a.toNat % 8 * 262144 + b.toNat % 64 * 4096 + c.toNat % 64 * 64 + d.toNat % 64 : Nat) : Int) = true := by
        rw [Utf8.valid]
        simp only [Bool.or_eq_true, Bool.and_eq_true, decide_eq_true_eq]
        omega
      simp only [Utf8.decode, g0, g1, g2, g3, k1, k2, k3, c1, c2, c2', c2'', c3, c3', c3'', c4, c5, decide_true, Bool.and_true, if_true, if_false, Bool.false_eq_true]
    · rw [e]
      simp only [Lib.encodeRune, Lib.encodeRuneZ_four (r := ((a.toNat % 8 * 262144 + b.toNat % 64 * 4096 + c.toNat % 64 * 64 + d.toNat % 64 : Nat) : Int)) (by omega) (by omega), List.map_cons, List.map_nil]
      rw [enc_one _ a (by omega), enc_one _ b (by omega), enc_one _ c (by omega), enc_one _ d (by omega)]
      rfl
    · rw [e] at hx
      simp at hx
      rcases hx with rfl | rfl | rfl | rfl <;> omega


theorem decode_char (s : ByteArray) (pos n : Nat) (h : CharAt (s.data.toList.drop pos) n) :
    ∃ r : Nat, Utf8.decode s pos = (r, n) ∧ Lib.encodeRune r = (s.data.toList.drop pos).take n ∧ r ≤ 1114111 ∧ (r < 55296 ∨ 57343 < r) ∧ (r < 128 → ∃ a t, s.data.toList.drop pos = a :: t ∧ n = 1 ∧ a.toNat = r) ∧ (128 ≤ r → ∀ c ∈ (s.data.toList.drop pos).take n, 128 ≤ c.toNat) := by
  obtain ⟨r, h1, h2, h3, h4, h5, h6, _⟩ := decode_char' s pos n h
  exact ⟨r, h1, h2, h3, h4, h5, h6⟩

end Go.Proofs.YtifemmjblamfkaaDoor
