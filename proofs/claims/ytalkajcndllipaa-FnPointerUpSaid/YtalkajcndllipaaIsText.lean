/- Unicode text and pointers: the reference's tests. -/
import Derived.Test.YtalkajcndllipaaText
namespace Go.Proofs.Ytalkajcndllipaa
open Go.RowKit

/-- Bytes that are one character behind the other. -/
inductive Text : List UInt8 → Prop
  | nil : Text []
  | cons {l : List UInt8} {n : Nat} : CharAt l n → Text (l.drop n) → Text l

theorem CharAt.le {l : List UInt8} {n : Nat} (h : CharAt l n) : 1 ≤ n ∧ n ≤ l.length := by
  rcases h with ⟨rfl, a, t, rfl, _⟩ | ⟨rfl, a, b, t, rfl, _⟩ | ⟨rfl, a, b, c, t, rfl, _⟩ | ⟨rfl, a, b, c, d, t, rfl, _⟩ <;> simp

/-- What the reference says of a text. -/
structure IsText (l : List UInt8) (e : Ending) (w w' : World) : Prop where
  world : w = w'
  what : ∃ b : Bool, e = .returned (.bool b) ∧ (b = true → Text l)

theorem extract_list (s : ByteArray) (n : Nat) : (s.extract n s.size).data.toList = s.data.toList.drop n := by
  rw [ByteArray.data_extract, Array.toList_extract, List.extract_eq_take_drop]
  exact List.take_of_length_le (by rw [List.length_drop, size_eq]; omega)

theorem nonempty {s : ByteArray} (h : 0 < s.size) : s.toList.isEmpty = false := by
  rw [Lib.toList_data]
  cases e : s.data.toList with
  | nil => rw [← size_eq, e] at h; simp at h
  | cons => rfl

theorem empty {s : ByteArray} (h : ¬ 0 < s.size) : s.toList.isEmpty = true := by
  rw [Lib.toList_data, List.isEmpty_iff]
  exact List.eq_nil_of_length_eq_zero (by rw [size_eq]; omega)

set_option maxRecDepth 100000 in
set_option maxHeartbeats 400000 in
theorem isText_any (s : ByteArray) (hs : s.size ≤ 1000000000) (w : World) :
    Calls Try.prog 9 #[.string s] w fun e w' => IsText s.data.toList e w w' := by
  go_enter Try.func9, Try.ntmps9
  go_wp2
  go_loopw [0] (fun t wr => ∃ s' : ByteArray, t = .string s' ∧ s'.size ≤ s.size ∧ (Text s'.data.toList → Text s.data.toList) ∧ wr = w) (fun t _ => match t with | .string s' => s'.size | _ => 0)
  case atStart => exact ⟨s, rfl, Nat.le_refl _, id, rfl⟩
  case round =>
    obtain ⟨s', rfl, hle, ht, rfl⟩ := hrel
    have HT := Lib.hid ht
    clear ht
    by_cases h0 : 0 < s'.size
    · have hq := nonempty h0
      go_wp2_with fail
      refine (runeLength_any s' (by omega) h0 _).mono ?_
      rintro e w1 ⟨rfl, n, rfl, hn⟩
      rcases hn with rfl | hn
      · go_wp2_with fail
        go_ret
        exact ⟨rfl, false, rfl, fun h => by cases h⟩
      · have hn1 := hn.le.1
        have hn2 : n ≤ s'.size := by have := hn.le.2; rw [size_eq] at this; exact this
        have hz : ((n : Int) == 0) = false := by rw [beq_eq_false_iff_ne]; omega
        have HN := Lib.hid hn
        clear hn
        go_wp2_with fail
        have hsz : (s'.extract n s'.size).size = s'.size - n := by simp
        refine ⟨⟨_, rfl, by omega, fun h => HT.out (.cons HN.out ?_), trivial⟩, ?_⟩
        · rw [← extract_list]; exact h
        · show (s'.extract n s'.size).size < s'.size
          omega
    · have hq := empty h0
      have hnil : s'.data.toList = [] := List.eq_nil_of_length_eq_zero (by rw [size_eq]; omega)
      have HE := Lib.hid hnil
      clear hnil
      go_wp2
      go_ret
      exact ⟨rfl, true, rfl, fun _ => HT.out (by rw [HE.out]; exact .nil)⟩

end Go.Proofs.Ytalkajcndllipaa
