/- Characters and texts (plain). -/
import Derived.Test.YtlgmdcaoogiooaaGreatDoorChecked
import Derived.Test.YtlgmdcaoogiooaaGreatDoorLib
import Derived.Lib.Strings
namespace Go.Proofs.YtlgmdcaoogiooaaGreatDoor
open Go.RowKit

def cont (c : UInt8) : Prop := 128 ≤ c.toNat ∧ c.toNat ≤ 191

/-- The first n bytes are one character. -/
def CharAt (l : List UInt8) (n : Nat) : Prop :=
  (n = 1 ∧ ∃ a t, l = a :: t ∧ a.toNat < 128) ∨
  (n = 2 ∧ ∃ a b t, l = a :: b :: t ∧ 194 ≤ a.toNat ∧ a.toNat ≤ 223 ∧ cont b) ∨
  (n = 3 ∧ ∃ a b c t, l = a :: b :: c :: t ∧ 224 ≤ a.toNat ∧ a.toNat ≤ 239 ∧ cont b ∧ cont c ∧ (a.toNat = 224 → 160 ≤ b.toNat) ∧ (a.toNat = 237 → b.toNat ≤ 159)) ∨
  (n = 4 ∧ ∃ a b c d t, l = a :: b :: c :: d :: t ∧ 240 ≤ a.toNat ∧ a.toNat ≤ 244 ∧ cont b ∧ cont c ∧ cont d ∧ (a.toNat = 240 → 144 ≤ b.toNat) ∧ (a.toNat = 244 → b.toNat ≤ 143))

theorem data_at (s : ByteArray) (j : Nat) (h : j < s.size) : s.data.toList[j]'(by rw [size_eq]; exact h) = s[j]'h := rfl

theorem list1 (l : List UInt8) (h : 1 ≤ l.length) : ∃ t, l = l[0] :: t := ⟨l.drop 1, by rw [← List.drop_eq_getElem_cons (i := 0) (by omega)]; rfl⟩
theorem list2 (l : List UInt8) (h : 2 ≤ l.length) : ∃ t, l = l[0] :: l[1] :: t := ⟨l.drop 2, by rw [← List.drop_eq_getElem_cons (i := 1) (by omega), ← List.drop_eq_getElem_cons (i := 0) (by omega)]; rfl⟩
theorem list3 (l : List UInt8) (h : 3 ≤ l.length) : ∃ t, l = l[0] :: l[1] :: l[2] :: t := ⟨l.drop 3, by rw [← List.drop_eq_getElem_cons (i := 2) (by omega), ← List.drop_eq_getElem_cons (i := 1) (by omega), ← List.drop_eq_getElem_cons (i := 0) (by omega)]; rfl⟩
theorem list4 (l : List UInt8) (h : 4 ≤ l.length) : ∃ t, l = l[0] :: l[1] :: l[2] :: l[3] :: t := ⟨l.drop 4, by rw [← List.drop_eq_getElem_cons (i := 3) (by omega), ← List.drop_eq_getElem_cons (i := 2) (by omega), ← List.drop_eq_getElem_cons (i := 1) (by omega), ← List.drop_eq_getElem_cons (i := 0) (by omega)]; rfl⟩

/-- Bytes that are one character behind the other. -/
inductive Text : List UInt8 → Prop
  | nil : Text []
  | cons {l : List UInt8} {n : Nat} : CharAt l n → Text (l.drop n) → Text l

theorem CharAt.le {l : List UInt8} {n : Nat} (h : CharAt l n) : 1 ≤ n ∧ n ≤ l.length := by
  rcases h with ⟨rfl, a, t, rfl, _⟩ | ⟨rfl, a, b, t, rfl, _⟩ | ⟨rfl, a, b, c, t, rfl, _⟩ | ⟨rfl, a, b, c, d, t, rfl, _⟩ <;> simp

theorem extract_list (s : ByteArray) (n : Nat) : (s.extract n s.size).data.toList = s.data.toList.drop n := by
  rw [ByteArray.data_extract, Array.toList_extract, List.extract_eq_take_drop]
  exact List.take_of_length_le (by rw [List.length_drop, size_eq]; omega)

theorem nonempty {s : ByteArray} (h : 0 < s.size) : s.toList.isEmpty = false := by
  rw [Lib.toList_data]
  cases e : s.data.toList with
  | nil => rw [← size_eq, e] at h; simp at h
  | cons => rfl

theorem empty {s : ByteArray} (h : ¬ 0 < s.size) : s.toList.isEmpty = true := by
  rw [Lib.toList_data, List.isEmpty_iff]
  exact List.eq_nil_of_length_eq_zero (by rw [size_eq]; omega)

end Go.Proofs.YtlgmdcaoogiooaaGreatDoor
