/- Escaping goes part by part: the law's walk. -/
import Derived.Test.YthehfindahcbnaaEscLaw
import Derived.Test.YthehfindahcbnaaFits
import Derived.Lib.Strings
namespace Go.Proofs.Ythehfindahcbnaa.EscJoin
open Go.RowKit

theorem strs2 (w : World) (a b : ByteArray) (T : TypeId) : Strs (w.alloc (.cells #[.string a, .string b] T)) w.heap.size [a, b] := by
  intro j hj
  match j, hj with
  | 0, _ => simp
  | 1, _ => simp

theorem sizes2 {a b : ByteArray} {n : Nat} (ha : a.size ≤ n) (hb : b.size ≤ n) : ∀ j (h : j < [a, b].length), [a, b][j].size ≤ n := by
  intro j hj
  match j, hj with
  | 0, _ => simpa using ha
  | 1, _ => simpa using hb

set_option maxHeartbeats 400000 in
theorem walk_big (a b : ByteArray) (ha : a.size ≤ maxLen) (hb : b.size ≤ maxLen) (w : World) (h : fitsB [a, b] = false) :
    Calls Try.prog 4 #[.string a, .string b] w fun e w' => e = .returned (.bool true) ∧ Below w.heap.size w w' := by
  unfold maxLen at ha hb
  by_cases h1 : 2147483647 < a.size
  · clear h
    go_enter Try.func4, Try.ntmps4
    go_wp2
    go_ret
    exact ⟨rfl, Below.refl _ _⟩
  · by_cases h2 : 2147483647 < b.size
    · clear h
      go_enter Try.func4, Try.ntmps4
      go_wp2
      go_ret
      exact ⟨rfl, Below.refl _ _⟩
    · have H := Lib.hid h
      clear h
      go_enter Try.func4, Try.ntmps4
      go_wp2_with (go_at_call 7; refine (fits8_any [a, b] _ _ _ _ rfl (by simp) (strs2 _ _ _ _) (sizes2 (by omega) (by omega))).mono ?_; rintro e w1 ⟨rfl, rfl⟩; rw [H.out])
      go_ret
      exact ⟨rfl, (Below.refl _ _).alloc (Nat.le_refl _) _⟩
theorem fits2 {a b : ByteArray} (h : fitsB [a, b] = true) : a.size ≤ 1000 ∧ b.size ≤ 1000 := by
  simpa [fitsB] using h

theorem below4 {w w2 w3 w4 w5 : World} {o : Obj} (h2 : Below (w.alloc o).heap.size (w.alloc o) w2) (h3 : Below w2.heap.size w2 w3) (h4 : Below w3.heap.size w3 w4) (h5 : Below w4.heap.size w4 w5) : Below w.heap.size w w5 := by
  have s2 := h2.size
  simp at s2
  have s3 := h3.size
  have s4 := h4.size
  exact ((Below.refl _ _).alloc (Nat.le_refl _) o).trans ((h2.mono (by simp)).trans ((h3.mono (by omega)).trans ((h4.mono (by omega)).trans (h5.mono (by omega)))))

set_option maxRecDepth 100000 in
set_option maxHeartbeats 1000000 in
theorem walk_small (a b : ByteArray) (w : World) (h : fitsB [a, b] = true) :
    Calls Try.prog 4 #[.string a, .string b] w fun e w' => e = .returned (.bool true) ∧ Below w.heap.size w w' := by
  obtain ⟨ha, hb⟩ := fits2 h
  have H := Lib.hid h
  clear h
  obtain ⟨A, hA⟩ : ∃ A : ByteArray, A.data.toList = [] ++ Esc.H a.data.toList := ⟨⟨(Esc.H a.data.toList).toArray⟩, rfl⟩
  obtain ⟨R, hR⟩ : ∃ R : ByteArray, R.data.toList = [] ++ Esc.H (a.data.toList ++ b.data.toList) := ⟨⟨(Esc.H (a.data.toList ++ b.data.toList)).toArray⟩, rfl⟩
  have hAs : A.size ≤ 100000 := by
    rw [← size_eq, hA]
    have := (Esc.H_len _ a.data.toList (Nat.le_refl _)).2
    rw [size_eq] at this
    simp
    omega
  have hRs : a.size + b.size ≤ R.size := by
    rw [← size_eq R, hR]
    have := (Esc.H_len _ (a.data.toList ++ b.data.toList) (Nat.le_refl _)).1
    rw [List.length_append, size_eq, size_eq] at this
    simpa using this
  have join : (∀ x, a.data.toList.getLast? = some x → x.toNat < 128) → R.data.toList = A.data.toList ++ Esc.H b.data.toList := fun hl => by
    rw [hR, hA, Esc.H_append _ _ _ (Nat.le_refl _) hl]; simp
  have HA := Lib.hid hA
  have HR := Lib.hid hR
  have HJ := Lib.hid join
  clear hA hR join
  by_cases h0 : a.size = 0
  · have hE : a.toList = [] := by
      rw [Lib.toList_data]
      exact List.eq_nil_of_length_eq_zero (by rw [size_eq]; exact h0)
    have HR2 := Lib.hid (HJ.out (by rw [← Lib.toList_data, hE]; simp))
    clear h0
    go_enter Try.func4, Try.ntmps4
    go_wp2_with (go_at_call 7; refine (fits8_any [a, b] _ _ _ _ rfl (by simp) (strs2 _ _ _ _) (sizes2 (by omega) (by omega))).mono ?_; rintro e w1 ⟨rfl, rfl⟩; rw [H.out])
    go_wp2_with fail
    refine (oldSafe_any ⟨#[]⟩ (a ++ b) R _ (by decide) (by rw [ByteArray.size_append]; omega) (by rw [data_append]; exact HR.out)).mono ?_
    rintro e w2 ⟨rfl, b2⟩
    have B2 := Lib.hid b2
    clear b2
    go_wp2_with fail
    refine (oldSafe_any ⟨#[]⟩ a A _ (by decide) (by omega) HA.out).mono ?_
    rintro e w3 ⟨rfl, b3⟩
    have B3 := Lib.hid b3
    clear b3
    go_wp2_with fail
    refine (oldSafe_any A b R _ hAs (by omega) HR2.out).mono ?_
    rintro e w4 ⟨rfl, b4⟩
    have B4 := Lib.hid b4
    clear b4
    go_wp2_with fail
    refine (oldSafe_any ⟨#[]⟩ (a ++ b) R _ (by decide) (by rw [ByteArray.size_append]; omega) (by rw [data_append]; exact HR.out)).mono ?_
    rintro e w5 ⟨rfl, b5⟩
    have B5 := Lib.hid b5
    clear b5
    go_wp2_with fail
    go_ret
    exact ⟨congrArg (fun x => Ending.returned (Value.bool x)) (decide_eq_true (by omega)), below4 B2.out B3.out B4.out B5.out⟩
  · have h1 : 1 ≤ a.size := by omega
    have hlt : a.size - 1 < a.size := by omega
    have hE : a.toList.isEmpty = false := by
      rw [Lib.toList_data]
      simp only [List.isEmpty_eq_false_iff, ne_eq]
      intro e
      have := size_eq a
      rw [e] at this
      simp at this
      omega
    have hE2 : ¬ a.toList = [] := by simpa using hE
    have hlast : a.data.toList.getLast? = some a[a.size - 1] := by
      rw [List.getLast?_eq_getElem?, size_eq]
      simp [ByteArray.getElem_eq_getElem_data]
    by_cases h128 : 128 ≤ a[a.size - 1].toNat
    · clear hlast
      go_enter Try.func4, Try.ntmps4
      go_wp2_with (go_at_call 7; refine (fits8_any [a, b] _ _ _ _ rfl (by simp) (strs2 _ _ _ _) (sizes2 (by omega) (by omega))).mono ?_; rintro e w1 ⟨rfl, rfl⟩; rw [H.out])
      go_ret
      exact ⟨rfl, (Below.refl _ _).alloc (Nat.le_refl _) _⟩
    have HR2 := Lib.hid (HJ.out (fun x hx => by rw [hlast] at hx; cases hx; omega))
    clear hlast h0
    go_enter Try.func4, Try.ntmps4
    go_wp2_with (go_at_call 7; refine (fits8_any [a, b] _ _ _ _ rfl (by simp) (strs2 _ _ _ _) (sizes2 (by omega) (by omega))).mono ?_; rintro e w1 ⟨rfl, rfl⟩; rw [H.out])
    go_wp2_with fail
    refine (oldSafe_any ⟨#[]⟩ (a ++ b) R _ (by decide) (by rw [ByteArray.size_append]; omega) (by rw [data_append]; exact HR.out)).mono ?_
    rintro e w2 ⟨rfl, b2⟩
    have B2 := Lib.hid b2
    clear b2
    go_wp2_with fail
    refine (oldSafe_any ⟨#[]⟩ a A _ (by decide) (by omega) HA.out).mono ?_
    rintro e w3 ⟨rfl, b3⟩
    have B3 := Lib.hid b3
    clear b3
    go_wp2_with fail
    refine (oldSafe_any A b R _ hAs (by omega) HR2.out).mono ?_
    rintro e w4 ⟨rfl, b4⟩
    have B4 := Lib.hid b4
    clear b4
    go_wp2_with fail
    refine (oldSafe_any ⟨#[]⟩ (a ++ b) R _ (by decide) (by rw [ByteArray.size_append]; omega) (by rw [data_append]; exact HR.out)).mono ?_
    rintro e w5 ⟨rfl, b5⟩
    have B5 := Lib.hid b5
    clear b5
    go_wp2_with fail
    go_ret
    exact ⟨congrArg (fun x => Ending.returned (Value.bool x)) (decide_eq_true (by omega)), below4 B2.out B3.out B4.out B5.out⟩

theorem walk (a0 : ByteArray) (a1 : ByteArray) (w0 : a0.size ≤ maxLen) (w1 : a1.size ≤ maxLen) (w : World) :
    Calls Try.prog 4 #[.string a0, .string a1] w fun e w' => e = .returned (.bool true) ∧ Below w.heap.size w w' := by
  by_cases h : fitsB [a0, a1] = true
  · exact walk_small a0 a1 w h
  · exact walk_big a0 a1 w0 w1 w (by simpa using h)

end Go.Proofs.Ythehfindahcbnaa.EscJoin
