/- FnPointerAppend: its walk. -/
import Derived.Test.YtalkajcndllipaaPtrLaw
namespace Go.Proofs.Ytalkajcndllipaa.PtrAppend
open Go.RowKit

theorem strs1' {w : World} {b : Nat} {a : ByteArray} (h : w.cell? ⟨b, 0, none⟩ = some (.string a)) : Strs w b [a] := by
  intro j hj
  match j, hj with
  | 0, _ => exact h

set_option maxRecDepth 100000 in
set_option maxHeartbeats 1000000 in
theorem walk (p a : ByteArray) (hp : p.size ≤ maxLen) (ha : a.size ≤ maxLen) (w : World) :
    Calls Try.prog 3 #[.string p, .string a] w fun e w' => e = .returned (.bool true) ∧ Below w.heap.size w w' := by
  unfold maxLen at hp ha
  by_cases h1 : 2147483647 < p.size
  · go_enter Try.func3, Try.ntmps3
    go_wp2
    go_ret
    exact ⟨rfl, Below.refl _ _⟩
  by_cases h2 : 2147483647 < a.size
  · go_enter Try.func3, Try.ntmps3
    go_wp2
    go_ret
    exact ⟨rfl, Below.refl _ _⟩
  go_enter Try.func3, Try.ntmps3
  go_wp2_with fail
  refine (pointers10_any p (by omega) _ _ _ (by simp)).mono ?_
  rintro e w1 ⟨rfl, b, rfl, hb⟩
  cases b with
  | false =>
    clear hb
    go_wp2_with fail
    go_ret
    exact ⟨rfl, (Below.refl _ _).alloc (Nat.le_refl _) _⟩
  | true =>
    have hp2 : p.size ≤ 4000 := by have := (hb rfl).2; rw [size_eq] at this; exact this
    clear hb
    cases h : shortB [a]
    · have H := Lib.hid h
      clear h
      go_wp2_with fail
      refine (short10_any [a] _ _ _ _ rfl (by simp) (strs1' (by simp)) (sizes1 (by omega))).mono ?_
      rintro e w1 ⟨rfl, rfl⟩
      rw [H.out]
      go_wp2_with fail
      go_ret
      exact ⟨rfl, ((Below.refl _ _).alloc (Nat.le_refl _) _).alloc (by simp) _⟩
    · have hz : a.size ≤ 4000 := by simpa [shortB] using h
      have H := Lib.hid h
      clear h
      go_wp2_with fail
      refine (short10_any [a] _ _ _ _ rfl (by simp) (strs1' (by simp)) (sizes1 (by omega))).mono ?_
      rintro e w1 ⟨rfl, rfl⟩
      rw [H.out]
      go_wp2_with fail
      refine (isText_any a (by omega) _).mono ?_
      rintro e w1 ⟨rfl, b, rfl, hb⟩
      cases b with
      | false =>
        clear hb
        go_wp2_with fail
        go_ret
        exact ⟨rfl, ((Below.refl _ _).alloc (Nat.le_refl _) _).alloc (by simp) _⟩
      | true =>
        have HT := Lib.hid (hb rfl)
        clear hb
        go_wp2_with fail
        refine (pointerAppend_any p a _ (by omega) hz HT.out).mono ?_
        rintro e w2 ⟨b2, rfl⟩
        have B2 := Lib.hid b2
        clear b2
        go_wp2_with fail
        refine (pointerOf_any a hz _ _ _ (by simp) (by simp)).mono ?_
        rintro e w3 ⟨b3, rfl⟩
        have B3 := Lib.hid b3
        clear b3
        have hbig : ¬ 9223372036854775807 < p.size + ((esc a.data.toList).length + 1) := by
          have := esc_len a.data.toList
          rw [size_eq] at this
          omega
        have heq : (p.data.toList ++ 47 :: esc a.data.toList == (p ++ { data := (47 :: esc a.data.toList).toArray } : ByteArray).toList) = true := by
          rw [beq_iff_eq, Lib.toList_data, data_append]
        go_wp2_with fail
        go_ret
        refine ⟨rfl, ?_⟩
        have q1 : Below w.heap.size w ((w.alloc (Obj.cells #[Value.string p] 9)).alloc (Obj.cells #[Value.string a] 9)) := ((Below.refl _ _).alloc (Nat.le_refl _) _).alloc (by simp) _
        have q2 := below_step q1 B2.out
        exact below_step (q2.alloc q2.size _) B3.out

end Go.Proofs.Ytalkajcndllipaa.PtrAppend
