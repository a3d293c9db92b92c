/- The law 'null, false and true are read where a text begins with them': its walk. -/
import Derived.Test.YtifemmjblamfkaaWireWords
import Derived.Test.YtifemmjblamfkaaShort
namespace Go.Proofs.Ytifemmjblamfkaa.WireWords
open Go.RowKit

theorem mWord_eq : ∀ (W l : List UInt8) (k : Nat), ((mWord l W k).1 = true ↔ (l.drop k).take W.length = W) ∧ ((mWord l W k).1 = true → (mWord l W k).2 = k + W.length)
  | [], l, k => by simp [mWord]
  | c :: t, l, k => by
    have ih := mWord_eq t l (k + 1)
    unfold mWord
    by_cases h : l[k]? = some c
    · rw [if_pos h]
      have hk : k < l.length := by
        rcases Nat.lt_or_ge k l.length with h' | h'
        · exact h'
        · rw [List.getElem?_eq_none h'] at h; cases h
      have hc : l[k] = c := by rw [List.getElem?_eq_getElem hk] at h; exact Option.some.inj h
      constructor
      · rw [ih.1, List.drop_eq_getElem_cons hk, hc]
        simp
      · intro ht
        rw [ih.2 ht]
        simp; omega
    · rw [if_neg h]
      constructor
      · simp only [Bool.false_eq_true, false_iff]
        intro e
        apply h
        have := congrArg (fun x => x[0]?) e
        simpa using this
      · intro h'; cases h'

theorem head_eq (W l : List UInt8) : headN (mWord l W 0) = wordN W l := by
  have h := mWord_eq W l 0
  unfold headN wordN
  simp only [List.drop_zero, Nat.zero_add] at h
  by_cases e : (mWord l W 0).1 = true
  · rw [if_pos e, if_pos (h.1.1 e), h.2 e]
  · rw [if_neg e, if_neg (fun x => e (h.1.2 x))]

theorem wordHead_told (s wd : ByteArray) (W : List UInt8) (hW : wd.data.toList = W) (w : World) (hs : s.size ≤ 1000000000) (hwd : wd.size ≤ 1000000000) :
    Calls Try.prog 6 #[.string s, .string wd] w fun e w' => e = .returned (.tuple #[.int .i64 (wordN W s.data.toList), .int .i64 (headHow s.size (mWord s.data.toList W 0))]) ∧ Below w.heap.size w w' := by
  have h := wordHead_any s wd w hs hwd
  rw [hW, head_eq] at h
  exact h

set_option maxHeartbeats 1000000 in
theorem walk (a : ByteArray) (ha : a.size ≤ maxLen) (w : World) :
    Calls Try.prog 3 #[.string a] w fun e w' => e = .returned (.bool true) ∧ Below w.heap.size w w' := by
  unfold maxLen at ha
  by_cases h1 : 2147483647 < a.size
  · go_enter Try.func3, Try.ntmps3
    go_wp2
    go_ret
    exact ⟨rfl, Below.refl _ _⟩
  · cases h : shortB [a]
    · have H := Lib.hid h
      clear h
      go_enter Try.func3, Try.ntmps3
      go_wp2_with (go_at_call 5; refine (short10_any [a] _ _ _ _ rfl (by simp) (strs1 _ _ _) (sizes1 (by omega))).mono ?_; rintro e w1 ⟨rfl, rfl⟩; rw [H.out])
      go_ret
      exact ⟨rfl, (Below.refl _ _).alloc (Nat.le_refl _) _⟩
    · have hz : a.size ≤ 4000 := by simpa [shortB] using h
      have H := Lib.hid h
      clear h
      go_enter Try.func3, Try.ntmps3
      go_wp2_with (go_at_call 5; refine (short10_any [a] _ _ _ _ rfl (by simp) (strs1 _ _ _) (sizes1 (by omega))).mono ?_; rintro e w1 ⟨rfl, rfl⟩; rw [H.out])
      refine (wordHead_told a _ nullL rfl _ (by omega) (by decide)).mono ?_
      rintro e w1 ⟨rfl, b1⟩
      have B1 := Lib.hid b1
      clear b1
      go_wp2_with fail
      refine (wordHead_told a _ falseL rfl _ (by omega) (by decide)).mono ?_
      rintro e w2 ⟨rfl, b2⟩
      have B2 := Lib.hid b2
      clear b2
      go_wp2_with fail
      refine (wordHead_told a _ trueL rfl _ (by omega) (by decide)).mono ?_
      rintro e w3 ⟨rfl, b3⟩
      have B3 := Lib.hid b3
      clear b3
      go_wp2_with fail
      refine (wireNull_any a _ (by omega)).mono ?_
      rintro e w4 ⟨rfl, b4⟩
      have B4 := Lib.hid b4
      clear b4
      go_wp2_with fail
      refine (wireFalse_any a _ (by omega)).mono ?_
      rintro e w5 ⟨rfl, b5⟩
      have B5 := Lib.hid b5
      clear b5
      go_wp2_with fail
      refine (wireTrue_any a _ (by omega)).mono ?_
      rintro e w6 ⟨rfl, b6⟩
      have B6 := Lib.hid b6
      clear b6
      go_wp2_with fail
      go_ret
      exact ⟨rfl, (below_step (below_step (below_step (below_step (below_step (below_step ((Below.refl _ _).alloc (Nat.le_refl _) _) B1.out) B2.out) B3.out) B4.out) B5.out) B6.out)⟩

end Go.Proofs.Ytifemmjblamfkaa.WireWords
