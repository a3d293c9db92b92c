/- FnBytes: its walk. -/
import Derived.Test.YtjjbgoknmofajaaDoorBytW
namespace Go.Proofs.YtjjbgoknmofajaaDoor.FnBy
open Go.RowKit Go.Proofs.YtjjbgoknmofajaaDoor Go.Proofs.YtjjbgoknmofajaaDoor.Wire

theorem strs2' {w : World} {b : Nat} {x y : ByteArray} (h : w.cell? ⟨b, 0, none⟩ = some (.string x)) (k : w.cell? ⟨b, 1, none⟩ = some (.string y)) : Strs w b [x, y] := by
  intro j hj
  match j, hj with
  | 0, _ => exact h
  | 1, _ => exact k

set_option maxRecDepth 100000 in
set_option maxHeartbeats 8000000 in
theorem walk (f : Nat → Nat) (u1 u2 : TypeId) (x1 x2 : Value) (a s : ByteArray) (ha : a.size ≤ maxLen) (hs : s.size ≤ maxLen) (w : World) (hW : World5 f u1 u2 x1 x2 w) (hf : EscAll f) :
    Calls Tryd.prog 8 #[.string a, .string s] w fun e w' => e = .returned (.bool true) ∧ Below w.heap.size w w' := by
  unfold maxLen at ha hs
  have HW := Lib.hid hW
  have HF := Lib.hid hf
  clear hW hf
  by_cases h1 : 2147483647 < a.size
  · go_enter Tryd.func8, Tryd.ntmps8
    go_wp2
    go_ret
    exact ⟨rfl, Below.refl _ _⟩
  by_cases h2 : 2147483647 < s.size
  · go_enter Tryd.func8, Tryd.ntmps8
    go_wp2
    go_ret
    exact ⟨rfl, Below.refl _ _⟩
  cases hfit : fitsB [a, s]
  · have H := Lib.hid hfit
    clear hfit
    go_enter Tryd.func8, Tryd.ntmps8
    go_wp2_with fail
    refine (fits8_any [a, s] _ _ _ _ rfl (by simp) (strs2' (by simp) (by simp)) (sizes2 (by omega) (by omega))).mono ?_
    rintro e w1 ⟨rfl, rfl⟩
    rw [H.out]
    go_wp2_with fail
    go_ret
    exact ⟨rfl, (Below.refl _ _).alloc (Nat.le_refl _) _⟩
  have hz : a.size ≤ 1000 ∧ s.size ≤ 1000 := by simpa [fitsB] using hfit
  obtain ⟨za, zs⟩ := hz
  have H := Lib.hid hfit
  clear hfit
  go_enter Tryd.func8, Tryd.ntmps8
  go_wp2_with fail
  refine (fits8_any [a, s] _ _ _ _ rfl (by simp) (strs2' (by simp) (by simp)) (sizes2 (by omega) (by omega))).mono ?_
  rintro e w1 ⟨rfl, rfl⟩
  rw [H.out]
  obtain ⟨W, hWW⟩ : ∃ W, W = w.alloc (.cells #[.string a, .string s] 9) := ⟨_, rfl⟩
  have hb0 : Below w.heap.size w W := by rw [hWW]; exact (Below.refl _ _).alloc (Nat.le_refl _) _
  rw [← hWW]
  have HB0 := Lib.hid hb0
  clear hWW hb0
  go_wp2_with fail
  refine (implQuote_all f u1 u2 x1 x2 a s _ (HW.out.below HB0.out) HF.out (by omega) (by omega)).mono ?_
  rintro e w2 ⟨b2, q, ok2, hq, hql, hok2, rfl⟩
  obtain ⟨t1, ht1⟩ : ∃ t1 : ByteArray, t1 = ⟨(a.data.toList ++ 34 :: (q ++ [34])).toArray⟩ := ⟨_, rfl⟩
  rw [← ht1]
  have hlen1 : a.size + 2 ≤ t1.size := by
    rw [← size_eq t1, ht1, ← size_eq a]
    simp
  have HT1 := Lib.hid ht1
  have HQ := Lib.hid hq
  have HOK2 := Lib.hid hok2
  have B2 := Lib.hid (below_step HB0.out b2)
  clear b2 hq hql hok2 ht1
  go_wp2_with (first
    | (refine wpList_conv u8q rfl (.tmp 33) 9 rfl string9q rfl (by unfold maxLen; omega) ?_
       intro c3 w3 o3 b3 z3
       have O3 := Lib.hid o3
       have B3 := Lib.hid b3
       have Z3 := Lib.hid z3
       clear o3 b3 z3)
    | (refine wpList_conv u8q rfl (.tmp 35) 9 rfl string9q rfl (by unfold maxLen; omega) ?_
       intro c4 w4 o4 b4 z4
       have O4 := Lib.hid o4
       have B4 := Lib.hid b4
       have Z4 := Lib.hid z4
       clear o4 b4 z4))
  have b24 := Lib.hid (below_step (below_step B2.out B3.out) B4.out)
  have o34 := Lib.hid (O3.out.below B4.out (O3.out.lt))
  refine (implQuoteBytes_all f u1 u2 x1 x2 _ _ a.data.toList s.data.toList _ (HW.out.below b24.out) HF.out o34.out O4.out (by rw [size_eq]; omega) (by rw [size_eq]; omega)).mono ?_
  rintro e w5 ⟨b5, q5, ok5, v5, hq5, hok5, own5, rfl⟩
  obtain rfl : q = q5 := HQ.out.one (fun _ _ => rfl) _ hq5
  obtain rfl : ok5 = ok2 := by
    have := HOK2.out
    cases ok5 <;> cases ok2 <;> simp_all
  have B5 := Lib.hid (below_step b24.out b5)
  have OWN5 := Lib.hid own5
  clear b5 hq5 hok5 own5
  go_wp2_with fail
  refine (implUnquote_all u1 u2 x1 x2 a s _ (HW.out.below B5.out).w4 (by omega) (by omega)).mono ?_
  rintro e w6 ⟨b6, q6, ok6, hq6, rfl⟩
  have own6 := OWN5.out.below b6 OWN5.out.lt
  obtain ⟨t6, ht6⟩ : ∃ t6 : ByteArray, t6 = ⟨(a.data.toList ++ q6).toArray⟩ := ⟨_, rfl⟩
  rw [← ht6]
  have HT6 := Lib.hid ht6
  have B6 := Lib.hid (below_step B5.out b6)
  have HQ6 := Lib.hid hq6
  have OWN6 := Lib.hid own6
  clear b6 hq6 own6 ht6
  go_wp2_with (first
    | (refine wpList_conv u8q rfl (.tmp 47) 9 rfl string9q rfl (by unfold maxLen; omega) ?_
       intro c7 w7 o7 b7 z7
       have O7 := Lib.hid o7
       have B7 := Lib.hid b7
       have Z7 := Lib.hid z7
       clear o7 b7 z7)
    | (refine wpList_conv u8q rfl (.tmp 49) 9 rfl string9q rfl (by unfold maxLen; omega) ?_
       intro c8 w8 o8 b8 z8
       have O8 := Lib.hid o8
       have B8 := Lib.hid b8
       have Z8 := Lib.hid z8
       clear o8 b8 z8))
  have b68 := Lib.hid (below_step B7.out B8.out)
  have b28 := Lib.hid (below_step B6.out b68.out)
  have o78 := Lib.hid (O7.out.below B8.out (O7.out.lt))
  refine (implUnquoteBytes_all u1 u2 x1 x2 _ _ a.data.toList s.data.toList _ (HW.out.below b28.out).w4 o78.out O8.out (by rw [size_eq]; omega) (by rw [size_eq]; omega)).mono ?_
  rintro e w9 ⟨b9, q9, ok9, v9, hq9, own9, rfl⟩
  obtain ⟨rfl, rfl⟩ := HQ6.out.one hq9
  have b69 := below_step b68.out b9
  have own59 := OWN6.out.below b69 OWN6.out.lt
  have B9 := Lib.hid (below_step b28.out b9)
  have OWN9 := Lib.hid own9
  have OWN59 := Lib.hid own59
  have he1 : (t1.toList == t1.toList) = true := by rw [beq_iff_eq]
  have he6 : (t6.toList == t6.toList) = true := by rw [beq_iff_eq]
  have hok1 : (ok5 == ok5) = true := by simp
  have hok6 : (ok6 == ok6) = true := by simp
  have hge : (a.size : Int) + 2 ≤ (t1.size : Int) := by omega
  clear hq9 own9 b9 b69 own59
  go_wp2_with (first
    | (refine wpList_toString u8q rfl (.tmp 55) 9 rfl string9q rfl OWN59.out ?_
       rw [← HT1.out])
    | (refine wpList_toString u8q rfl (.tmp 65) 9 rfl string9q rfl OWN9.out ?_
       rw [← HT6.out]))
  go_ret
  exact ⟨rfl, B9.out⟩

end Go.Proofs.YtjjbgoknmofajaaDoor.FnBy
