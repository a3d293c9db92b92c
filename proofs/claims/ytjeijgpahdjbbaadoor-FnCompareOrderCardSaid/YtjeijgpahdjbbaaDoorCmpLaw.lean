/- FnCompareOrder: its walk. -/
import Derived.Test.YtjeijgpahdjbbaaDoorCompare
import Derived.Test.YtjeijgpahdjbbaaDoorFits
namespace Go.Proofs.YtjeijgpahdjbbaaDoor.CompareOrder
open Go.RowKit

theorem u8c : U8 Tryd.prog 29 5 := ⟨by kernel_rfl, by kernel_rfl, by kernel_rfl⟩
theorem string9c : Tryd.prog.underlying 9 = some .string := by kernel_rfl

set_option maxRecDepth 100000 in
theorem names_any (a b : ByteArray) (X Y : List Nat) (hX : Runes a.data.toList X) (hY : Runes b.data.toList Y) (ha : a.size ≤ 1000) (hb : b.size ≤ 1000) (w : World) (hT : Lib.Utf8Tabs 0 1 w) :
    Calls Tryd.prog 6 #[.string a, .string b] w fun e w' => e = .returned (.int .i64 (cmpK X Y)) ∧ Below w.heap.size w w' := by
  have HX := Lib.hid hX
  have HY := Lib.hid hY
  have HT := Lib.hid hT
  clear hX hY hT
  go_enter Tryd.func6, Tryd.ntmps6
  go_wp2_with (first
    | (refine wpList_conv u8c rfl (.tmp 5) 9 rfl string9c rfl (by unfold maxLen; omega) ?_; intro c1 w1 o1 b1 z1; have O1 := Lib.hid o1; have B1 := Lib.hid b1; have Z1 := Lib.hid z1; clear o1 z1 b1)
    | (refine wpList_conv u8c rfl (.tmp 7) 9 rfl string9c rfl (by unfold maxLen; omega) ?_; intro c2 w2 o2 b2 z2; have O2 := Lib.hid o2; have B2 := Lib.hid b2; have Z2 := Lib.hid z2; clear o2 z2 b2))
  have s1 := O1.out.slice
  have s2 := O2.out.slice
  have q := below_step B1.out B2.out
  have z1 := Z1.out
  have z2 := Z2.out
  refine (compare_any a.data.toList b.data.toList X Y w.heap.size w1.heap.size a.size b.size c1 c2 w2 HX.out HY.out s1.1 s2.1 (by rw [s1.1]; exact s1.2.1) (by rw [s2.1]; exact s2.2.1) (by omega) (by omega) (s1.2.2.2.2.below B2.out (by omega)) s2.2.2.2.2 (tabs_below HT.out q)).mono ?_
  rintro e w3 ⟨rfl, b3⟩
  have B3 := Lib.hid (below_step q b3)
  clear s1 s2 q z1 z2 b3
  go_wp2_with fail
  go_ret
  exact ⟨rfl, B3.out⟩

theorem strs3 (w : World) (a b c : ByteArray) (T : TypeId) : Strs (w.alloc (.cells #[.string a, .string b, .string c] T)) w.heap.size [a, b, c] := by
  intro j hj
  match j, hj with
  | 0, _ => simp
  | 1, _ => simp
  | 2, _ => simp

theorem sizes3 {a b c : ByteArray} {n : Nat} (ha : a.size ≤ n) (hb : b.size ≤ n) (hc : c.size ≤ n) : ∀ j (h : j < [a, b, c].length), [a, b, c][j].size ≤ n := by
  intro j hj
  match j, hj with
  | 0, _ => simpa using ha
  | 1, _ => simpa using hb
  | 2, _ => simpa using hc

set_option maxRecDepth 100000 in
set_option maxHeartbeats 4000000 in
theorem walk (a b c : ByteArray) (ha : a.size ≤ maxLen) (hb : b.size ≤ maxLen) (hc : c.size ≤ maxLen) (w : World) (hT : Lib.Utf8Tabs 0 1 w) :
    Calls Tryd.prog 3 #[.string a, .string b, .string c] w fun e w' => e = .returned (.bool true) ∧ Below w.heap.size w w' := by
  unfold maxLen at ha hb hc
  have HT := Lib.hid hT
  clear hT
  by_cases h1 : 2147483647 < a.size
  · go_enter Tryd.func3, Tryd.ntmps3
    go_wp2
    go_ret
    exact ⟨rfl, Below.refl _ _⟩
  by_cases h2 : 2147483647 < b.size
  · go_enter Tryd.func3, Tryd.ntmps3
    go_wp2
    go_ret
    exact ⟨rfl, Below.refl _ _⟩
  by_cases h3 : 2147483647 < c.size
  · go_enter Tryd.func3, Tryd.ntmps3
    go_wp2
    go_ret
    exact ⟨rfl, Below.refl _ _⟩
  go_enter Tryd.func3, Tryd.ntmps3
  cases h : fitsB [a, b, c]
  · have H := Lib.hid h
    clear h
    go_wp2_with fail
    refine (fits8_any [a, b, c] _ _ _ _ rfl (by simp) (strs3 _ _ _ _ _) (sizes3 (by omega) (by omega) (by omega))).mono ?_
    rintro e w1 ⟨rfl, rfl⟩
    rw [H.out]
    go_wp2_with fail
    go_ret
    exact ⟨rfl, (Below.refl _ _).alloc (Nat.le_refl _) _⟩
  have hz : a.size ≤ 1000 ∧ b.size ≤ 1000 ∧ c.size ≤ 1000 := by simpa [fitsB] using h
  obtain ⟨za, zb, zc⟩ := hz
  have H := Lib.hid h
  clear h
  go_wp2_with fail
  refine (fits8_any [a, b, c] _ _ _ _ rfl (by simp) (strs3 _ _ _ _ _) (sizes3 (by omega) (by omega) (by omega))).mono ?_
  rintro e w1 ⟨rfl, rfl⟩
  rw [H.out]
  have hB0 : Below w.heap.size w (w.alloc (Obj.cells #[Value.string a, Value.string b, Value.string c] 9)) := (Below.refl _ _).alloc (Nat.le_refl _) _
  have B0 := Lib.hid hB0
  clear hB0
  go_wp2_with fail
  refine (isText_any a (by omega) _).mono ?_
  rintro e w1 ⟨rfl, t1, rfl, ht1⟩
  cases t1 with
  | false =>
    clear ht1
    go_wp2_with fail
    go_ret
    exact ⟨rfl, B0.out⟩
  | true =>
  obtain ⟨ra, hra⟩ := (ht1 rfl).runes
  have RA := Lib.hid hra
  clear ht1 hra
  go_wp2_with fail
  refine (isText_any b (by omega) _).mono ?_
  rintro e w1 ⟨rfl, t1, rfl, ht1⟩
  cases t1 with
  | false =>
    clear ht1
    go_wp2_with fail
    go_ret
    exact ⟨rfl, B0.out⟩
  | true =>
  obtain ⟨rb, hrb⟩ := (ht1 rfl).runes
  have RB := Lib.hid hrb
  clear ht1 hrb
  go_wp2_with fail
  refine (isText_any c (by omega) _).mono ?_
  rintro e w1 ⟨rfl, t1, rfl, ht1⟩
  cases t1 with
  | false =>
    clear ht1
    go_wp2_with fail
    go_ret
    exact ⟨rfl, B0.out⟩
  | true =>
  obtain ⟨rc, hrc⟩ := (ht1 rfl).runes
  have RC := Lib.hid hrc
  clear ht1 hrc
  have LAW := Lib.hid (names_law RA.out RB.out RC.out)
  have CAS := Lib.hid (cmpK_cases ra rb)
  have TURN := Lib.hid (cmpK_turn ra rb)
  go_wp2_with fail
  refine (names_any a b ra rb RA.out RB.out za zb _ (tabs_below HT.out B0.out)).mono ?_
  rintro e w1 ⟨rfl, b1⟩
  have B1 := Lib.hid (below_step B0.out b1)
  clear b1
  go_wp2_with fail
  refine (names_any b c rb rc RB.out RC.out zb zc _ (tabs_below HT.out B1.out)).mono ?_
  rintro e w2 ⟨rfl, b2⟩
  have B2 := Lib.hid (below_step B1.out b2)
  clear b2
  go_wp2_with fail
  refine (names_any a c ra rc RA.out RC.out za zc _ (tabs_below HT.out B2.out)).mono ?_
  rintro e w3 ⟨rfl, b3⟩
  have B3 := Lib.hid (below_step B2.out b3)
  clear b3
  go_wp2_with fail
  refine (names_any b a rb ra RB.out RA.out zb za _ (tabs_below HT.out B3.out)).mono ?_
  rintro e w4 ⟨rfl, b4⟩
  have B4 := Lib.hid (below_step B3.out b4)
  clear b4
  rw [TURN.out]
  have hEq : (a.toList == b.toList) = decide (cmpK ra rb = 0) := by
    rw [Lib.toList_data, Lib.toList_data]
    by_cases e : cmpK ra rb = 0
    · rw [decide_eq_true e, beq_iff_eq]
      exact LAW.out.1.1 e
    · have : ¬ a.data.toList = b.data.toList := fun x => e (LAW.out.1.2 x)
      rw [decide_eq_false e, beq_eq_false_iff_ne]
      exact this
  have HEq := Lib.hid hEq
  have L4 := Lib.hid LAW.out.2.2.2
  clear hEq LAW TURN RA RB RC
  have hcas := CAS.out
  generalize cmpK ra rb = x at *
  generalize cmpK rb rc = y at *
  generalize cmpK ra rc = z at *
  rcases hcas with rfl | rfl | rfl
  · have hq : (a.toList == b.toList) = false := by rw [HEq.out]; decide
    by_cases hy : (0 : Int) < y
    · go_wp2_with fail
      go_ret
      exact ⟨rfl, B4.out⟩
    · have hz : z ≤ 0 := by have := L4.out; omega
      go_wp2_with fail
      go_ret
      exact ⟨rfl, B4.out⟩
  · have hq : (a.toList == b.toList) = true := by rw [HEq.out]; decide
    by_cases hy : (0 : Int) < y
    · go_wp2_with fail
      go_ret
      exact ⟨rfl, B4.out⟩
    · have hz : z ≤ 0 := by have := L4.out; omega
      go_wp2_with fail
      go_ret
      exact ⟨rfl, B4.out⟩
  · have hq : (a.toList == b.toList) = false := by rw [HEq.out]; decide
    go_wp2_with fail
    go_ret
    exact ⟨rfl, B4.out⟩

end Go.Proofs.YtjeijgpahdjbbaaDoor.CompareOrder
