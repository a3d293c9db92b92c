/- FnOutside: its walk. -/
import Derived.Test.YtjjbgoknmofajaaDoorOutW
namespace Go.Proofs.YtjjbgoknmofajaaDoor.Outside
open Go.RowKit Go.Proofs.YtjjbgoknmofajaaDoor Go.Proofs.YtjjbgoknmofajaaDoor.Wire

theorem strs3' {w : World} {b : Nat} {x y z : ByteArray} (h : w.cell? ⟨b, 0, none⟩ = some (.string x)) (k : w.cell? ⟨b, 1, none⟩ = some (.string y)) (m : w.cell? ⟨b, 2, none⟩ = some (.string z)) : Strs w b [x, y, z] := by
  intro j hj
  match j, hj with
  | 0, _ => exact h
  | 1, _ => exact k
  | 2, _ => exact m

theorem sizes3 {a b c : ByteArray} {n : Nat} (ha : a.size ≤ n) (hb : b.size ≤ n) (hc : c.size ≤ n) : ∀ j (h : j < [a, b, c].length), [a, b, c][j].size ≤ n := by
  intro j hj
  match j, hj with
  | 0, _ => exact ha
  | 1, _ => exact hb
  | 2, _ => exact hc

theorem below_drewN {n : Nat} {w w' : World} (h : Below n w w') (m : Nat) : Below n w (w'.drewN m) := ⟨h.os, h.tape, h.output, h.size, h.block⟩

theorem size_app (a b : ByteArray) : (a ++ b).size = a.size + b.size := by rw [← size_eq, data_append, List.length_append, size_eq, size_eq]

set_option maxRecDepth 100000 in
set_option maxHeartbeats 4000000 in
theorem walk (f : Nat → Nat) (u1 u2 : TypeId) (x1 x2 : Value) (a s b : ByteArray) (ha : a.size ≤ maxLen) (hs : s.size ≤ maxLen) (hb : b.size ≤ maxLen) (w : World) (hW : World5 f u1 u2 x1 x2 w) (hf : EscAll f) :
    Calls Tryd.prog 6 #[.string a, .string s, .string b] w fun e w' => e = .returned (.bool true) ∧ Below w.heap.size w w' := by
  unfold maxLen at ha hs hb
  have HW := Lib.hid hW
  have HF := Lib.hid hf
  clear hW hf
  by_cases h1 : 2147483647 < a.size
  · go_enter Tryd.func6, Tryd.ntmps6
    go_wp2
    go_ret
    exact ⟨rfl, Below.refl _ _⟩
  by_cases h2 : 2147483647 < s.size
  · go_enter Tryd.func6, Tryd.ntmps6
    go_wp2
    go_ret
    exact ⟨rfl, Below.refl _ _⟩
  by_cases h3 : 2147483647 < b.size
  · go_enter Tryd.func6, Tryd.ntmps6
    go_wp2
    go_ret
    exact ⟨rfl, Below.refl _ _⟩
  cases hfit : fitsB [a, s, b]
  · have H := Lib.hid hfit
    clear hfit
    go_enter Tryd.func6, Tryd.ntmps6
    go_wp2_with fail
    refine (fits8_any [a, s, b] _ _ _ _ rfl (by simp) (strs3' (by simp) (by simp) (by simp)) (sizes3 (by omega) (by omega) (by omega))).mono ?_
    rintro e w1 ⟨rfl, rfl⟩
    rw [H.out]
    go_wp2_with fail
    go_ret
    exact ⟨rfl, (Below.refl _ _).alloc (Nat.le_refl _) _⟩
  have hz : a.size ≤ 1000 ∧ s.size ≤ 1000 ∧ b.size ≤ 1000 := by simpa [fitsB] using hfit
  obtain ⟨za, zs, zb⟩ := hz
  have H := Lib.hid hfit
  clear hfit
  by_cases h0 : a.size + b.size = 0
  · have e0 : (((a.size : Nat) : Int) + ((b.size : Nat) : Int) == 0) = true := by rw [beq_iff_eq]; omega
    go_enter Tryd.func6, Tryd.ntmps6
    go_wp2_with fail
    refine (fits8_any [a, s, b] _ _ _ _ rfl (by simp) (strs3' (by simp) (by simp) (by simp)) (sizes3 (by omega) (by omega) (by omega))).mono ?_
    rintro e w1 ⟨rfl, rfl⟩
    rw [H.out]
    go_wp2_with fail
    go_ret
    exact ⟨rfl, (Below.refl _ _).alloc (Nat.le_refl _) _⟩
  have e0 : (((a.size : Nat) : Int) + ((b.size : Nat) : Int) == 0) = false := by rw [beq_eq_false_iff_ne]; omega
  obtain ⟨ab, hab⟩ : ∃ ab : ByteArray, a ++ b = ab := ⟨_, rfl⟩
  have habs : ab.size ≤ 2000 := by rw [← hab, size_app]; omega
  have habl : ab.data.toList = a.data.toList ++ b.data.toList := by rw [← hab, data_append]
  have HABL := Lib.hid habl
  have hbig1 : ¬ 9223372036854775807 < a.size + b.size := by omega
  clear habl
  go_enter Tryd.func6, Tryd.ntmps6
  go_wp2_with fail
  refine (fits8_any [a, s, b] _ _ _ _ rfl (by simp) (strs3' (by simp) (by simp) (by simp)) (sizes3 (by omega) (by omega) (by omega))).mono ?_
  rintro e w1 ⟨rfl, rfl⟩
  rw [H.out]
  obtain ⟨W, hWW⟩ : ∃ W, W = w.alloc (.cells #[.string a, .string s, .string b] 9) := ⟨_, rfl⟩
  have hb0 : Below w.heap.size w W := by rw [hWW]; exact (Below.refl _ _).alloc (Nat.le_refl _) _
  rw [← hWW]
  have HB0 := Lib.hid hb0
  clear hWW hb0
  go_wp2_with fail
  refine (every8_any ab _ (by omega) (by decide) _).mono ?_
  rintro e w2 ⟨⟨r, rfl, hr⟩, n, rfl⟩
  cases r with
  | false =>
    clear hr
    go_wp2_with fail
    go_ret
    exact ⟨rfl, below_drewN HB0.out n⟩
  | true =>
    have hne : ∀ c ∈ a.data.toList, c ≠ 34 := by
      intro c hc e
      have := hr rfl c (by rw [HABL.out]; exact List.mem_append_left _ hc)
      rw [e] at this
      revert this
      decide
    have HNE := Lib.hid hne
    have hb1 := below_drewN HB0.out n
    have HB1 := Lib.hid hb1
    clear hr hne hb1
    go_wp2_with fail
    refine (implQuote_all f u1 u2 x1 x2 ⟨#[]⟩ s _ (HW.out.below HB1.out) HF.out (by decide) (by omega)).mono ?_
    rintro e w3 ⟨b3, q, ok3, hq, hql, _, rfl⟩
    obtain ⟨t, ht⟩ : ∃ t : ByteArray, t = ⟨((⟨#[]⟩ : ByteArray).data.toList ++ 34 :: (q ++ [34])).toArray⟩ := ⟨_, rfl⟩
    rw [← ht]
    have htl : t.data.toList = 34 :: (q ++ [34]) := by rw [ht]; simp
    rw [size_eq] at hql
    have hts : t.size ≤ 8002 := by rw [← size_eq, htl]; simp; omega
    obtain ⟨at', hat⟩ : ∃ x : ByteArray, a ++ t = x := ⟨_, rfl⟩
    obtain ⟨atb, hatb⟩ : ∃ x : ByteArray, at' ++ b = x := ⟨_, rfl⟩
    have hatl : atb.data.toList = a.data.toList ++ (34 :: (q ++ [34])) ++ b.data.toList := by rw [← hatb, ← hat, data_append, data_append, htl]
    have hats : at'.size ≤ 9002 := by rw [← hat, size_app]; omega
    have hatbs : atb.size ≤ 10002 := by rw [← hatb, size_app]; omega
    have hbig2 : ¬ 9223372036854775807 < a.size + t.size := by omega
    have hbig3 : ¬ 9223372036854775807 < at'.size + b.size := by omega
    have B3 := Lib.hid (below_step HB1.out b3)
    have HQ := Lib.hid hq
    have HTL := Lib.hid htl
    have HATL := Lib.hid hatl
    clear b3 hq hql ht htl hatl
    go_wp2_with fail
    refine (implUnquote_all u1 u2 x1 x2 ⟨#[]⟩ t _ (HW.out.below B3.out).w4 (by decide) (by omega)).mono ?_
    rintro e w4 ⟨b4, m4, ok4, h4, rfl⟩
    rw [HTL.out] at h4
    obtain rfl := all_ok HQ.out h4
    have B4 := Lib.hid (below_step B3.out b4)
    clear b4 h4
    go_wp2_with fail
    refine (implUnquote_all u1 u2 x1 x2 ⟨#[]⟩ atb _ (HW.out.below B4.out).w4 (by decide) (by omega)).mono ?_
    rintro e w5 ⟨b5, m5, ok5, h5, rfl⟩
    rw [HATL.out] at h5
    have hab0 : a.data.toList ≠ [] ∨ b.data.toList ≠ [] := by
      rcases Nat.eq_zero_or_pos a.size with e | e
      · refine .inr (fun k => ?_)
        have := congrArg List.length k
        rw [size_eq, List.length_nil] at this
        omega
      · refine .inl (fun k => ?_)
        have := congrArg List.length k
        rw [size_eq, List.length_nil] at this
        omega
    obtain rfl := all_no HQ.out hab0 HNE.out h5
    have B5 := Lib.hid (below_step B4.out b5)
    clear b5 h5 hab0
    go_wp2_with fail
    go_ret
    exact ⟨rfl, B5.out⟩

end Go.Proofs.YtjjbgoknmofajaaDoor.Outside
