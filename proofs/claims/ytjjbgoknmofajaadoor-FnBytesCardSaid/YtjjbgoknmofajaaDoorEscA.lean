/- jsonwire: the escape of a byte of ASCII, and of U+2028 and U+2029, appended. -/
import Derived.Test.YtjjbgoknmofajaaDoorEscU
import Derived.Test.YtjjbgoknmofajaaDoorMade
namespace Go.Proofs.YtjjbgoknmofajaaDoor
open Go.RowKit

/-- The escape of a byte. -/
def escX (c : UInt8) : List UInt8 :=
  if c = 34 ∨ c = 92 then [92, c] else if c = 8 then [92, 98] else if c = 12 then [92, 102] else if c = 10 then [92, 110] else if c = 13 then [92, 114] else if c = 9 then [92, 116]
  else Exact.unit c.toNat

set_option maxRecDepth 100000 in
set_option maxHeartbeats 4000000 in
theorem escASCII_any (v0 : Value) (l0 : List UInt8) (c : UInt8) (a : Nat) (hca : a = c.toNat) (w : World) (hown : Own w v0 l0) (hl0 : l0.length ≤ 1000000000000) :
    Calls Tryd.prog 44 #[v0, .int .u8 (a : Int)] w (App w v0 (l0 ++ escX c)) := by
  have HO := Lib.hid hown
  clear hown
  by_cases e34 : a = 34
  · subst e34
    have hc : c = 34 := UInt8.toNat_inj.1 hca.symm
    have hv : escX c = [92, 34] := by rw [hc]; rfl
    rw [hv]
    clear hv
    go_enter Tryd.func44, Tryd.ntmps44
    go_wp2_with (at_builtin
                 refine wpList_app u8q rfl (.tmp 13) (.tmp 15) 39 rfl ((AppTo.refl HO.out).alloc _) (by rfl) [92, 34] (by rfl) (by exact src_block u8q (by exact heap_alloc_new w _) [92, 34] (by rfl) 2) (by simp; omega) ?_
                 intro v1 w1 k1
                 have K1 := Lib.hid k1
                 clear k1)
    go_ret
    exact ⟨_, rfl, K1.out⟩
  have n34 : ((a : Int) == 34) = false := by rw [beq_eq_false_iff_ne]; omega
  by_cases e92 : a = 92
  · subst e92
    have hc : c = 92 := UInt8.toNat_inj.1 hca.symm
    have hv : escX c = [92, 92] := by rw [hc]; rfl
    rw [hv]
    clear hv
    go_enter Tryd.func44, Tryd.ntmps44
    go_wp2_with (at_builtin
                 refine wpList_app u8q rfl (.tmp 13) (.tmp 15) 39 rfl ((AppTo.refl HO.out).alloc _) (by rfl) [92, 92] (by rfl) (by exact src_block u8q (by exact heap_alloc_new w _) [92, 92] (by rfl) 2) (by simp; omega) ?_
                 intro v1 w1 k1
                 have K1 := Lib.hid k1
                 clear k1)
    go_ret
    exact ⟨_, rfl, K1.out⟩
  have n92 : ((a : Int) == 92) = false := by rw [beq_eq_false_iff_ne]; omega
  by_cases e8 : a = 8
  · subst e8
    have hc : c = 8 := UInt8.toNat_inj.1 hca.symm
    have hv : escX c = [92, 98] := by rw [hc]; rfl
    rw [hv]
    clear hv
    go_enter Tryd.func44, Tryd.ntmps44
    go_wp2_with (at_builtin
                 refine wpList_app u8q rfl (.tmp 19) (.const (.string ⟨#[92, 98]⟩)) 9 rfl (AppTo.refl HO.out) (by rfl) [92, 98] (by rfl) (by exact src_strm _ _ rfl) (by simp; omega) ?_
                 intro v1 w1 k1
                 have K1 := Lib.hid k1
                 clear k1)
    go_ret
    exact ⟨_, rfl, K1.out⟩
  have n8 : ((a : Int) == 8) = false := by rw [beq_eq_false_iff_ne]; omega
  by_cases e12 : a = 12
  · subst e12
    have hc : c = 12 := UInt8.toNat_inj.1 hca.symm
    have hv : escX c = [92, 102] := by rw [hc]; rfl
    rw [hv]
    clear hv
    go_enter Tryd.func44, Tryd.ntmps44
    go_wp2_with (at_builtin
                 refine wpList_app u8q rfl (.tmp 23) (.const (.string ⟨#[92, 102]⟩)) 9 rfl (AppTo.refl HO.out) (by rfl) [92, 102] (by rfl) (by exact src_strm _ _ rfl) (by simp; omega) ?_
                 intro v1 w1 k1
                 have K1 := Lib.hid k1
                 clear k1)
    go_ret
    exact ⟨_, rfl, K1.out⟩
  have n12 : ((a : Int) == 12) = false := by rw [beq_eq_false_iff_ne]; omega
  by_cases e10 : a = 10
  · subst e10
    have hc : c = 10 := UInt8.toNat_inj.1 hca.symm
    have hv : escX c = [92, 110] := by rw [hc]; rfl
    rw [hv]
    clear hv
    go_enter Tryd.func44, Tryd.ntmps44
    go_wp2_with (at_builtin
                 refine wpList_app u8q rfl (.tmp 27) (.const (.string ⟨#[92, 110]⟩)) 9 rfl (AppTo.refl HO.out) (by rfl) [92, 110] (by rfl) (by exact src_strm _ _ rfl) (by simp; omega) ?_
                 intro v1 w1 k1
                 have K1 := Lib.hid k1
                 clear k1)
    go_ret
    exact ⟨_, rfl, K1.out⟩
  have n10 : ((a : Int) == 10) = false := by rw [beq_eq_false_iff_ne]; omega
  by_cases e13 : a = 13
  · subst e13
    have hc : c = 13 := UInt8.toNat_inj.1 hca.symm
    have hv : escX c = [92, 114] := by rw [hc]; rfl
    rw [hv]
    clear hv
    go_enter Tryd.func44, Tryd.ntmps44
    go_wp2_with (at_builtin
                 refine wpList_app u8q rfl (.tmp 31) (.const (.string ⟨#[92, 114]⟩)) 9 rfl (AppTo.refl HO.out) (by rfl) [92, 114] (by rfl) (by exact src_strm _ _ rfl) (by simp; omega) ?_
                 intro v1 w1 k1
                 have K1 := Lib.hid k1
                 clear k1)
    go_ret
    exact ⟨_, rfl, K1.out⟩
  have n13 : ((a : Int) == 13) = false := by rw [beq_eq_false_iff_ne]; omega
  by_cases e9 : a = 9
  · subst e9
    have hc : c = 9 := UInt8.toNat_inj.1 hca.symm
    have hv : escX c = [92, 116] := by rw [hc]; rfl
    rw [hv]
    clear hv
    go_enter Tryd.func44, Tryd.ntmps44
    go_wp2_with (at_builtin
                 refine wpList_app u8q rfl (.tmp 35) (.const (.string ⟨#[92, 116]⟩)) 9 rfl (AppTo.refl HO.out) (by rfl) [92, 116] (by rfl) (by exact src_strm _ _ rfl) (by simp; omega) ?_
                 intro v1 w1 k1
                 have K1 := Lib.hid k1
                 clear k1)
    go_ret
    exact ⟨_, rfl, K1.out⟩
  have n9 : ((a : Int) == 9) = false := by rw [beq_eq_false_iff_ne]; omega
  have hv : escX c = Exact.unit a := by
    unfold escX
    have ne : ∀ x : UInt8, a ≠ x.toNat → c ≠ x := fun x h e => h (by rw [hca, e])
    rw [if_neg (fun h => by rcases h with h | h; exact ne 34 e34 h; exact ne 92 e92 h), if_neg (ne 8 e8), if_neg (ne 12 e12), if_neg (ne 10 e10), if_neg (ne 13 e13), if_neg (ne 9 e9), hca]
  have ha := c.toNat_lt
  rw [← hca] at ha
  rw [hv]
  clear hv hca
  go_enter Tryd.func44, Tryd.ntmps44
  go_wp2_with fail
  refine (escU_any v0 l0 a (by omega) _ HO.out hl0).mono ?_
  rintro e w1 ⟨v1, rfl, k1⟩
  have K1 := Lib.hid k1
  clear k1
  go_wp2_with fail
  go_ret
  exact ⟨_, rfl, K1.out⟩

set_option maxRecDepth 100000 in
set_option maxHeartbeats 4000000 in
theorem escSep_any (v0 : Value) (l0 : List UInt8) (r : Nat) (hr : r = 8232 ∨ r = 8233) (w : World) (hown : Own w v0 l0) (hl0 : l0.length ≤ 1000000000000) :
    Calls Tryd.prog 46 #[v0, .int .i32 (r : Int)] w (App w v0 (l0 ++ Exact.unit r)) := by
  have HO := Lib.hid hown
  clear hown
  rcases hr with rfl | rfl
  all_goals
    go_enter Tryd.func46, Tryd.ntmps46
    go_wp2_with (first | (go_at_call 57; go_in))
    refine (escU_any v0 l0 _ (by decide) _ HO.out hl0).mono ?_
    rintro e w1 ⟨v1, rfl, k1⟩
    have K1 := Lib.hid k1
    clear k1
    go_wp2_with fail
    go_ret
    exact ⟨_, rfl, K1.out⟩

end Go.Proofs.YtjjbgoknmofajaaDoor
