/- The reference's white space. -/
import Derived.Test.YtebiendmngmjcaaDoorSee
import Derived.Test.YtebiendmngmjcaaDoorScan
import Derived.BigQuiet
namespace Go.Proofs.YtebiendmngmjcaaDoor
open Go.RowKit

set_option maxRecDepth 100000 in
set_option maxHeartbeats 1000000 in
theorem specSpace_any (c : Nat) (w : World) :
    Calls Tryd.prog 16 #[.int .u8 (c : Int)] w fun e w' => w' = w ∧ e = .returned (.bool (decide (isSp c))) := by
  by_cases h1 : c = 32
  · subst h1
    go_enter Tryd.func16, Tryd.ntmps16
    go_wp2
    go_ret
    exact ⟨rfl, rfl⟩
  have n1 : ((c : Int) == 32) = false := by rw [beq_eq_false_iff_ne]; omega
  by_cases h2 : c = 9
  · subst h2
    go_enter Tryd.func16, Tryd.ntmps16
    go_wp2
    go_ret
    exact ⟨rfl, rfl⟩
  have n2 : ((c : Int) == 9) = false := by rw [beq_eq_false_iff_ne]; omega
  by_cases h3 : c = 10
  · subst h3
    go_enter Tryd.func16, Tryd.ntmps16
    go_wp2
    go_ret
    exact ⟨rfl, rfl⟩
  have n3 : ((c : Int) == 10) = false := by rw [beq_eq_false_iff_ne]; omega
  by_cases h4 : c = 13
  · subst h4
    go_enter Tryd.func16, Tryd.ntmps16
    go_wp2
    go_ret
    exact ⟨rfl, rfl⟩
  have n4 : ((c : Int) == 13) = false := by rw [beq_eq_false_iff_ne]; omega
  have hd : decide (isSp c) = false := decide_eq_false (fun h => by unfold isSp at h; omega)
  rw [hd]
  clear hd h1 h2 h3 h4
  go_enter Tryd.func16, Tryd.ntmps16
  go_wp2
  go_ret
  exact ⟨rfl, rfl⟩

/-- Behind the white space from k on. -/
def mSpace (l : List UInt8) (k : Nat) : Nat := k + ((l.drop k).takeWhile (fun c => decide (isSp c.toNat))).length

theorem mSpace_on {l : List UInt8} {k : Nat} (hk : k < l.length) (h : isSp (l[k]'hk).toNat) : mSpace l k = mSpace l (k + 1) := by
  unfold mSpace
  rw [List.drop_eq_getElem_cons hk, List.takeWhile_cons, if_pos (by simpa using h), List.length_cons]
  omega

theorem mSpace_off {l : List UInt8} {k : Nat} (h : ∀ hk : k < l.length, ¬ isSp (l[k]'hk).toNat) : mSpace l k = k := by
  unfold mSpace
  by_cases hk : k < l.length
  · rw [List.drop_eq_getElem_cons hk, List.takeWhile_cons, if_neg (by simpa using h hk)]
    rfl
  · rw [List.drop_eq_nil_of_le (by omega)]
    rfl

end Go.Proofs.YtebiendmngmjcaaDoor
