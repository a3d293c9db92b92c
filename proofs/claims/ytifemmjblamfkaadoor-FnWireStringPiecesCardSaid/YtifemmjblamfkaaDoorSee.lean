/- The reference's reader: the byte at its place. -/
import Derived.Test.YtifemmjblamfkaaDoorReader
namespace Go.Proofs.YtifemmjblamfkaaDoor
open Go.RowKit

def seeB (l : List UInt8) (k : Nat) : Int := match l[k]? with
  | some c => ((c.toNat : Nat) : Int)
  | none => 0

structure Seen (w : World) (l : List UInt8) (k : Nat) (e : Ending) (w' : World) : Prop where
  what : e = .returned (.int .u8 (seeB l k))
  world : ∃ n, w' = w.drewN n

theorem drewN2 (w : World) (a b : Nat) : (w.drewN a).drewN b = w.drewN (a + b) := by
  unfold World.drewN
  simp [Nat.add_assoc]

theorem see_any (b : Nat) (s : ByteArray) (k : Nat) (tw lo : Bool) (f : Int) (op : Bool) (w : World) (h : Rd w b s k tw lo f op) :
    Calls Tryd.prog 17 #[.pointer (some ⟨b, 0, none⟩)] w (Seen w s.data.toList k) := by
  obtain ⟨c0, c1, _, _, _, _⟩ := h.cells
  have hle := h.le
  have hlt := h.lt
  by_cases hk : k < s.size
  · have g0 : decide ((k : Int) < (s.size : Int)) = true := by simpa using hk
    have hi0 : (0 : Int) ≤ (k : Int) := by omega
    have hi1 : (k : Int) < (s.size : Int) := by omega
    have HE := Lib.hid (show seeB s.data.toList k = ((s[k].toNat : Nat) : Int) by
      unfold seeB
      have : s.data.toList[k]? = some s[k] := by simp [ByteArray.getElem_eq_getElem_data, hk]
      rw [this])
    go_enter Tryd.func17, Tryd.ntmps17
    go_wp2
    go_big_quiet (fail)
    go_wp2_with fail
    go_big_quiet (fail)
    go_wp2_with fail
    go_ret
    exact ⟨by rw [HE.out]; rfl, _, drewN2 _ _ _⟩
  · have g0 : decide ((k : Int) < (s.size : Int)) = false := by simpa using hk
    have HE := Lib.hid (show seeB s.data.toList k = 0 by
      unfold seeB
      rw [List.getElem?_eq_none (by rw [size_eq]; omega)])
    go_enter Tryd.func17, Tryd.ntmps17
    go_wp2
    go_big_quiet (fail)
    go_wp2_with fail
    go_ret
    exact ⟨by rw [HE.out]; rfl, _, rfl⟩

end Go.Proofs.YtifemmjblamfkaaDoor
