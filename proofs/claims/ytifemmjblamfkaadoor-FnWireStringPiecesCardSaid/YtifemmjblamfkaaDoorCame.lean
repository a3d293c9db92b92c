/- The reference's 'came'. -/
import Derived.Test.YtifemmjblamfkaaDoorReader
namespace Go.Proofs.YtifemmjblamfkaaDoor
open Go.RowKit

def rdVal (s : ByteArray) (k : Nat) (tw lo : Bool) (f : Int) (op : Bool) : Value := .agg #[.string s, .int .i64 k, .bool tw, .bool lo, .int .i64 f, .bool op]

/-- What is told of reading a part: how many bytes, and how it came out. -/
def headN (r : Bool × Nat) : Int := if r.1 then (r.2 : Int) else 0
def headHow (n : Nat) (r : Bool × Nat) : Int := if r.1 then 0 else if r.2 = n then 1 else 2

set_option maxHeartbeats 400000 in
theorem came_any (s : ByteArray) (k : Nat) (tw lo : Bool) (f : Int) (op ok : Bool) (w : World) :
    Calls Tryd.prog 12 #[rdVal s k tw lo f op, .bool ok] w fun e w' => e = .returned (.tuple #[.int .i64 (headN (ok, k)), .int .i64 (headHow s.size (ok, k))]) ∧ Below w.heap.size w w' := by
  unfold rdVal
  cases ok
  · by_cases h : k = s.size
    · subst h
      go_enter Tryd.func12, Tryd.ntmps12
      go_wp2
      go_ret2
      exact ⟨by simp [headN, headHow], (Below.refl _ _).alloc (Nat.le_refl _) _⟩
    · have hk : (k == s.size) = false := by simpa using h
      go_enter Tryd.func12, Tryd.ntmps12
      go_wp2
      go_ret2
      exact ⟨by simp [headN, headHow, h], (Below.refl _ _).alloc (Nat.le_refl _) _⟩
  · go_enter Tryd.func12, Tryd.ntmps12
    go_wp2
    go_ret2
    exact ⟨rfl, (Below.refl _ _).alloc (Nat.le_refl _) _⟩

end Go.Proofs.YtifemmjblamfkaaDoor
