/- The rules of encoding/json, as the reference has them. -/
import Derived.Test.YtebiendmngmjcaaDoorPrs
import Derived.Test.YtebiendmngmjcaaDoorFits
namespace Go.Proofs.YtebiendmngmjcaaDoor
open Go.RowKit

theorem strsOne {w : World} {b : Nat} {a : ByteArray} (h : w.cell? ⟨b, 0, none⟩ = some (.string a)) : Strs w b [a] := by
  intro j hj
  have : j = 0 := by simp at hj; exact hj
  subst this
  exact h

theorem rules_ret {tmps : Array Value} {Z : World} {r : Nat} {v0 v1 : Value} (hZ : Z.heap[r]? = some (.cells #[v0, v1] 31 (0, 0))) (hp : tmps.getD 0 undef = .pointer (some ⟨r, 0, none⟩)) :
    (results Tryd.f5 tmps).run Tryd.prog Z = .ok (.agg #[v0, v1]) Z :=
  results_cell_row (p := 0) (ty := 31) rfl tmps Z r 31 #[v0, v1] (0, 0) _ hp hZ Tryd.underlying31 rfl (by kernel_rfl)

theorem oldRules_any (w : World) :
    Calls Tryd.prog 5 #[] w fun e w' => e = .returned (.agg #[.bool true, .bool true]) ∧ Below w.heap.size w w' := by
  go_enter Tryd.func5, Tryd.ntmps5
  go_wp2_with fail
  (try simp only [Exit.inBlock, Exit.then])
  refine bodyPost_ret (rules_ret (r := w.heap.size) (v0 := .bool true) (v1 := .bool true) ?_ rfl) rfl ⟨rfl, ?_⟩
  · have h0 := heap_alloc_new w (.cells #[.bool false, .bool false] 31)
    have h1 := heap_setCell_same _ w.heap.size 0 _ _ (.bool true) h0
    first
      | exact heap_setCell_same _ w.heap.size 1 _ _ (.bool true) h1
      | exact heap_alloc_new w (.cells #[.bool true, .bool true] 31)
  · exact ⟨rfl, rfl, rfl, by simp, fun k hk => by first | (rw [sc_far _ _ _ _ _ (by omega), sc_far _ _ _ _ _ (by omega), Below.heap_alloc _ _ _ hk]) | exact Below.heap_alloc _ _ _ hk⟩

end Go.Proofs.YtebiendmngmjcaaDoor
