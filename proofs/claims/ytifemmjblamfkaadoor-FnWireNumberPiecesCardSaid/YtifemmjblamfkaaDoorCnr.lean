/- A jump to a label that is made once; what reading a number that may go on later leaves. -/
import Derived.Test.YtifemmjblamfkaaDoorNic
import Derived.Test.YtifemmjblamfkaaDoorIsE
import Derived.Test.YtifemmjblamfkaaDoorNumC
import Derived.ScopeJumps
import Derived.WalkMore
import Derived.Deep.CutBlock
import Derived.Deep.DeepCutAuto
namespace Go.Proofs.YtifemmjblamfkaaDoor
open Go.RowKit

/-- A scope in which the run jumps once to a label, and then goes on without a jump. -/
theorem wp_scope_goto {P : Program} {a : Act} {w : World} {Q : Exit → Act → World → Prop} {c rest : Code} (n : Nat) (hf : findLabel c n = some rest)
    (h : c.wp P (fun e a' w' => e = .goto n ∧ rest.wp P (Exit.noGoto Q) a' w') a w) : (Code.scope c).wp P Q a w := by
  refine wp_scope_jumps n (fun a' w' => rest.wp P (Exit.noGoto Q) a' w') (fun _ _ => 0) hf (wp_mono h ?_) (fun a' w' hJ => wp_mono hJ ?_)
  · rintro e a' w' ⟨rfl, h2⟩
    exact ⟨rfl, h2⟩
  · intro e a'' w'' hq
    cases e with
    | goto l => exact hq.elim
    | normal => exact hq
    | exit id => exact hq
    | ret => exact hq
    | panic ch => exact hq
    | outgrown => exact hq

/-- What lies in a function's scope. -/
def scopeOf (f : Func) : Code := match f.body with
  | some (.seq _ (.scope c)) => c
  | _ => .skip

/-- What is left: the place, the state, the error. -/
structure CnRes (w : World) (eofV : Value) (c : Nat × Nat × Nat) (e : Ending) (w' : World) : Prop where
  what : ∃ err, e = .returned (.tuple #[.int .i64 ((c.1 : Nat) : Int), .int .u64 ((c.2.1 : Nat) : Int), err]) ∧ (c.2.2 = 0 → err = .nilIface) ∧ (c.2.2 = 1 → err = eofV) ∧ (c.2.2 = 2 → Bad err)
  below : Below w.heap.size w w'

theorem Below.drewNB {n : Nat} (w : World) (k : Nat) : Below n w (w.drewN k) := ⟨rfl, rfl, rfl, Nat.le_refl _, fun _ _ => rfl⟩

end Go.Proofs.YtifemmjblamfkaaDoor
