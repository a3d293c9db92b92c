/- 'errors.Is' by contracts: the sentinel itself, nil, an error of another type. -/
import Derived.Test.YtifemmjblamfkaaDoorChecked
import Derived.Test.YtifemmjblamfkaaDoorLib
import Derived.WalkKit
import Derived.LaidEql
import Derived.Stop.Asserts
import Derived.RowKitTokens
import Derived.Handy
namespace Go.Proofs.YtifemmjblamfkaaDoor
open Go.RowKit Go.Extern.Stop Go.Stop Go.Extern

theorem ieTypeOf (v : Value) (w : World) : (Extern.ReflectliteType.typeOf #[.iface 95 v]).run Tryd.prog w = .ok (.iface 83 (.agg #[.pointer (some ⟨4, 95, none⟩)])) w := by kernel_rfl
/-- What 'Comparable' runs. -/
def cmpX : Array Value → Sem Value := Extern.ReflectliteType.method fun t => do Extern.Rtype.noPackHeld "Comparable" t; pure (.bool (← typeInfo t).comparable)

theorem ieComparable (w : World) : (cmpX #[.agg #[.pointer (some ⟨4, 95, none⟩)]]).run Tryd.prog w = .ok (.bool true) w := by kernel_rfl
theorem ieComp : (Tryd.prog.info? 95).map (·.comparable) = some true := by kernel_rfl
theorem ieSize : (Tryd.prog.info? 121).map (·.size) = some 1 := by kernel_rfl

theorem ieNoIs (v : Value) (xT : TypeId) (w : World) : (Instr.typeAssert (.iface 69 v) xT 85 true).run Tryd.prog w = .ok (.tuple #[.nilIface, .bool false]) w := run_typeAssert_lacksB Tryd.underlying85 (by kernel_rfl) (by kernel_rfl) v xT w
theorem ieNoUnwrap (v : Value) (xT : TypeId) (w : World) : (Instr.typeAssert (.iface 69 v) xT 88 true).run Tryd.prog w = .ok (.tuple #[.nilIface, .bool false]) w := run_typeAssert_lacksB Tryd.underlying88 (by kernel_rfl) (by kernel_rfl) v xT w
theorem ieNoUnwraps (v : Value) (xT : TypeId) (w : World) : (Instr.typeAssert (.iface 69 v) xT 90 true).run Tryd.prog w = .ok (.tuple #[.nilIface, .bool false]) w := run_typeAssert_lacksB Tryd.underlying90 (by kernel_rfl) (by kernel_rfl) v xT w
theorem ieNoIsS (v : Value) (xT : TypeId) (w : World) : (Instr.typeAssert (.iface 95 v) xT 85 true).run Tryd.prog w = .ok (.tuple #[.nilIface, .bool false]) w := run_typeAssert_lacksB Tryd.underlying85 (by kernel_rfl) (by kernel_rfl) v xT w
theorem ieNoUnwrapS (v : Value) (xT : TypeId) (w : World) : (Instr.typeAssert (.iface 95 v) xT 88 true).run Tryd.prog w = .ok (.tuple #[.nilIface, .bool false]) w := run_typeAssert_lacksB Tryd.underlying88 (by kernel_rfl) (by kernel_rfl) v xT w
theorem ieNoUnwrapsS (v : Value) (xT : TypeId) (w : World) : (Instr.typeAssert (.iface 95 v) xT 90 true).run Tryd.prog w = .ok (.tuple #[.nilIface, .bool false]) w := run_typeAssert_lacksB Tryd.underlying90 (by kernel_rfl) (by kernel_rfl) v xT w

set_option maxHeartbeats 1000000 in
/-- The sentinel itself. -/
theorem isE_same (a : Addr) (w : World) :
    Calls Tryd.prog 20 #[.iface 95 (.pointer (some a)), .iface 95 (.pointer (some a))] w fun e w' => e = .returned (.bool true) ∧ w' = w := by
  obtain ⟨i, hi, hcmp⟩ := Option.map_eq_some_iff.1 ieComp
  obtain ⟨j, hj, hjs⟩ := Option.map_eq_some_iff.1 ieSize
  have h8 := @run_callFunc_extern Tryd.prog 34 _ Extern.ReflectliteType.typeOf Tryd.func34 (by kernel_rfl) (by kernel_rfl) (by kernel_rfl) (by kernel_rfl)
  have h32 := @run_callFunc_extern Tryd.prog 61 _ cmpX Tryd.func61 (by kernel_rfl) (by kernel_rfl) (by kernel_rfl) (by kernel_rfl)
  have tT := ieTypeOf
  have cT := ieComparable
  have heq := run_eql_iface_ptr_same (P := Tryd.prog) w a Tryd.underlying42 Tryd.underlying95 hi hcmp hj
  go_enter Tryd.func20, Tryd.ntmps20
  go_wp2
  refine wp_loop_rounds 1 ?_
  rw [rounds_succ]
  go_wp2
  go_ret
  exact ⟨rfl, rfl⟩

set_option maxHeartbeats 1000000 in
/-- An error of a wrong text. -/
theorem isE_type (p a : Addr) (w : World) :
    Calls Tryd.prog 20 #[.iface 69 (.pointer (some p)), .iface 95 (.pointer (some a))] w fun e w' => e = .returned (.bool false) ∧ w' = w := by
  obtain ⟨i, hi, hcmp⟩ := Option.map_eq_some_iff.1 ieComp
  obtain ⟨j, hj, hjs⟩ := Option.map_eq_some_iff.1 ieSize
  have h8 := @run_callFunc_extern Tryd.prog 34 _ Extern.ReflectliteType.typeOf Tryd.func34 (by kernel_rfl) (by kernel_rfl) (by kernel_rfl) (by kernel_rfl)
  have h32 := @run_callFunc_extern Tryd.prog 61 _ cmpX Tryd.func61 (by kernel_rfl) (by kernel_rfl) (by kernel_rfl) (by kernel_rfl)
  have tT := ieTypeOf
  have cT := ieComparable
  have nE := ieNoIs
  have uE := ieNoUnwrap
  have vE := ieNoUnwraps
  have hty := run_eql_iface_types (P := Tryd.prog) 69 95 (.pointer (some p)) (.pointer (some a)) Tryd.underlying42 (by decide) w
  go_enter Tryd.func20, Tryd.ntmps20
  go_wp2
  refine wp_loop_rounds 1 ?_
  rw [rounds_succ]
  go_wp2
  go_ret
  exact ⟨rfl, rfl⟩

set_option maxHeartbeats 1000000 in
/-- Another sentinel. -/
theorem isE_other (a b : Addr) (ca cb : Array Value) (ta tb : TypeId) (w : World) (hne : a ≠ b) (ha : w.heap[a.block]? = some (.cells ca ta (0, 0))) (hb : w.heap[b.block]? = some (.cells cb tb (0, 0))) :
    Calls Tryd.prog 20 #[.iface 95 (.pointer (some a)), .iface 95 (.pointer (some b))] w fun e w' => e = .returned (.bool false) ∧ w' = w := by
  obtain ⟨i, hi, hcmp⟩ := Option.map_eq_some_iff.1 ieComp
  obtain ⟨j, hj, hjs⟩ := Option.map_eq_some_iff.1 ieSize
  have h8 := @run_callFunc_extern Tryd.prog 34 _ Extern.ReflectliteType.typeOf Tryd.func34 (by kernel_rfl) (by kernel_rfl) (by kernel_rfl) (by kernel_rfl)
  have h32 := @run_callFunc_extern Tryd.prog 61 _ cmpX Tryd.func61 (by kernel_rfl) (by kernel_rfl) (by kernel_rfl) (by kernel_rfl)
  have tT := ieTypeOf
  have cT := ieComparable
  have nE := ieNoIsS
  have uE := ieNoUnwrapS
  have vE := ieNoUnwrapsS
  have heq := run_eql_iface_ptr_other (P := Tryd.prog) w Tryd.underlying42 Tryd.underlying95 hi hcmp hj (by rw [hjs]; decide) hne ha hb
  go_enter Tryd.func20, Tryd.ntmps20
  go_wp2
  refine wp_loop_rounds 1 ?_
  rw [rounds_succ]
  go_wp2
  go_ret
  exact ⟨rfl, rfl⟩

/-- How an error is told: 0 none, 1 too short, 2 wrong. -/
theorem fault_nil (w : World) : Calls Tryd.prog 14 #[.nilIface] w fun e w' => e = .returned (.int .i64 0) ∧ w' = w := by
  go_enter Tryd.func14, Tryd.ntmps14
  go_wp2
  go_ret
  exact ⟨rfl, rfl⟩

theorem fault_eof (a : Addr) (w : World) (hg : w.cell? ⟨0, 0, none⟩ = some (.iface 95 (.pointer (some a)))) : Calls Tryd.prog 14 #[.iface 95 (.pointer (some a))] w fun e w' => e = .returned (.int .i64 1) ∧ w' = w := by
  go_enter Tryd.func14, Tryd.ntmps14
  go_wp2_with fail
  refine (isE_same a w).mono ?_
  rintro e w1 ⟨rfl, rfl⟩
  go_wp2_with fail
  go_ret
  exact ⟨rfl, rfl⟩

theorem fault_bad (p a : Addr) (w : World) (hg : w.cell? ⟨0, 0, none⟩ = some (.iface 95 (.pointer (some a)))) : Calls Tryd.prog 14 #[.iface 69 (.pointer (some p))] w fun e w' => e = .returned (.int .i64 2) ∧ w' = w := by
  go_enter Tryd.func14, Tryd.ntmps14
  go_wp2_with fail
  refine (isE_type p a w).mono ?_
  rintro e w1 ⟨rfl, rfl⟩
  go_wp2_with fail
  go_ret
  exact ⟨rfl, rfl⟩

theorem fault_other (p a : Addr) (ca cb : Array Value) (ta tb : TypeId) (w : World) (hg : w.cell? ⟨0, 0, none⟩ = some (.iface 95 (.pointer (some a)))) (hne : p ≠ a) (ha : w.heap[p.block]? = some (.cells ca ta (0, 0))) (hb : w.heap[a.block]? = some (.cells cb tb (0, 0))) :
    Calls Tryd.prog 14 #[.iface 95 (.pointer (some p))] w fun e w' => e = .returned (.int .i64 2) ∧ w' = w := by
  go_enter Tryd.func14, Tryd.ntmps14
  go_wp2_with fail
  refine (isE_other p a ca cb ta tb w hne ha hb).mono ?_
  rintro e w1 ⟨rfl, rfl⟩
  go_wp2_with fail
  go_ret
  exact ⟨rfl, rfl⟩

end Go.Proofs.YtifemmjblamfkaaDoor
