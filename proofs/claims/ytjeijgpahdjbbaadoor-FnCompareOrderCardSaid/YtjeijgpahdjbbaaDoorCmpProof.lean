/-
  The statement of 'FnCompareOrder' and its card, proved.
-/
import Derived.Test.YtjeijgpahdjbbaaDoorCards
import Derived.Test.YtjeijgpahdjbbaaDoorTie
import Derived.Test.YtjeijgpahdjbbaaDoorCmpLaw
import Derived.WalkKit
import Derived.ProofKit
import Derived.OpenShut
import Derived.ShutString
import Derived.Deep.DeepHandedRow
import Derived.Lib.LaidU8T
namespace Go.Proofs.YtjeijgpahdjbbaaDoor.fnCompareOrderFinal
open Go.ChangeShapes Go.WideShapes Go.ChangeAt Go.RowKit
open Go.ChangeMaps (open_string shut_string)

theorem own : ownKnob Tryd.prog.godebug = none := by kernel_rfl

/-- The numbers of the two tables and their types. -/
def ren : Go.Shelf.Ren := { f := id, t := fun n => if n = 5 then 5 else if n = 119 then 42 else if n = 138 then 44 else 45, g := fun n => if n = 3 then 0 else 1 }

theorem dFirst : Rows.laid_unicode_utf8_first = Lib.firstData := by kernel_rfl
theorem dAccept : (Rows.laid_unicode_utf8_acceptRanges : DataW Unit) = Lib.acceptData := by kernel_rfl

theorem tabs {W : World} (hL : laidMetH Tryd.prog Rows.fnCompareOrderRow.laid W) : Lib.Utf8Tabs 0 1 W :=
  utf8Tabs_of_readsT (P := Tryd.prog) (ρ := ren) ⟨by kernel_rfl, by kernel_rfl, by kernel_rfl, by kernel_rfl⟩ ⟨by kernel_rfl, by kernel_rfl, by kernel_rfl, by kernel_rfl, by kernel_rfl, by kernel_rfl, by kernel_rfl⟩
    (by rw [← dFirst]; exact Lib.laidMet.reads hL (.tail _ (.head _))) (by rw [← dAccept]; exact Lib.laidMet.reads hL (.head _))

/-- The two tables, laid. -/
def tab0 : Obj → Obj
  | .cells _ t frozen => .cells (Lib.firstTab.map fun z => Value.int .u8 z).toArray t frozen
  | o => o
def tab1 : Obj → Obj
  | .cells _ t frozen => .cells ((List.range 16).flatMap fun i => [Value.int .u8 ((Lib.accLo i : Nat) : Int), Value.int .u8 ((Lib.accHi i : Nat) : Int)]).toArray t frozen
  | o => o

/-- A world for the witness. -/
noncomputable def laidWorld (os : Os) : World :=
  { World.holding Tryd.prog os ⟨#[], #[], []⟩ with heap := ((World.holding Tryd.prog os ⟨#[], #[], []⟩).heap.modify 0 tab0).modify 1 tab1 }
theorem laid_met (os : Os) : laidMet Tryd.prog Rows.fnCompareOrderRow.laid ((laidWorld os).forCall (fun _ _ => 0) ⟨#[], #[.string ByteArray.empty, .string ByteArray.empty, .string ByteArray.empty], []⟩).memory :=
  laidMet_of_run' 8 (by kernel_rfl) (by kernel_rfl)
theorem reads (os : Os) {H : Type} (enc : TypeId × Value → H) : ∃ places, DataW.whole enc Tryd.prog ((laidWorld os).forCall (fun _ _ => 0) ⟨#[], #[.string ByteArray.empty, .string ByteArray.empty, .string ByteArray.empty], []⟩).memory Tryd.f3.params.toList Rows.fnCompareOrderSpec.vars false #[Value.string ByteArray.empty, Value.string ByteArray.empty, Value.string ByteArray.empty].toList 8 = some ([.lit (.string []), .lit (.string []), .lit (.string [])], [], places) :=
  ⟨[], by kernel_rfl⟩

set_option maxRecDepth 100000 in
theorem lifted (os : Os) (started : os.Started) (H : Type) (enc : TypeId × Value → H) (F : Stop.Interp) :
    ReturnsInHanded {} Tryd.checked os 3 .any ((OpenSpec.ofChange Rows.fnCompareOrderSpec).preRow enc Tryd.prog Tryd.f3 Rows.fnCompareOrderRow.domain false Rows.fnCompareOrderRow.laid) (((OpenSpec.ofChange Rows.fnCompareOrderSpec).at F).post enc Tryd.prog Tryd.f3 false true false false) := by
  obtain ⟨places, hx⟩ := reads os enc
  refine returnsInHanded_of_row (C := Tryd.checked) (s := OpenSpec.ofChange Rows.fnCompareOrderSpec) own started (by kernel_rfl) Tryd.func3
    (witness_row_at (enc := enc) (C := Tryd.checked) false (laidWorld os) #[.string ByteArray.empty, .string ByteArray.empty, .string ByteArray.empty] rfl (by kernel_rfl) (by kernel_rfl) (by kernel_rfl)
      (OpenSpec.preRow_of_cond 8 hx (by kernel_rfl) (fun k hk => by cases hk) (by kernel_rfl) (laid_met os))) ?_
  intro W base args ds gs before hval hW _ _ _ hL _ _
  have hT := tabs hL
  have hW' := hW
  obtain ⟨p, q, hA0, hV, rfl, hfz, hnd⟩ := hW
  have hA : DataW.TrodAll enc Tryd.prog W 0 (fun _ => true) true Tryd.f3.params.toList args.toList ds p := hA0
  rw [Tryd.params3] at hA hval
  obtain ⟨v0, vs0, d0, ds0, p0, q0, hargs, rfl, rfl, h0, r0⟩ := trodAll_cons hA
  obtain ⟨v1, vs1, d1, ds1, p1, q1, rfl, rfl, rfl, h1, r1⟩ := trodAll_cons r0
  obtain ⟨v2, vs2, d2, ds2, p2, q2, rfl, rfl, rfl, h2, r2⟩ := trodAll_cons r1
  obtain ⟨rfl, rfl, rfl⟩ := trodAll_nil r2
  obtain rfl : args = #[v0, v1, v2] := by cases args; simp_all
  obtain ⟨rfl, rfl⟩ := trodVars_none hV
  obtain ⟨a0, rfl, rfl, rfl, w0⟩ := open_string Tryd.underlying9 (hval 0 9 v0 rfl rfl) h0
  obtain ⟨a1, rfl, rfl, rfl, w1⟩ := open_string Tryd.underlying9 (hval 1 9 v1 rfl rfl) h1
  obtain ⟨a2, rfl, rfl, rfl, w2⟩ := open_string Tryd.underlying9 (hval 2 9 v2 rfl rfl) h2
  clear hA0
  simp only [List.append_nil] at hW'
  refine (CompareOrder.walk a0 a1 a2 w0 w1 w2 W hT).mono fun e W' ⟨he, hg⟩ => ?_
  subst he
  exact ⟨_, rfl, _, _, _, [], _, [], hW', (trodAll_cons_mk (shut_bool Tryd.underlying4 _) trodAll_mk0), (trodAll_cons_mk (shut_string Tryd.underlying9 w0) (trodAll_cons_mk (shut_string Tryd.underlying9 w1) (trodAll_cons_mk (shut_string Tryd.underlying9 w2) trodAll_mk0))), rfl, hg.frame _, fun h => by cases h⟩

theorem said : Rows.FnCompareOrderSaid :=
  OpenClaim.holds_of_cond 3 Tryd.f3 rfl rfl rfl rfl rfl rfl rfl ⟨rfl, rfl, rfl, rfl, rfl⟩ rfl rfl rfl rfl rfl (by kernel_rfl) Tryd.func3 (by kernel_rfl)
    (of_decide_eq_true (by kernel_rfl)) (by unfold Func.isWrapper; first | (rw [if_pos (by decide +kernel)]; kernel_rfl) | (rw [if_neg (by decide +kernel)]; exact ⟨rfl, rfl⟩))
    (fun os started H enc _ F => by rw [OpenClaim.pre_eq_preRow]; exact lifted os started H enc F)

theorem plain (f : FuncId) (fn : Func) (hf : Tryd.pinned.checked.prog.funcNamed "loop.example/pub-g01450/laws.FnCompareOrder" = some f) (hfn : Tryd.pinned.checked.prog.funcs[f]? = some fn) :
    false = Tryd.pinned.checked.prog.looks [] ∧ ∀ (j : Nat) t, fn.params[j]? = some t → Tryd.pinned.checked.prog.wantsStandIn t = false := by
  obtain rfl : f = 3 := Option.some.inj ((show Tryd.prog.funcNamed "loop.example/pub-g01450/laws.FnCompareOrder" = some 3 by kernel_rfl).symm.trans hf) |>.symm
  obtain rfl : fn = Tryd.f3 := (Option.some.inj (Tryd.func3.symm.trans hfn)).symm
  refine ⟨by kernel_rfl, fun j t ht => ?_⟩
  rw [Tryd.params3] at ht
  obtain rfl : t = 9 := by simpa using Array.mem_of_getElem? ht
  exact (show Tryd.prog.wantsStandIn 9 = false by kernel_rfl)

/-- The card. -/
theorem card : Rows.FnCompareOrderCardSaid :=
  Claim7.holds_tied_plain_at .later [] _ _ _ _ said (fun _ h => by cases h) (by kernel_rfl) (fun _ h => by cases h) fnCompareOrder_row_tie rfl ⟨rfl, rfl⟩ (by kernel_rfl) rfl plain (by kernel_rfl)
#print axioms card
end Go.Proofs.YtjeijgpahdjbbaaDoor.fnCompareOrderFinal
