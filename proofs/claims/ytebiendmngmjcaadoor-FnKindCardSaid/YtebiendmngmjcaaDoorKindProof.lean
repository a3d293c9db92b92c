/-
  The statement of 'FnKind' and its card, proved: whatever the input, the law returns true and its argument and the listed variables read as before.
  No condition.
-/
import Derived.Test.YtebiendmngmjcaaDoorCards
import Derived.Test.YtebiendmngmjcaaDoorTie
import Derived.Test.YtebiendmngmjcaaDoorKindLaw
import Derived.WalkKit
import Derived.ProofKit
import Derived.OpenShut
import Derived.ShutString
import Derived.Deep.DeepHandedRow
import Derived.Lib.LaidU8T
import Derived.OpenVars
import Derived.DataShut
namespace Go.Proofs.YtebiendmngmjcaaDoor.fnKindFinal
open Go.ChangeShapes Go.WideShapes Go.ChangeAt Go.RowKit
open Go.ChangeMaps (open_string shut_string)

theorem own : ownKnob Tryd.prog.godebug = none := by kernel_rfl

theorem cells5 : Tryd.prog.cellsOf 41 = 1 := by kernel_rfl

def partsOf : DataW Unit → List (DataW Unit)
  | .agg ds => ds
  | _ => []
def numOf : Option (DataW Unit) → Nat
  | some (.lit (.int _ x)) => x.toNat
  | _ => 0

/-- What the table of kinds holds. -/
def tabF (c : Nat) : Nat := numOf (partsOf Rows.laid_loop_example_pub_g01450_pub_jsontext_normKind)[c]?

theorem tabF_all : ∀ c : Fin 256, tabF c.val = normK c.val := by decide +kernel

theorem kindTab {W : World} (hL : laidMetH Tryd.prog Rows.fnKindRow.laid W) : KindTab W := by
  intro c hc
  have h := Lib.laidMet.reads hL (.head _)
  obtain ⟨g', t, cs, fuel, p, hg', hty', hvar, hd⟩ := h
  obtain rfl := Option.some.inj ((show Tryd.prog.globalNamed "loop.example/pub-g01450/pub/jsontext.normKind" = some 0 by kernel_rfl).symm.trans hg')
  obtain rfl := Option.some.inj ((show (Tryd.prog.globals[0]?).map (·.type) = some 53 by kernel_rfl).symm.trans hty')
  have hd0 : Rows.laid_loop_example_pub_g01450_pub_jsontext_normKind = DataW.agg (partsOf Rows.laid_loop_example_pub_g01450_pub_jsontext_normKind) := rfl
  rw [hd0] at hd
  obtain ⟨fuel', d, q, hdc, he⟩ := Lib.array_elem Tryd.underlying53 hd c hc
  rw [cells5] at he
  obtain ⟨n, hb, hx, hwf⟩ := DataW.trod_int Tryd.underlying41 he
  have hdn : d = .lit (.int .u8 n) := congrArg Prod.fst hx
  have hn0 : 0 ≤ n := by
    exact ((Lit.wf_int_iff _ _).1 hwf).1
  have hf : ((tabF c : Nat) : Int) = n := by
    unfold tabF
    rw [hdc, hdn]
    show ((n.toNat : Nat) : Int) = n
    omega
  rw [World.var?_cell hg' hvar c, ← tabF_all ⟨c, hc⟩, hf]
  have := congrArg (·[0]?) hb
  rw [← Array.getElem?_toList]
  simpa [List.getElem?_take, List.getElem?_drop] using this

/-- The variable, laid. -/
def valOf : DataW Unit → Value
  | .lit (.int q x) => .int q x
  | _ => .bool false
def tabK : Obj → Obj
  | .cells _ t frozen => .cells ((partsOf Rows.laid_loop_example_pub_g01450_pub_jsontext_normKind).map valOf).toArray t frozen
  | o => o

/-- A world for the witness. -/
noncomputable def laidWorld (os : Os) : World :=
  { World.holding Tryd.prog os ⟨#[], #[], []⟩ with heap := (World.holding Tryd.prog os ⟨#[], #[], []⟩).heap.modify 0 tabK }
theorem laid_met (os : Os) : laidMet Tryd.prog Rows.fnKindRow.laid ((laidWorld os).forCall (fun _ _ => 0) ⟨#[], #[.string ByteArray.empty], []⟩).memory :=
  laidMet_of_run' 8 (by kernel_rfl) (by kernel_rfl)
theorem reads (os : Os) {H : Type} (enc : TypeId × Value → H) : ∃ x, DataW.whole enc Tryd.prog ((laidWorld os).forCall (fun _ _ => 0) ⟨#[], #[.string ByteArray.empty], []⟩).memory Tryd.f3.params.toList Rows.fnKindSpec.vars false #[Value.string ByteArray.empty].toList 8 = some x := by
  have h : (DataW.whole enc Tryd.prog ((laidWorld os).forCall (fun _ _ => 0) ⟨#[], #[.string ByteArray.empty], []⟩).memory Tryd.f3.params.toList Rows.fnKindSpec.vars false #[Value.string ByteArray.empty].toList 8).isSome = true := by kernel_rfl
  exact Option.isSome_iff_exists.1 h

theorem laidOut : laidOutB Tryd.prog = true := by kernel_rfl
theorem rowed : varsRowed Tryd.prog Rows.fnKindSpec.vars = true := by kernel_rfl

set_option maxRecDepth 100000 in
theorem lifted (os : Os) (started : os.Started) (H : Type) (enc : TypeId × Value → H) (F : Stop.Interp) :
    ReturnsInHanded {} Tryd.checked os 3 .any ((OpenSpec.ofChange Rows.fnKindSpec).preRow enc Tryd.prog Tryd.f3 Rows.fnKindRow.domain false Rows.fnKindRow.laid) (((OpenSpec.ofChange Rows.fnKindSpec).at F).post enc Tryd.prog Tryd.f3 false true false false) := by
  obtain ⟨x, hx⟩ := reads os enc
  refine returnsInHanded_of_row (C := Tryd.checked) (s := OpenSpec.ofChange Rows.fnKindSpec) own started (by kernel_rfl) Tryd.func3
    (witness_row_at (enc := enc) (C := Tryd.checked) false (laidWorld os) #[.string ByteArray.empty] rfl (by kernel_rfl) (by kernel_rfl) (by kernel_rfl)
      (OpenSpec.preRow_of_cond 8 hx rfl (fun k hk => by cases hk) (by kernel_rfl) (laid_met os))) ?_
  intro W base args ds gs before hval hW _ _ _ hL _ _
  have hT := kindTab hL
  have hW' := hW
  obtain ⟨p, q, hA0, hV, rfl, hfz, hnd⟩ := hW
  have hA : DataW.TrodAll enc Tryd.prog W 0 (fun _ => true) true Tryd.f3.params.toList args.toList ds p := hA0
  rw [Tryd.params3] at hA hval
  obtain ⟨v0, vs0, d0, ds0, p0, q0, hargs, rfl, rfl, h0, r0⟩ := trodAll_cons hA
  obtain ⟨rfl, rfl, rfl⟩ := trodAll_nil r0
  obtain rfl : args = #[v0] := by cases args; simp_all
  obtain ⟨a0, rfl, rfl, rfl, w0⟩ := open_string Tryd.underlying9 (hval 0 9 v0 rfl rfl) h0
  have hgs : ∃ g1, gs = [g1] := by
    obtain ⟨_, _, _, _, e0, _, rfl, _⟩ := trodVars_one hV
    exact ⟨e0, rfl⟩
  obtain ⟨g1, rfl⟩ := hgs
  clear hA0
  simp only [List.append_nil] at hW'
  refine (KindLaw.walk a0 w0 W hT).mono fun e W' ⟨he, hg⟩ => ?_
  subst he
  exact ⟨_, rfl, _, _, _, [], _, _, hW', (trodAll_cons_mk (shut_bool Tryd.underlying4 _) trodAll_mk0), (trodAll_cons_mk (shut_string Tryd.underlying9 w0) trodAll_mk0), hg.trodVars laidOut rowed hV, hg.frame _, fun h => by cases h⟩

theorem said : Rows.FnKindSaid :=
  OpenClaim.holds_of_cond 3 Tryd.f3 rfl rfl rfl rfl rfl rfl rfl ⟨rfl, rfl, rfl, rfl, rfl⟩ rfl rfl rfl rfl rfl (by kernel_rfl) Tryd.func3 (by kernel_rfl)
    (of_decide_eq_true (by kernel_rfl)) (by unfold Func.isWrapper; first | (rw [if_pos (by decide +kernel)]; kernel_rfl) | (rw [if_neg (by decide +kernel)]; exact ⟨rfl, rfl⟩))
    (fun os started H enc _ F => by rw [OpenClaim.pre_eq_preRow]; exact lifted os started H enc F)

theorem plain (f : FuncId) (fn : Func) (hf : Tryd.pinned.checked.prog.funcNamed "loop.example/pub-g01450/laws.FnKind" = some f) (hfn : Tryd.pinned.checked.prog.funcs[f]? = some fn) :
    false = Tryd.pinned.checked.prog.looks [] ∧ ∀ (j : Nat) t, fn.params[j]? = some t → Tryd.pinned.checked.prog.wantsStandIn t = false := by
  obtain rfl : f = 3 := Option.some.inj ((show Tryd.prog.funcNamed "loop.example/pub-g01450/laws.FnKind" = some 3 by kernel_rfl).symm.trans hf) |>.symm
  obtain rfl : fn = Tryd.f3 := (Option.some.inj (Tryd.func3.symm.trans hfn)).symm
  refine ⟨by kernel_rfl, fun j t ht => ?_⟩
  rw [Tryd.params3] at ht
  have ht2 : t = 9 := by simpa using Array.mem_of_getElem? ht
  subst ht2
  exact (show Tryd.prog.wantsStandIn 9 = false by kernel_rfl)

/-- The card. -/
theorem card : Rows.FnKindCardSaid :=
  Claim7.holds_tied_plain_at .later [] _ _ _ _ said (fun _ h => by cases h) (by kernel_rfl) (fun _ h => by cases h) fnKind_row_tie rfl ⟨rfl, rfl⟩ (by kernel_rfl) rfl plain (by kernel_rfl)
#print axioms card
end Go.Proofs.YtebiendmngmjcaaDoor.fnKindFinal
