/-
  The statement of 'FnOldIndent' and its card, proved: whatever the input, the law returns true and its arguments read as before.
  No condition.
-/
import Derived.Test.YtlgmdcaoogiooaaGreatDoorCards
import Derived.Test.YtlgmdcaoogiooaaGreatDoorTie
import Derived.Test.YtlgmdcaoogiooaaGreatDoorIndLaw
import Derived.WalkKit
import Derived.ProofKit
import Derived.OpenShut
import Derived.ShutString
import Derived.Deep.DeepHandedRow
import Derived.Lib.LaidU8T
import Derived.OpenVars
import Derived.DataShut
namespace Go.Proofs.YtlgmdcaoogiooaaGreatDoor.fnOldIndentFinal
open Go.ChangeShapes Go.WideShapes Go.ChangeAt Go.RowKit
open Go.ChangeMaps (open_string shut_string)

theorem own : ownKnob Tryz.prog.godebug = none := by kernel_rfl


abbrev text2 : ByteArray := { data := #[98, 121, 116, 101, 115, 46, 66, 117, 102, 102, 101, 114, 58, 32, 116, 111, 111, 32, 108, 97, 114, 103, 101] }
noncomputable def low : Nat := (World.holding Tryz.prog default ⟨#[], #[], []⟩).heap.size
def tabI (k : Nat) : Obj → Obj
  | .cells _ t frozen => .cells #[.iface 156 (.pointer (some ⟨k, 0, none⟩))] t frozen
  | o => o

/-- A world for the witness. -/
noncomputable def laidWorld (os : Os) : World :=
  let w0 := World.holding Tryz.prog os ⟨#[.cells #[.string text2] 171], #[], []⟩
  { w0 with heap := w0.heap.modify 0 (tabI low) }
theorem laid_met (os : Os) : laidMet Tryz.prog Rows.fnOldIndentRow.laid ((laidWorld os).forCall (fun _ _ => 0) ⟨#[], #[.string ByteArray.empty, .string ByteArray.empty, .string ByteArray.empty, .string ByteArray.empty], []⟩).memory :=
  laidMet_of_run' 8 (by kernel_rfl) (by kernel_rfl)
theorem reads (os : Os) {H : Type} (enc : TypeId × Value → H) : ∃ x, DataW.whole enc Tryz.prog ((laidWorld os).forCall (fun _ _ => 0) ⟨#[], #[.string ByteArray.empty, .string ByteArray.empty, .string ByteArray.empty, .string ByteArray.empty], []⟩).memory Tryz.f3.params.toList Rows.fnOldIndentSpec.vars false #[Value.string ByteArray.empty, Value.string ByteArray.empty, Value.string ByteArray.empty, Value.string ByteArray.empty].toList 8 = some x := by
  have h : (DataW.whole enc Tryz.prog ((laidWorld os).forCall (fun _ _ => 0) ⟨#[], #[.string ByteArray.empty, .string ByteArray.empty, .string ByteArray.empty, .string ByteArray.empty], []⟩).memory Tryz.f3.params.toList Rows.fnOldIndentSpec.vars false #[Value.string ByteArray.empty, Value.string ByteArray.empty, Value.string ByteArray.empty, Value.string ByteArray.empty].toList 8).isSome = true := by kernel_rfl
  exact Option.isSome_iff_exists.1 h

theorem laidOut : laidOutB Tryz.prog = true := by kernel_rfl
theorem rowed : varsRowed Tryz.prog Rows.fnOldIndentSpec.vars = true := by kernel_rfl

set_option maxRecDepth 100000 in
theorem lifted (os : Os) (started : os.Started) (H : Type) (enc : TypeId × Value → H) (F : Stop.Interp) :
    ReturnsInHanded {} Tryz.checked os 3 .any ((OpenSpec.ofChange Rows.fnOldIndentSpec).preRow enc Tryz.prog Tryz.f3 Rows.fnOldIndentRow.domain false Rows.fnOldIndentRow.laid) (((OpenSpec.ofChange Rows.fnOldIndentSpec).at F).post enc Tryz.prog Tryz.f3 false true false false) := by
  obtain ⟨x, hx⟩ := reads os enc
  refine returnsInHanded_of_row (C := Tryz.checked) (s := OpenSpec.ofChange Rows.fnOldIndentSpec) own started (by kernel_rfl) Tryz.func3
    (witness_row_at (enc := enc) (C := Tryz.checked) false (laidWorld os) #[.string ByteArray.empty, .string ByteArray.empty, .string ByteArray.empty, .string ByteArray.empty] rfl (by kernel_rfl) (by kernel_rfl) (by kernel_rfl)
      (OpenSpec.preRow_of_cond 8 hx rfl (fun k hk => by cases hk) (by kernel_rfl) (laid_met os))) ?_
  intro W base args ds gs before hval hW _ _ _ hL _ _
  have hW' := hW
  obtain ⟨p, q, hA0, hV, rfl, hfz, hnd⟩ := hW
  have hA : DataW.TrodAll enc Tryz.prog W 0 (fun _ => true) true Tryz.f3.params.toList args.toList ds p := hA0
  rw [Tryz.params3] at hA hval
  obtain ⟨v0, vs0, d0, ds0, p0, q0, hargs, rfl, rfl, h0, r0⟩ := trodAll_cons hA
  obtain ⟨v1, vs1, d1, ds1, p1, q1, rfl, rfl, rfl, h1, r1⟩ := trodAll_cons r0
  obtain ⟨v2, vs2, d2, ds2, p2, q2, rfl, rfl, rfl, h2, r2⟩ := trodAll_cons r1
  obtain ⟨v3, vs3, d3, ds3, p3, q3, rfl, rfl, rfl, h3, r3⟩ := trodAll_cons r2
  obtain ⟨rfl, rfl, rfl⟩ := trodAll_nil r3
  obtain rfl : args = #[v0, v1, v2, v3] := by cases args; simp_all
  obtain ⟨a0, rfl, rfl, rfl, w0⟩ := open_string Tryz.underlying9 (hval 0 9 v0 rfl rfl) h0
  obtain ⟨a1, rfl, rfl, rfl, w1⟩ := open_string Tryz.underlying9 (hval 1 9 v1 rfl rfl) h1
  obtain ⟨a2, rfl, rfl, rfl, w2⟩ := open_string Tryz.underlying9 (hval 2 9 v2 rfl rfl) h2
  obtain ⟨a3, rfl, rfl, rfl, w3⟩ := open_string Tryz.underlying9 (hval 3 9 v3 rfl rfl) h3
  obtain ⟨rfl, rfl⟩ := trodVars_none hV
  clear hA0
  simp only [List.append_nil] at hW'
  refine (IndLaw.walk a0 a1 a2 a3 w0 w1 w2 w3 W).mono fun e W' ⟨he, hg⟩ => ?_
  subst he
  exact ⟨_, rfl, _, _, _, [], _, _, hW', (trodAll_cons_mk (shut_bool Tryz.underlying4 _) trodAll_mk0), (trodAll_cons_mk (shut_string Tryz.underlying9 w0) (trodAll_cons_mk (shut_string Tryz.underlying9 w1) (trodAll_cons_mk (shut_string Tryz.underlying9 w2) (trodAll_cons_mk (shut_string Tryz.underlying9 w3) trodAll_mk0)))), hg.trodVars laidOut rowed hV, hg.frame _, fun h => by cases h⟩

theorem said : Rows.FnOldIndentSaid :=
  OpenClaim.holds_of_cond 3 Tryz.f3 rfl rfl rfl rfl rfl rfl rfl ⟨rfl, rfl, rfl, rfl, rfl⟩ rfl rfl rfl rfl rfl (by kernel_rfl) Tryz.func3 (by kernel_rfl)
    (of_decide_eq_true (by kernel_rfl)) (by unfold Func.isWrapper; first | (rw [if_pos (by decide +kernel)]; kernel_rfl) | (rw [if_neg (by decide +kernel)]; exact ⟨rfl, rfl⟩))
    (fun os started H enc _ F => by rw [OpenClaim.pre_eq_preRow]; exact lifted os started H enc F)

theorem plain (f : FuncId) (fn : Func) (hf : Tryz.pinned.checked.prog.funcNamed "loop.example/pub-g01450/laws.FnOldIndent" = some f) (hfn : Tryz.pinned.checked.prog.funcs[f]? = some fn) :
    true = Tryz.pinned.checked.prog.looks [] ∧ ∀ (j : Nat) t, fn.params[j]? = some t → Tryz.pinned.checked.prog.wantsStandIn t = false := by
  obtain rfl : f = 3 := Option.some.inj ((show Tryz.prog.funcNamed "loop.example/pub-g01450/laws.FnOldIndent" = some 3 by kernel_rfl).symm.trans hf) |>.symm
  obtain rfl : fn = Tryz.f3 := (Option.some.inj (Tryz.func3.symm.trans hfn)).symm
  refine ⟨by kernel_rfl, fun j t ht => ?_⟩
  rw [Tryz.params3] at ht
  have ht2 : t = 9 := by simpa using Array.mem_of_getElem? ht
  subst ht2
  exact (show Tryz.prog.wantsStandIn 9 = false by kernel_rfl)

/-- The card. -/
theorem card : Rows.FnOldIndentCardSaid :=
  Claim7.holds_tied_plain_at .later [] _ _ _ _ said (fun _ h => by cases h) (by kernel_rfl) (fun _ h => by cases h) fnOldIndent_row_tie rfl ⟨rfl, rfl⟩ (by kernel_rfl) rfl plain (by kernel_rfl)
#print axioms card
end Go.Proofs.YtlgmdcaoogiooaaGreatDoor.fnOldIndentFinal
