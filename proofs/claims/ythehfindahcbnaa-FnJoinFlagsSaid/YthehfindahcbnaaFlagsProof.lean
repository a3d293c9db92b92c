/-
  The statement of 'FnJoinFlags', proved: whatever the flags, the law returns true and its arguments read as before.
  No condition.
-/
import Derived.Test.YthehfindahcbnaaRows
import Derived.Test.YthehfindahcbnaaFlags
import Derived.WalkKit
import Derived.ProofKit
import Derived.OpenShut
import Derived.ShutString
import Derived.Lib.SmallJoins
namespace Go.Proofs.Ythehfindahcbnaa.fnJoinFlagsFinal
open Go.ChangeShapes Go.WideShapes Go.ChangeAt Go.RowKit Go.Joins
open Go.ChangeMaps (open_string shut_string)
set_option linter.unusedVariables false

theorem own : ownKnob Try.prog.godebug = none := by kernel_rfl
theorem cells : Try.prog.cellsOf 24 = 2 := by kernel_rfl

set_option maxRecDepth 100000 in
theorem lifted (os : Os) (started : os.Started) (H : Type) (enc : TypeId × Value → H) :
    ReturnsInHanded {} Try.checked os 3 .any (Rows.fnJoinFlagsSpec.pre6 enc Try.prog Try.f3 Rows.fnJoinFlagsRow.domain false) (Rows.fnJoinFlagsSpec.post enc Try.prog Try.f3 false true false false) := by
  refine returnsInHanded_of_change (C := Try.checked) own started (by kernel_rfl) Try.func3
    (ChangeSpec.witness6 (enc := enc) (C := Try.checked) false ⟨#[], #[.agg #[.int .u64 0, .int .u64 0], .agg #[.int .u64 0, .int .u64 0]], []⟩ 8 (by kernel_rfl) (by kernel_rfl) (by kernel_rfl) (by kernel_rfl)) ?_
  intro W base args ds gs before hval0 hW hcnd _
  have hval : ∀ (j : Nat) t v, Try.f3.params[j]? = some t → args[j]? = some v → Value.okWide Try.prog W .any base t v := hval0
  have hW' := hW
  obtain ⟨p, q, hA0, hV, rfl, hfz, hnd⟩ := hW
  have hA : DataW.TrodAll enc Try.prog W 0 (fun _ => true) true Try.f3.params.toList args.toList ds p := hA0
  rw [Try.params3] at hA hval
  obtain ⟨v0, vs0, d0, ds0, p0, q0, hargs, rfl, rfl, h0, r0⟩ := trodAll_cons hA
  obtain ⟨v1, vs1, d1, ds1, p1, q1, rfl, rfl, rfl, h1, r1⟩ := trodAll_cons r0
  obtain ⟨rfl, rfl, rfl⟩ := trodAll_nil r1
  obtain rfl : args = #[v0, v1] := by cases args; simp_all
  obtain ⟨rfl, rfl⟩ := trodVars_none hV
  obtain ⟨c0, c1, y0, y1, m, rfl, rfl, rfl, hy0, hy1⟩ := open_agg2 Try.underlying24 (by kernel_rfl) cells (hval 0 24 v0 rfl rfl) h0
  obtain ⟨a0, e0, rfl, wa0⟩ := DataW.trod_int Try.underlying22 hy0
  obtain ⟨a1, e1, rfl, wa1⟩ := DataW.trod_int Try.underlying22 hy1
  simp at e0 e1
  subst e0 e1
  obtain ⟨c2, c3, y2, y3, m2, rfl, rfl, rfl, hy2, hy3⟩ := open_agg2 Try.underlying24 (by kernel_rfl) cells (hval 1 24 v1 rfl rfl) h1
  obtain ⟨a2, e2, rfl, wa2⟩ := DataW.trod_int Try.underlying22 hy2
  obtain ⟨a3, e3, rfl, wa3⟩ := DataW.trod_int Try.underlying22 hy3
  simp at e2 e3
  subst e2 e3
  clear hA0 hval0
  simp only [List.append_nil] at hW'
  have reads : ∀ (a b : Int), (Lit.int .u64 a).wf = true → (Lit.int .u64 b).wf = true → ∀ (W' : World) (sp : Nat → Bool), DataW.Trod enc Try.prog W' 0 sp true 24 (.agg #[.int .u64 a, .int .u64 b]) (.agg [.lit (.int .u64 a), .lit (.int .u64 b)]) [] := fun a b ha hb W' sp =>
    shut_agg2 (y0 := (.lit (.int .u64 a), [])) (y1 := (.lit (.int .u64 b), [])) Try.underlying24 (by kernel_rfl) cells ⟨1, by simp [DataW.trod, Try.underlying22, ha]⟩ ⟨1, by simp [DataW.trod, Try.underlying22, hb]⟩
  refine (Flags.walk a0 a1 a2 a3 W).mono fun e W' ⟨he, hg⟩ => ?_
  subst he
  exact ⟨_, rfl, _, _, _, [], _, [], hW', (trodAll_cons_mk (shut_bool Try.underlying4 _) trodAll_mk0), (trodAll_cons_mk (reads a0 a1 wa0 wa1 _ _) (trodAll_cons_mk (reads a2 a3 wa2 wa3 _ _) trodAll_mk0)), rfl, hg.frame _, fun h => by cases h⟩

theorem over : Rows.fnJoinFlagsRow.holds Try.pinned (OpenSpec.ofChange Rows.fnJoinFlagsSpec) :=
  OpenClaim.holds_of_wide 3 Try.f3 rfl rfl rfl rfl rfl rfl rfl ⟨rfl, rfl, rfl, rfl, rfl⟩ rfl rfl rfl rfl rfl (by kernel_rfl) Try.func3 (by kernel_rfl)
    (of_decide_eq_true (by kernel_rfl)) (by unfold Func.isWrapper; first | (rw [if_pos (by decide +kernel)]; kernel_rfl) | (rw [if_neg (by decide +kernel)]; exact ⟨rfl, rfl⟩))
    (fun os started H enc _ => lifted os started H enc)

theorem proved : Rows.FnJoinFlagsSaid :=
  over
#print axioms proved
end Go.Proofs.Ythehfindahcbnaa.fnJoinFlagsFinal
