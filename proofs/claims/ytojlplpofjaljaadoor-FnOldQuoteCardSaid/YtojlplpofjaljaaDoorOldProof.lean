/-
  The statement of 'FnOldQuote' and its card, proved.
-/
import Derived.Test.YtojlplpofjaljaaDoorCards
import Derived.Test.YtojlplpofjaljaaDoorTie
import Derived.Test.YtojlplpofjaljaaDoorOldLaw
import Derived.WalkKit
import Derived.ProofKit
import Derived.OpenShut
import Derived.ShutString
import Derived.Deep.DeepHandedRow
import Derived.Lib.LaidU8T
import Derived.OpenVars
namespace Go.Proofs.YtojlplpofjaljaaDoor.fnOldQuoteFinal
open Go.ChangeShapes Go.WideShapes Go.ChangeAt Go.RowKit
open Go.ChangeMaps (open_string shut_string)

theorem own : ownKnob Tryd.prog.godebug = none := by kernel_rfl

/-- The numbers of the two tables and their types. -/
def ren : Go.Shelf.Ren := { f := id, t := fun n => if n = 5 then 5 else if n = 119 then 48 else if n = 138 then 50 else 51, g := fun n => if n = 3 then 2 else 3 }

theorem dFirst : Rows.laid_unicode_utf8_first = Lib.firstData := by kernel_rfl
theorem dAccept : (Rows.laid_unicode_utf8_acceptRanges : DataW Unit) = Lib.acceptData := by kernel_rfl

theorem cells4 : Tryd.prog.cellsOf 4 = 1 := by kernel_rfl

def partsOf : DataW Unit → List (DataW Unit)
  | .agg ds => ds
  | _ => []
def boolOf : Option (DataW Unit) → Bool
  | some (.lit (.bool b)) => b
  | _ => false

/-- A table of 128 booleans, with its values. -/
theorem boolTab {W : World} {n : String} {g : Nat} {d : DataW Unit} (hd0 : d = .agg (partsOf d)) (hg : Tryd.prog.globalNamed n = some g) (hty : (Tryd.prog.globals[g]?).map (·.type) = some 41) (h : Lib.VarReads Tryd.prog W n d) :
    ∀ c, c < 128 → W.cell? ⟨g, c, none⟩ = some (.bool (boolOf (partsOf d)[c]?)) := by
  obtain ⟨g', t, cs, fuel, p, hg', hty', hvar, hd⟩ := h
  obtain rfl := Option.some.inj (hg.symm.trans hg')
  obtain rfl := Option.some.inj (hty.symm.trans hty')
  rw [hd0] at hd
  intro c hc
  obtain ⟨fuel', x, q, hdc, he⟩ := Lib.array_elem Tryd.underlying41 hd c hc
  rw [cells4] at he
  obtain ⟨b, hb, hx⟩ := DataW.trod_bool Tryd.underlying4 he
  have hxb : x = .lit (.bool b) := congrArg Prod.fst hx
  rw [World.var?_cell hg hvar c, hdc, hxb]
  have := congrArg (·[0]?) hb
  rw [← Array.getElem?_toList]
  simpa [boolOf, List.getElem?_take, List.getElem?_drop] using this

def hsF (c : Nat) : Bool := boolOf (partsOf Rows.laid_loop_example_pub_g01450_pub_jsonscan_htmlSafeSet)[c]?
def ssF (c : Nat) : Bool := boolOf (partsOf Rows.laid_loop_example_pub_g01450_pub_jsonscan_safeSet)[c]?

theorem hs_all : ∀ c : Fin 128, (hsF c.val = true ↔ (32 ≤ c.val ∧ c.val ≠ 34 ∧ c.val ≠ 92 ∧ c.val ≠ 38 ∧ c.val ≠ 60 ∧ c.val ≠ 62)) := by decide +kernel
theorem ss_all : ∀ c : Fin 128, (ssF c.val = true ↔ (32 ≤ c.val ∧ c.val ≠ 34 ∧ c.val ≠ 92)) := by decide +kernel

theorem safeTabs : SafeTabs hsF ssF := ⟨fun c hc => hs_all ⟨c, hc⟩, fun c hc => ss_all ⟨c, hc⟩⟩

theorem utf8Only {W : World} (hL : laidMetH Tryd.prog Rows.fnOldQuoteRow.laid W) : Lib.Utf8Tabs 2 3 W :=
  utf8Tabs_of_readsT (P := Tryd.prog) (ρ := ren) ⟨by kernel_rfl, by kernel_rfl, by kernel_rfl, by kernel_rfl⟩ ⟨by kernel_rfl, by kernel_rfl, by kernel_rfl, by kernel_rfl, by kernel_rfl, by kernel_rfl, by kernel_rfl⟩
    (by rw [← dFirst]; exact Lib.laidMet.reads hL (.tail _ (.tail _ (.tail _ (.head _))))) (by rw [← dAccept]; exact Lib.laidMet.reads hL (.head _))

theorem tabs {W : World} (hL : laidMetH Tryd.prog Rows.fnOldQuoteRow.laid W) (h4 : 4 ≤ W.heap.size) : Tabs hsF ssF W := by
  have hu := utf8Only hL
  have h1 := boolTab (d := Rows.laid_loop_example_pub_g01450_pub_jsonscan_safeSet) (g := 1) rfl (by kernel_rfl) (by kernel_rfl) (Lib.laidMet.reads hL (.tail _ (.head _)))
  have h2 := boolTab (d := Rows.laid_loop_example_pub_g01450_pub_jsonscan_htmlSafeSet) (g := 0) rfl (by kernel_rfl) (by kernel_rfl) (Lib.laidMet.reads hL (.tail _ (.tail _ (.head _))))
  exact ⟨h4, h2, h1, hu⟩

theorem four {W : World} (h : ∃ v, W.cell? ⟨3, 0, none⟩ = some v) : 4 ≤ W.heap.size := by
  obtain ⟨v, hv⟩ := h
  have := Go.block_lt_of_cell hv
  exact this

/-- The four tables, laid. -/
def valOf : DataW Unit → Value
  | .lit (.bool b) => .bool b
  | _ => .bool false
def valsOf : DataW Unit → List Value
  | .agg ds => ds.map valOf
  | _ => []
def tabH : Obj → Obj
  | .cells _ t frozen => .cells (valsOf Rows.laid_loop_example_pub_g01450_pub_jsonscan_htmlSafeSet).toArray t frozen
  | o => o
def tabS : Obj → Obj
  | .cells _ t frozen => .cells (valsOf Rows.laid_loop_example_pub_g01450_pub_jsonscan_safeSet).toArray t frozen
  | o => o
def tab0 : Obj → Obj
  | .cells _ t frozen => .cells (Lib.firstTab.map fun z => Value.int .u8 z).toArray t frozen
  | o => o
def tab1 : Obj → Obj
  | .cells _ t frozen => .cells ((List.range 16).flatMap fun i => [Value.int .u8 ((Lib.accLo i : Nat) : Int), Value.int .u8 ((Lib.accHi i : Nat) : Int)]).toArray t frozen
  | o => o

/-- A world for the witness. -/
noncomputable def laidWorld (os : Os) : World :=
  { World.holding Tryd.prog os ⟨#[], #[], []⟩ with heap := ((((World.holding Tryd.prog os ⟨#[], #[], []⟩).heap.modify 0 tabH).modify 1 tabS).modify 2 tab0).modify 3 tab1 }
theorem laid_met (os : Os) : laidMet Tryd.prog Rows.fnOldQuoteRow.laid ((laidWorld os).forCall (fun _ _ => 0) ⟨#[], #[.string ByteArray.empty, .string ByteArray.empty, .bool false], []⟩).memory :=
  laidMet_of_run' 8 (by kernel_rfl) (by kernel_rfl)
theorem reads (os : Os) {H : Type} (enc : TypeId × Value → H) : ∃ x, DataW.whole enc Tryd.prog ((laidWorld os).forCall (fun _ _ => 0) ⟨#[], #[.string ByteArray.empty, .string ByteArray.empty, .bool false], []⟩).memory Tryd.f3.params.toList Rows.fnOldQuoteSpec.vars false #[Value.string ByteArray.empty, Value.string ByteArray.empty, Value.bool false].toList 8 = some x := by
  have h : (DataW.whole enc Tryd.prog ((laidWorld os).forCall (fun _ _ => 0) ⟨#[], #[.string ByteArray.empty, .string ByteArray.empty, .bool false], []⟩).memory Tryd.f3.params.toList Rows.fnOldQuoteSpec.vars false #[Value.string ByteArray.empty, Value.string ByteArray.empty, Value.bool false].toList 8).isSome = true := by kernel_rfl
  exact Option.isSome_iff_exists.1 h

theorem laidOut : laidOutB Tryd.prog = true := by kernel_rfl
theorem rowed : varsRowed Tryd.prog Rows.fnOldQuoteSpec.vars = true := by kernel_rfl

set_option maxRecDepth 100000 in
theorem lifted (os : Os) (started : os.Started) (H : Type) (enc : TypeId × Value → H) (F : Stop.Interp) :
    ReturnsInHanded {} Tryd.checked os 3 .any ((OpenSpec.ofChange Rows.fnOldQuoteSpec).preRow enc Tryd.prog Tryd.f3 Rows.fnOldQuoteRow.domain false Rows.fnOldQuoteRow.laid) (((OpenSpec.ofChange Rows.fnOldQuoteSpec).at F).post enc Tryd.prog Tryd.f3 false true false false) := by
  obtain ⟨x, hx⟩ := reads os enc
  refine returnsInHanded_of_row (C := Tryd.checked) (s := OpenSpec.ofChange Rows.fnOldQuoteSpec) own started (by kernel_rfl) Tryd.func3
    (witness_row_at (enc := enc) (C := Tryd.checked) false (laidWorld os) #[.string ByteArray.empty, .string ByteArray.empty, .bool false] rfl (by kernel_rfl) (by kernel_rfl) (by kernel_rfl)
      (OpenSpec.preRow_of_cond 8 hx rfl (fun k hk => by cases hk) (by kernel_rfl) (laid_met os))) ?_
  intro W base args ds gs before hval hW _ _ _ hL _ _
  have hU : ∃ v, W.cell? ⟨3, 0, none⟩ = some v := by
    obtain ⟨h, _⟩ := (utf8Only hL).2 0 (by decide)
    exact ⟨_, h⟩
  have hT := tabs hL (four hU)
  have hW' := hW
  obtain ⟨p, q, hA0, hV, rfl, hfz, hnd⟩ := hW
  have hA : DataW.TrodAll enc Tryd.prog W 0 (fun _ => true) true Tryd.f3.params.toList args.toList ds p := hA0
  rw [Tryd.params3] at hA hval
  obtain ⟨v0, vs0, d0, ds0, p0, q0, hargs, rfl, rfl, h0, r0⟩ := trodAll_cons hA
  obtain ⟨v1, vs1, d1, ds1, p1, q1, rfl, rfl, rfl, h1, r1⟩ := trodAll_cons r0
  obtain ⟨v2, vs2, d2, ds2, p2, q2, rfl, rfl, rfl, h2, r2⟩ := trodAll_cons r1
  obtain ⟨rfl, rfl, rfl⟩ := trodAll_nil r2
  obtain rfl : args = #[v0, v1, v2] := by cases args; simp_all
  obtain ⟨a0, rfl, rfl, rfl, w0⟩ := open_string Tryd.underlying9 (hval 0 9 v0 rfl rfl) h0
  obtain ⟨a1, rfl, rfl, rfl, w1⟩ := open_string Tryd.underlying9 (hval 1 9 v1 rfl rfl) h1
  obtain ⟨a2, rfl, rfl, rfl⟩ := open_bool Tryd.underlying4 (hval 2 4 v2 rfl rfl) h2
  have hgs : ∃ g1 g2, gs = [g1, g2] := by
    obtain ⟨_, _, _, _, e0, _, _, _, _, _, e1, _, rfl, _⟩ := trodVars_two hV
    exact ⟨e0, e1, rfl⟩
  obtain ⟨g1, g2, rfl⟩ := hgs
  clear hA0
  simp only [List.append_nil] at hW'
  refine (OldQuote.walk hsF ssF a0 a1 a2 w0 w1 W hT safeTabs).mono fun e W' ⟨he, hg⟩ => ?_
  subst he
  exact ⟨_, rfl, _, _, _, [], _, _, hW', (trodAll_cons_mk (shut_bool Tryd.underlying4 _) trodAll_mk0), (trodAll_cons_mk (shut_string Tryd.underlying9 w0) (trodAll_cons_mk (shut_string Tryd.underlying9 w1) (trodAll_cons_mk (shut_bool Tryd.underlying4 _) trodAll_mk0))), hg.trodVars laidOut rowed hV, hg.frame _, fun h => by cases h⟩

theorem said : Rows.FnOldQuoteSaid :=
  OpenClaim.holds_of_cond 3 Tryd.f3 rfl rfl rfl rfl rfl rfl rfl ⟨rfl, rfl, rfl, rfl, rfl⟩ rfl rfl rfl rfl rfl (by kernel_rfl) Tryd.func3 (by kernel_rfl)
    (of_decide_eq_true (by kernel_rfl)) (by unfold Func.isWrapper; first | (rw [if_pos (by decide +kernel)]; kernel_rfl) | (rw [if_neg (by decide +kernel)]; exact ⟨rfl, rfl⟩))
    (fun os started H enc _ F => by rw [OpenClaim.pre_eq_preRow]; exact lifted os started H enc F)

theorem plain (f : FuncId) (fn : Func) (hf : Tryd.pinned.checked.prog.funcNamed "loop.example/pub-g01450/laws.FnOldQuote" = some f) (hfn : Tryd.pinned.checked.prog.funcs[f]? = some fn) :
    false = Tryd.pinned.checked.prog.looks [] ∧ ∀ (j : Nat) t, fn.params[j]? = some t → Tryd.pinned.checked.prog.wantsStandIn t = false := by
  obtain rfl : f = 3 := Option.some.inj ((show Tryd.prog.funcNamed "loop.example/pub-g01450/laws.FnOldQuote" = some 3 by kernel_rfl).symm.trans hf) |>.symm
  obtain rfl : fn = Tryd.f3 := (Option.some.inj (Tryd.func3.symm.trans hfn)).symm
  refine ⟨by kernel_rfl, fun j t ht => ?_⟩
  rw [Tryd.params3] at ht
  have ht2 : t = 9 ∨ t = 4 := by simpa using Array.mem_of_getElem? ht
  rcases ht2 with rfl | rfl
  · exact (show Tryd.prog.wantsStandIn 9 = false by kernel_rfl)
  · exact (show Tryd.prog.wantsStandIn 4 = false by kernel_rfl)

/-- The card. -/
theorem card : Rows.FnOldQuoteCardSaid :=
  Claim7.holds_tied_plain_at .later [] _ _ _ _ said (fun _ h => by cases h) (by kernel_rfl) (fun _ h => by cases h) fnOldQuote_row_tie rfl ⟨rfl, rfl⟩ (by kernel_rfl) rfl plain (by kernel_rfl)
#print axioms card
end Go.Proofs.YtojlplpofjaljaaDoor.fnOldQuoteFinal
