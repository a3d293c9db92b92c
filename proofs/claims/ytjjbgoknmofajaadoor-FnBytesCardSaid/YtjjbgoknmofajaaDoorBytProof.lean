/-
  The statement of 'FnBytes' and its card, proved: whatever the input, the law returns true and its arguments and the listed variables read as before.
  No condition.
-/
import Derived.Test.YtjjbgoknmofajaaDoorCards
import Derived.Test.YtjjbgoknmofajaaDoorTie
import Derived.Test.YtjjbgoknmofajaaDoorBytLaw
import Derived.WalkKit
import Derived.ProofKit
import Derived.OpenShut
import Derived.ShutString
import Derived.Deep.DeepHandedRow
import Derived.Lib.LaidU8T
import Derived.OpenVars
import Derived.DataShut
namespace Go.Proofs.YtjjbgoknmofajaaDoor.fnBytesFinal
open Go.ChangeShapes Go.WideShapes Go.ChangeAt Go.RowKit
open Go.ChangeMaps (open_string shut_string)

theorem own : ownKnob Tryd.prog.godebug = none := by kernel_rfl

theorem cells5 : Tryd.prog.cellsOf 5 = 1 := by kernel_rfl

def partsOf : DataW Unit → List (DataW Unit)
  | .agg ds => ds
  | _ => []
def numOf : Option (DataW Unit) → Nat
  | some (.lit (.int _ x)) => x.toNat
  | _ => 0

/-- What the table of ASCII holds. -/
def escF (c : Nat) : Nat := numOf (partsOf Rows.laid_loop_example_pub_g01450_pub_jsontext_internal_jsonwire_escapeASCII)[c]?

theorem escF_all : ∀ c : Fin 128, (escF c.val = 0 ↔ (32 ≤ c.val ∧ c.val ≠ 34 ∧ c.val ≠ 92 ∧ c.val ≠ 60 ∧ c.val ≠ 62 ∧ c.val ≠ 38)) := by decide +kernel

theorem escAll : EscAll escF := fun c hc => escF_all ⟨c, hc⟩

theorem escF_free : ∀ c : Fin 128, 32 ≤ c.val → c.val ≤ 126 → c.val ≠ 34 → c.val ≠ 92 → escF c.val = 0 ∨ c.val = 60 ∨ c.val = 62 ∨ c.val = 38 := by decide +kernel

theorem escTab {W : World} (hL : laidMetH Tryd.prog Rows.fnBytesRow.laid W) : EscTab escF W := by
  refine ⟨fun c hc => ?_, fun c h1 h2 h3 h4 => escF_free ⟨c, by omega⟩ h1 h2 h3 h4⟩
  have h := Lib.laidMet.reads hL (.tail _ (.tail _ (.head _)))
  obtain ⟨g', t, cs, fuel, p, hg', hty', hvar, hd⟩ := h
  obtain rfl := Option.some.inj ((show Tryd.prog.globalNamed "loop.example/pub-g01450/pub/jsontext_internal_jsonwire.escapeASCII" = some 0 by kernel_rfl).symm.trans hg')
  obtain rfl := Option.some.inj ((show (Tryd.prog.globals[0]?).map (·.type) = some 64 by kernel_rfl).symm.trans hty')
  have hd0 : Rows.laid_loop_example_pub_g01450_pub_jsontext_internal_jsonwire_escapeASCII = DataW.agg (partsOf Rows.laid_loop_example_pub_g01450_pub_jsontext_internal_jsonwire_escapeASCII) := rfl
  rw [hd0] at hd
  obtain ⟨fuel', d, q, hdc, he⟩ := Lib.array_elem Tryd.underlying64 hd c hc
  rw [cells5] at he
  obtain ⟨n, hb, hx, hwf⟩ := DataW.trod_int Tryd.underlying5 he
  have hdn : d = .lit (.int .u8 n) := congrArg Prod.fst hx
  have hn0 : 0 ≤ n := by
    exact ((Lit.wf_int_iff _ _).1 hwf).1
  have hf : ((escF c : Nat) : Int) = n := by
    unfold escF
    rw [hdc, hdn]
    show ((n.toNat : Nat) : Int) = n
    omega
  rw [World.var?_cell hg' hvar c, hf]
  have := congrArg (·[0]?) hb
  rw [← Array.getElem?_toList]
  simpa [List.getElem?_take, List.getElem?_drop] using this

/-- The numbers of the two tables and their types. -/
def ren : Go.Shelf.Ren := { f := id, t := fun n => if n = 5 then 5 else if n = 119 then 108 else if n = 138 then 110 else 111, g := fun n => if n = 3 then 3 else 4 }

theorem dFirst : Rows.laid_unicode_utf8_first = Lib.firstData := by kernel_rfl
theorem dAccept : (Rows.laid_unicode_utf8_acceptRanges : DataW Unit) = Lib.acceptData := by kernel_rfl

theorem utf8Only {W : World} (hL : laidMetH Tryd.prog Rows.fnBytesRow.laid W) : Lib.Utf8Tabs 3 4 W :=
  utf8Tabs_of_readsT (P := Tryd.prog) (ρ := ren) ⟨by kernel_rfl, by kernel_rfl, by kernel_rfl, by kernel_rfl⟩ ⟨by kernel_rfl, by kernel_rfl, by kernel_rfl, by kernel_rfl, by kernel_rfl, by kernel_rfl, by kernel_rfl⟩
    (by rw [← dFirst]; exact Lib.laidMet.reads hL (.tail _ (.tail _ (.tail _ (.tail _ (.head _)))))) (by rw [← dAccept]; exact Lib.laidMet.reads hL (.head _))

/-- What the sentinels' variables hold. -/
theorem errCell1 {W : World} (hL : laidMetH Tryd.prog Rows.fnBytesRow.laid W) : ∃ u x, W.cell? ⟨1, 0, none⟩ = some (.iface u x) := by
  obtain ⟨g', t, cs, fuel, p, hg', hty', hvar, hd⟩ := Lib.laidMet.reads hL (.tail _ (.tail _ (.tail _ (.head _))))
  obtain rfl := Option.some.inj ((show Tryd.prog.globalNamed "loop.example/pub-g01450/pub/jsontext_internal_jsonwire.ErrInvalidUTF8" = some 1 by kernel_rfl).symm.trans hg')
  obtain rfl := Option.some.inj ((show (Tryd.prog.globals[1]?).map (·.type) = some 47 by kernel_rfl).symm.trans hty')
  unfold Rows.laid_loop_example_pub_g01450_pub_jsontext_internal_jsonwire_ErrInvalidUTF8 at hd
  obtain ⟨f1, u, v, e, _⟩ := iface_of_trod Tryd.underlying47 hd
  refine ⟨u, v, ?_⟩
  rw [World.var?_cell hg' hvar 0, ← Array.getElem?_toList, e]
  rfl

theorem errCell2 {W : World} (hL : laidMetH Tryd.prog Rows.fnBytesRow.laid W) : ∃ u x, W.cell? ⟨2, 0, none⟩ = some (.iface u x) := by
  obtain ⟨g', t, cs, fuel, p, hg', hty', hvar, hd⟩ := Lib.laidMet.reads hL (.tail _ (.head _))
  obtain rfl := Option.some.inj ((show Tryd.prog.globalNamed "io.ErrUnexpectedEOF" = some 2 by kernel_rfl).symm.trans hg')
  obtain rfl := Option.some.inj ((show (Tryd.prog.globals[2]?).map (·.type) = some 47 by kernel_rfl).symm.trans hty')
  unfold Rows.laid_io_ErrUnexpectedEOF at hd
  obtain ⟨f1, u, v, e, _⟩ := iface_of_trod Tryd.underlying47 hd
  refine ⟨u, v, ?_⟩
  rw [World.var?_cell hg' hvar 0, ← Array.getElem?_toList, e]
  rfl

theorem five {W : World} (hL : laidMetH Tryd.prog Rows.fnBytesRow.laid W) : 5 ≤ W.heap.size := by
  have := Go.block_lt_of_cell ((utf8Only hL).2 0 (by decide)).1
  exact this

/-- The variables, laid. -/
def valOf : DataW Unit → Value
  | .lit (.int q x) => .int q x
  | _ => .bool false
def tabE : Obj → Obj
  | .cells _ t frozen => .cells ((partsOf Rows.laid_loop_example_pub_g01450_pub_jsontext_internal_jsonwire_escapeASCII).map valOf).toArray t frozen
  | o => o
def tab0 : Obj → Obj
  | .cells _ t frozen => .cells (Lib.firstTab.map fun z => Value.int .u8 z).toArray t frozen
  | o => o
def tab1 : Obj → Obj
  | .cells _ t frozen => .cells ((List.range 16).flatMap fun i => [Value.int .u8 ((Lib.accLo i : Nat) : Int), Value.int .u8 ((Lib.accHi i : Nat) : Int)]).toArray t frozen
  | o => o

abbrev text1 : ByteArray := { data := #[105, 110, 118, 97, 108, 105, 100, 32, 85, 84, 70, 45, 56] }
abbrev text2 : ByteArray := { data := #[117, 110, 101, 120, 112, 101, 99, 116, 101, 100, 32, 69, 79, 70] }
noncomputable def low : Nat := (World.holding Tryd.prog default ⟨#[], #[], []⟩).heap.size
def tabI (k : Nat) : Obj → Obj
  | .cells _ t frozen => .cells #[.iface 117 (.pointer (some ⟨k, 0, none⟩))] t frozen
  | o => o

/-- A world for the witness. -/
noncomputable def laidWorld (os : Os) : World :=
  let w0 := World.holding Tryd.prog os ⟨#[.cells #[.string text1] 135, .cells #[.string text2] 135], #[], []⟩
  { w0 with heap := ((((w0.heap.modify 0 tabE).modify 1 (tabI low)).modify 2 (tabI (low + 1))).modify 3 tab0).modify 4 tab1 }
theorem laid_met (os : Os) : laidMet Tryd.prog Rows.fnBytesRow.laid ((laidWorld os).forCall (fun _ _ => 0) ⟨#[], #[.string ByteArray.empty, .string ByteArray.empty], []⟩).memory :=
  laidMet_of_run' 8 (by kernel_rfl) (by kernel_rfl)
theorem reads (os : Os) {H : Type} (enc : TypeId × Value → H) : ∃ x, DataW.whole enc Tryd.prog ((laidWorld os).forCall (fun _ _ => 0) ⟨#[], #[.string ByteArray.empty, .string ByteArray.empty], []⟩).memory Tryd.f8.params.toList Rows.fnBytesSpec.vars false #[Value.string ByteArray.empty, Value.string ByteArray.empty].toList 8 = some x := by
  have h : (DataW.whole enc Tryd.prog ((laidWorld os).forCall (fun _ _ => 0) ⟨#[], #[.string ByteArray.empty, .string ByteArray.empty], []⟩).memory Tryd.f8.params.toList Rows.fnBytesSpec.vars false #[Value.string ByteArray.empty, Value.string ByteArray.empty].toList 8).isSome = true := by kernel_rfl
  exact Option.isSome_iff_exists.1 h

theorem laidOut : laidOutB Tryd.prog = true := by kernel_rfl
theorem rowed : varsRowed Tryd.prog Rows.fnBytesSpec.vars = true := by kernel_rfl

set_option maxRecDepth 100000 in
theorem lifted (os : Os) (started : os.Started) (H : Type) (enc : TypeId × Value → H) (F : Stop.Interp) :
    ReturnsInHanded {} Tryd.checked os 8 .any ((OpenSpec.ofChange Rows.fnBytesSpec).preRow enc Tryd.prog Tryd.f8 Rows.fnBytesRow.domain false Rows.fnBytesRow.laid) (((OpenSpec.ofChange Rows.fnBytesSpec).at F).post enc Tryd.prog Tryd.f8 false true false false) := by
  obtain ⟨x, hx⟩ := reads os enc
  refine returnsInHanded_of_row (C := Tryd.checked) (s := OpenSpec.ofChange Rows.fnBytesSpec) own started (by kernel_rfl) Tryd.func8
    (witness_row_at (enc := enc) (C := Tryd.checked) false (laidWorld os) #[.string ByteArray.empty, .string ByteArray.empty] rfl (by kernel_rfl) (by kernel_rfl) (by kernel_rfl)
      (OpenSpec.preRow_of_cond 8 hx rfl (fun k hk => by cases hk) (by kernel_rfl) (laid_met os))) ?_
  intro W base args ds gs before hval hW _ _ _ hL _ _
  have hW' := hW
  obtain ⟨p, q, hA0, hV, rfl, hfz, hnd⟩ := hW
  have hA : DataW.TrodAll enc Tryd.prog W 0 (fun _ => true) true Tryd.f8.params.toList args.toList ds p := hA0
  rw [Tryd.params8] at hA hval
  obtain ⟨v0, vs0, d0, ds0, p0, q0, hargs, rfl, rfl, h0, r0⟩ := trodAll_cons hA
  obtain ⟨v1, vs1, d1, ds1, p1, q1, rfl, rfl, rfl, h1, r1⟩ := trodAll_cons r0
  obtain ⟨rfl, rfl, rfl⟩ := trodAll_nil r1
  obtain rfl : args = #[v0, v1] := by cases args; simp_all
  obtain ⟨a0, rfl, rfl, rfl, w0⟩ := open_string Tryd.underlying9 (hval 0 9 v0 rfl rfl) h0
  obtain ⟨a1, rfl, rfl, rfl, w1⟩ := open_string Tryd.underlying9 (hval 1 9 v1 rfl rfl) h1
  have hgs : ∃ g1 g2, gs = [g1, g2] := by
    obtain ⟨_, _, _, _, e0, _, _, _, _, _, e1, _, rfl, _⟩ := trodVars_two hV
    exact ⟨e0, e1, rfl⟩
  obtain ⟨g1, g2, rfl⟩ := hgs
  clear hA0
  simp only [List.append_nil] at hW'
  obtain ⟨u1, x1, he1⟩ := errCell1 hL
  obtain ⟨u2, x2, he2⟩ := errCell2 hL
  refine (FnBy.walk escF u1 u2 x1 x2 a0 a1 w0 w1 W ⟨escTab hL, ⟨utf8Only hL, he1, he2, five hL⟩⟩ escAll).mono fun e W' ⟨he, hg⟩ => ?_
  subst he
  exact ⟨_, rfl, _, _, _, [], _, _, hW', (trodAll_cons_mk (shut_bool Tryd.underlying4 _) trodAll_mk0), (trodAll_cons_mk (shut_string Tryd.underlying9 w0) (trodAll_cons_mk (shut_string Tryd.underlying9 w1) trodAll_mk0)), hg.trodVars laidOut rowed hV, hg.frame _, fun h => by cases h⟩

theorem said : Rows.FnBytesSaid :=
  OpenClaim.holds_of_cond 8 Tryd.f8 rfl rfl rfl rfl rfl rfl rfl ⟨rfl, rfl, rfl, rfl, rfl⟩ rfl rfl rfl rfl rfl (by kernel_rfl) Tryd.func8 (by kernel_rfl)
    (of_decide_eq_true (by kernel_rfl)) (by unfold Func.isWrapper; first | (rw [if_pos (by decide +kernel)]; kernel_rfl) | (rw [if_neg (by decide +kernel)]; exact ⟨rfl, rfl⟩))
    (fun os started H enc _ F => by rw [OpenClaim.pre_eq_preRow]; exact lifted os started H enc F)

theorem plain (f : FuncId) (fn : Func) (hf : Tryd.pinned.checked.prog.funcNamed "loop.example/pub-g01450/laws.FnBytes" = some f) (hfn : Tryd.pinned.checked.prog.funcs[f]? = some fn) :
    false = Tryd.pinned.checked.prog.looks [] ∧ ∀ (j : Nat) t, fn.params[j]? = some t → Tryd.pinned.checked.prog.wantsStandIn t = false := by
  obtain rfl : f = 8 := Option.some.inj ((show Tryd.prog.funcNamed "loop.example/pub-g01450/laws.FnBytes" = some 8 by kernel_rfl).symm.trans hf) |>.symm
  obtain rfl : fn = Tryd.f8 := (Option.some.inj (Tryd.func8.symm.trans hfn)).symm
  refine ⟨by kernel_rfl, fun j t ht => ?_⟩
  rw [Tryd.params8] at ht
  have ht2 : t = 9 := by simpa using Array.mem_of_getElem? ht
  subst ht2
  exact (show Tryd.prog.wantsStandIn 9 = false by kernel_rfl)

/-- The card. -/
theorem card : Rows.FnBytesCardSaid :=
  Claim7.holds_tied_plain_at .later [] _ _ _ _ said (fun _ h => by cases h) (by kernel_rfl) (fun _ h => by cases h) fnBytes_row_tie rfl ⟨rfl, rfl⟩ (by kernel_rfl) rfl plain (by kernel_rfl)
#print axioms card
end Go.Proofs.YtjjbgoknmofajaaDoor.fnBytesFinal
