/-
  The statement of 'FnWireStringPieces' and its card, proved: whatever the input, the law returns true and its arguments and the listed variable read as before.
  No condition.
-/
import Derived.Test.YtifemmjblamfkaaDoorCards
import Derived.Test.YtifemmjblamfkaaDoorTie
import Derived.Test.YtifemmjblamfkaaDoorStrLaw
import Derived.WalkKit
import Derived.ProofKit
import Derived.OpenShut
import Derived.ShutString
import Derived.Deep.DeepHandedRow
import Derived.Lib.LaidU8T
import Derived.OpenVars
import Derived.DataShut
import Derived.Stop.LaidErr
namespace Go.Proofs.YtifemmjblamfkaaDoor.fnWireStringPiecesFinal
open Go.ChangeShapes Go.WideShapes Go.ChangeAt Go.RowKit
open Go.ChangeMaps (open_string shut_string)

theorem own : ownKnob Tryd.prog.godebug = none := by kernel_rfl

/-- The numbers of the two tables and their types. -/
def ren : Go.Shelf.Ren := { f := id, t := fun n => if n = 5 then 5 else if n = 119 then 78 else if n = 138 then 80 else 81, g := fun n => if n = 3 then 2 else 3 }

theorem dFirst : Rows.laid_unicode_utf8_first = Lib.firstData := by kernel_rfl
theorem dAccept : (Rows.laid_unicode_utf8_acceptRanges : DataW Unit) = Lib.acceptData := by kernel_rfl

theorem utf8Only {W : World} (hL : laidMetH Tryd.prog Rows.fnWireStringPiecesRow.laid W) : Lib.Utf8Tabs 2 3 W :=
  utf8Tabs_of_readsT (P := Tryd.prog) (ρ := ren) ⟨by kernel_rfl, by kernel_rfl, by kernel_rfl, by kernel_rfl⟩ ⟨by kernel_rfl, by kernel_rfl, by kernel_rfl, by kernel_rfl, by kernel_rfl, by kernel_rfl, by kernel_rfl⟩
    (by rw [← dFirst]; exact Lib.laidMet.reads hL (.tail _ (.tail _ (.tail _ (.head _))))) (by rw [← dAccept]; exact Lib.laidMet.reads hL (.head _))

theorem star : "*" ++ "errors.errorString" = "*errors.errorString" := by decide
theorem rowOf (u : TypeId) (h : Tryd.prog.typeName? 3 u = some "*errors.errorString") : u = 95 :=
  typeName_ptr_named (nm := "errors.errorString") (by rw [star]; kernel_rfl) (by kernel_rfl) (by decide) u (by rw [star]; exact h)
theorem cellsE : Tryd.prog.cellsOf 121 = 1 := by kernel_rfl
theorem cellsS : Tryd.prog.cellsOf 9 = 1 := by kernel_rfl
theorem gNamed : Tryd.prog.globalNamed "io.ErrUnexpectedEOF" = some 0 := by kernel_rfl
theorem gType : (Tryd.prog.globals[0]?).map (·.type) = some 42 := by kernel_rfl

/-- A sentinel, with the block that it lies in. -/
theorem sentinel_row {P : Program} {n nm : String} {text : List UInt8} {r : List (String × DataW Unit)} {W : World} {g : Nat} {ti tp te ts : TypeId} {ms : Array (String × TypeId)} {f : Field}
    (h : laidMet P ((n, .iface nm (.ptr (.agg [.lit (.string text)]))) :: r) W)
    (hg : P.globalNamed n = some g) (ht : (P.globals[g]?).map (·.type) = some ti) (hi : P.underlying ti = some (.interface ms)) (hrow : ∀ u, P.typeName? 3 u = some nm → u = tp)
    (hp : P.underlying tp = some (.pointer te)) (he : P.underlying te = some (.struct #[f])) (hft : f.type = ts) (hfo : f.offset = 0) (hs : P.underlying ts = some .string) (hc : P.cellsOf te = 1) (hcs : P.cellsOf ts = 1) :
    ∃ (a : Addr) (s : ByteArray), W.var? P n = some #[.iface tp (.pointer (some a))] ∧ W.cell? a = some (.string s) ∧ s.data.toList = text ∧ ∃ c t, W.heap[a.block]? = some (.cells c t (0, 0)) := by
  obtain ⟨ps, ⟨g0, t0, cs0, f0, p0, q0, hg0, ht0, hv0, hd0, _, e0⟩, _, hrows⟩ := h
  obtain rfl := Option.some.inj (hg.symm.trans hg0)
  obtain rfl := Option.some.inj (ht.symm.trans ht0)
  subst e0
  obtain ⟨l0⟩ := cs0
  have ok0 : ∀ u v, l0 = [.iface u v] → Value.okWide P W .any 0 u v := fun u v e => by
    subst e
    exact (hrows g 0 (by simp [MemPlace.row])).2 u v (by simpa using World.var?_cell hg0 hv0 0)
  obtain ⟨a0, s0, rfl, hc0, hs0, hz0, rfl⟩ := errorString_of_trod hi hrow hp he hft hfo hs hc hcs hd0 ok0
  exact ⟨a0, s0, hv0, hc0, hs0, (hrows a0.block a0.off (by simp [MemPlace.row])).1⟩

theorem uNamed : Tryd.prog.globalNamed "loop.example/pub-g01450/pub/jsontext_internal_jsonwire.ErrInvalidUTF8" = some 1 := by kernel_rfl
theorem uType : (Tryd.prog.globals[1]?).map (·.type) = some 42 := by kernel_rfl

/-- What the sentinels' variables hold. -/
theorem sents {W : World} (hL : laidMetH Tryd.prog Rows.fnWireStringPiecesRow.laid W) : ∃ a u, Wire.Sent a u W := by
  have h1 : laidMet Tryd.prog Rows.fnWireStringPiecesRow.laid W := hL
  obtain ⟨a, s, hv, hs, ht, hr⟩ := sentinel_row (laidMet.tail h1) gNamed gType Tryd.underlying42 rowOf Tryd.underlying95 Tryd.underlying121 rfl rfl Tryd.underlying9 cellsE cellsS
  obtain ⟨u, q, kv, ks, kt, kr⟩ := sentinel_row (laidMet.tail (laidMet.tail h1)) uNamed uType Tryd.underlying42 rowOf Tryd.underlying95 Tryd.underlying121 rfl rfl Tryd.underlying9 cellsE cellsS
  refine ⟨a, u, ?_, ?_, ?_, hr, kr⟩
  · rw [World.var?_cell gNamed hv 0]
    rfl
  · rw [World.var?_cell uNamed kv 0]
    rfl
  · intro e
    subst e
    rw [hs] at ks
    have e2 : s = q := by
      have := Option.some.inj ks
      simpa using this
    rw [← e2, ht] at kt
    exact absurd kt (by decide)

theorem four {W : World} (hL : laidMetH Tryd.prog Rows.fnWireStringPiecesRow.laid W) : 4 ≤ W.heap.size := by
  have := Go.block_lt_of_cell ((utf8Only hL).2 0 (by decide)).1
  exact this

/-- The variables, laid. -/
def tab0 : Obj → Obj
  | .cells _ t frozen => .cells (Lib.firstTab.map fun z => Value.int .u8 z).toArray t frozen
  | o => o
def tab1 : Obj → Obj
  | .cells _ t frozen => .cells ((List.range 16).flatMap fun i => [Value.int .u8 ((Lib.accLo i : Nat) : Int), Value.int .u8 ((Lib.accHi i : Nat) : Int)]).toArray t frozen
  | o => o

abbrev text1 : ByteArray := { data := #[105, 110, 118, 97, 108, 105, 100, 32, 85, 84, 70, 45, 56] }
abbrev text2 : ByteArray := { data := #[117, 110, 101, 120, 112, 101, 99, 116, 101, 100, 32, 69, 79, 70] }
noncomputable def low : Nat := (World.holding Tryd.prog default ⟨#[], #[], []⟩).heap.size
def tabI (k : Nat) : Obj → Obj
  | .cells _ t frozen => .cells #[.iface 95 (.pointer (some ⟨k, 0, none⟩))] t frozen
  | o => o

/-- A world for the witness. -/
noncomputable def laidWorld (os : Os) : World :=
  let w0 := World.holding Tryd.prog os ⟨#[.cells #[.string text2] 121, .cells #[.string text1] 121], #[], []⟩
  { w0 with heap := (((w0.heap.modify 0 (tabI low)).modify 1 (tabI (low + 1))).modify 2 tab0).modify 3 tab1 }
theorem laid_met (os : Os) : laidMet Tryd.prog Rows.fnWireStringPiecesRow.laid ((laidWorld os).forCall (fun _ _ => 0) ⟨#[], #[.string ByteArray.empty, .int .i64 0, .bool false], []⟩).memory :=
  laidMet_of_run' 8 (by kernel_rfl) (by kernel_rfl)
theorem reads (os : Os) {H : Type} (enc : TypeId × Value → H) : ∃ x, DataW.whole enc Tryd.prog ((laidWorld os).forCall (fun _ _ => 0) ⟨#[], #[.string ByteArray.empty, .int .i64 0, .bool false], []⟩).memory Tryd.f4.params.toList Rows.fnWireStringPiecesSpec.vars false #[Value.string ByteArray.empty, Value.int .i64 0, Value.bool false].toList 8 = some x := by
  have h : (DataW.whole enc Tryd.prog ((laidWorld os).forCall (fun _ _ => 0) ⟨#[], #[.string ByteArray.empty, .int .i64 0, .bool false], []⟩).memory Tryd.f4.params.toList Rows.fnWireStringPiecesSpec.vars false #[Value.string ByteArray.empty, Value.int .i64 0, Value.bool false].toList 8).isSome = true := by kernel_rfl
  exact Option.isSome_iff_exists.1 h

theorem laidOut : laidOutB Tryd.prog = true := by kernel_rfl
theorem rowed : varsRowed Tryd.prog Rows.fnWireStringPiecesSpec.vars = true := by kernel_rfl

set_option maxRecDepth 100000 in
theorem lifted (os : Os) (started : os.Started) (H : Type) (enc : TypeId × Value → H) (F : Stop.Interp) :
    ReturnsInHanded {} Tryd.checked os 4 .any ((OpenSpec.ofChange Rows.fnWireStringPiecesSpec).preRow enc Tryd.prog Tryd.f4 Rows.fnWireStringPiecesRow.domain false Rows.fnWireStringPiecesRow.laid) (((OpenSpec.ofChange Rows.fnWireStringPiecesSpec).at F).post enc Tryd.prog Tryd.f4 false true false false) := by
  obtain ⟨x, hx⟩ := reads os enc
  refine returnsInHanded_of_row (C := Tryd.checked) (s := OpenSpec.ofChange Rows.fnWireStringPiecesSpec) own started (by kernel_rfl) Tryd.func4
    (witness_row_at (enc := enc) (C := Tryd.checked) false (laidWorld os) #[.string ByteArray.empty, .int .i64 0, .bool false] rfl (by kernel_rfl) (by kernel_rfl) (by kernel_rfl)
      (OpenSpec.preRow_of_cond 8 hx rfl (fun k hk => by cases hk) (by kernel_rfl) (laid_met os))) ?_
  intro W base args ds gs before hval hW _ _ _ hL _ _
  have hW' := hW
  obtain ⟨p, q, hA0, hV, rfl, hfz, hnd⟩ := hW
  have hA : DataW.TrodAll enc Tryd.prog W 0 (fun _ => true) true Tryd.f4.params.toList args.toList ds p := hA0
  rw [Tryd.params4] at hA hval
  obtain ⟨v0, vs0, d0, ds0, p0, q0, hargs, rfl, rfl, h0, r0⟩ := trodAll_cons hA
  obtain ⟨v1, vs1, d1, ds1, p1, q1, rfl, rfl, rfl, h1, r1⟩ := trodAll_cons r0
  obtain ⟨v2, vs2, d2, ds2, p2, q2, rfl, rfl, rfl, h2, r2⟩ := trodAll_cons r1
  obtain ⟨rfl, rfl, rfl⟩ := trodAll_nil r2
  obtain rfl : args = #[v0, v1, v2] := by cases args; simp_all
  obtain ⟨a0, rfl, rfl, rfl, w0⟩ := open_string Tryd.underlying9 (hval 0 9 v0 rfl rfl) h0
  obtain ⟨a1, rfl, rfl, rfl, w1⟩ := open_int Tryd.underlying3 (hval 1 3 v1 rfl rfl) h1
  obtain ⟨a2, rfl, rfl, rfl⟩ := open_bool Tryd.underlying4 (hval 2 4 v2 rfl rfl) h2
  have hgs : ∃ g1, gs = [g1] := by
    obtain ⟨_, _, _, _, e0, _, rfl, _⟩ := trodVars_one hV
    exact ⟨e0, rfl⟩
  obtain ⟨g1, rfl⟩ := hgs
  clear hA0
  simp only [List.append_nil] at hW'
  obtain ⟨e0, u0, hse⟩ := sents hL
  refine (StrPieces.walk a0 a1 a2 w0 e0 u0 W (utf8Only hL) hse (four hL)).mono fun e W' ⟨he, hg⟩ => ?_
  subst he
  exact ⟨_, rfl, _, _, _, [], _, _, hW', (trodAll_cons_mk (shut_bool Tryd.underlying4 _) trodAll_mk0), (trodAll_cons_mk (shut_string Tryd.underlying9 w0) (trodAll_cons_mk (shut_int Tryd.underlying3 w1) (trodAll_cons_mk (shut_bool Tryd.underlying4 _) trodAll_mk0))), hg.trodVars laidOut rowed hV, hg.frame _, fun h => by cases h⟩

theorem said : Rows.FnWireStringPiecesSaid :=
  OpenClaim.holds_of_cond 4 Tryd.f4 rfl rfl rfl rfl rfl rfl rfl ⟨rfl, rfl, rfl, rfl, rfl⟩ rfl rfl rfl rfl rfl (by kernel_rfl) Tryd.func4 (by kernel_rfl)
    (of_decide_eq_true (by kernel_rfl)) (by unfold Func.isWrapper; first | (rw [if_pos (by decide +kernel)]; kernel_rfl) | (rw [if_neg (by decide +kernel)]; exact ⟨rfl, rfl⟩))
    (fun os started H enc _ F => by rw [OpenClaim.pre_eq_preRow]; exact lifted os started H enc F)

theorem plain (f : FuncId) (fn : Func) (hf : Tryd.pinned.checked.prog.funcNamed "loop.example/pub-g01450/laws.FnWireStringPieces" = some f) (hfn : Tryd.pinned.checked.prog.funcs[f]? = some fn) :
    true = Tryd.pinned.checked.prog.looks [] ∧ ∀ (j : Nat) t, fn.params[j]? = some t → Tryd.pinned.checked.prog.wantsStandIn t = false := by
  obtain rfl : f = 4 := Option.some.inj ((show Tryd.prog.funcNamed "loop.example/pub-g01450/laws.FnWireStringPieces" = some 4 by kernel_rfl).symm.trans hf) |>.symm
  obtain rfl : fn = Tryd.f4 := (Option.some.inj (Tryd.func4.symm.trans hfn)).symm
  refine ⟨by kernel_rfl, fun j t ht => ?_⟩
  rw [Tryd.params4] at ht
  have ht2 : t = 9 ∨ t = 3 ∨ t = 4 := by simpa using Array.mem_of_getElem? ht
  rcases ht2 with rfl | rfl | rfl
  · exact (show Tryd.prog.wantsStandIn 9 = false by kernel_rfl)
  · exact (show Tryd.prog.wantsStandIn 3 = false by kernel_rfl)
  · exact (show Tryd.prog.wantsStandIn 4 = false by kernel_rfl)

/-- The card. -/
theorem card : Rows.FnWireStringPiecesCardSaid :=
  Claim7.holds_tied_plain_at .later [] _ _ _ _ said (fun _ h => by cases h) (by kernel_rfl) (fun _ h => by cases h) fnWireStringPieces_row_tie rfl ⟨rfl, rfl⟩ (by kernel_rfl) rfl plain (by kernel_rfl)
#print axioms card
end Go.Proofs.YtifemmjblamfkaaDoor.fnWireStringPiecesFinal
