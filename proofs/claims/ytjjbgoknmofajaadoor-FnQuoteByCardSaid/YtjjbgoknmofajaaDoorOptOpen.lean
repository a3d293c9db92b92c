/- An argument of the type of options, opened and shut. -/
import Derived.Test.YtjjbgoknmofajaaDoorFlagB
import Derived.OpenShut
import Derived.ShutString
import Derived.WalkKit
import Derived.ProofKit
import Derived.Lib.SmallJoins
namespace Go.Proofs.YtjjbgoknmofajaaDoor.FlagB
open Go.RowKit Go.Proofs.YtjjbgoknmofajaaDoor Go.ChangeShapes Go.WideShapes

theorem array15 {α : Type} {cs : Array α} (h : cs.size = 15) : ∃ c0 c1 c2 c3 c4 c5 c6 c7 c8 c9 c10 c11 c12 c13 c14, cs = #[c0, c1, c2, c3, c4, c5, c6, c7, c8, c9, c10, c11, c12, c13, c14] := by
  obtain ⟨l⟩ := cs
  match l, h with
  | [c0, c1, c2, c3, c4, c5, c6, c7, c8, c9, c10, c11, c12, c13, c14], _ => exact ⟨c0, c1, c2, c3, c4, c5, c6, c7, c8, c9, c10, c11, c12, c13, c14, rfl⟩
theorem list15 {α : Type} {l : List α} (h : l.length = 15) : ∃ c0 c1 c2 c3 c4 c5 c6 c7 c8 c9 c10 c11 c12 c13 c14, l = [c0, c1, c2, c3, c4, c5, c6, c7, c8, c9, c10, c11, c12, c13, c14] := by
  match l, h with
  | [c0, c1, c2, c3, c4, c5, c6, c7, c8, c9, c10, c11, c12, c13, c14], _ => exact ⟨c0, c1, c2, c3, c4, c5, c6, c7, c8, c9, c10, c11, c12, c13, c14, rfl⟩

theorem cI : Tryd.prog.cellsOf 2 = 1 := by kernel_rfl
theorem cB : Tryd.prog.cellsOf 4 = 1 := by kernel_rfl
theorem cS : Tryd.prog.cellsOf 9 = 1 := by kernel_rfl
theorem cO : Tryd.prog.cellsOf 25 = 15 := by kernel_rfl

def Opt.dat {H : Type} (o : Opt) : DataW H := .agg [.lit (.int .i64 o.dup), .lit (.int .i64 o.inv), .lit (.int .i64 o.flo), .lit (.int .i64 o.ints), .lit (.int .i64 o.html), .lit (.int .i64 o.js), .lit (.int .i64 o.multi), .lit (.int .i64 o.pres), .lit (.int .i64 o.reord), .lit (.int .i64 o.colon), .lit (.int .i64 o.comma), .lit (.bool o.indented), .lit (.string o.indent.data.toList), .lit (.bool o.prefixed), .lit (.string o.pref.data.toList)]

/-- What options hold. -/
structure Opt.Fine (o : Opt) : Prop where
  dup : (Lit.int .i64 o.dup).wf = true
  inv : (Lit.int .i64 o.inv).wf = true
  flo : (Lit.int .i64 o.flo).wf = true
  ints : (Lit.int .i64 o.ints).wf = true
  html : (Lit.int .i64 o.html).wf = true
  js : (Lit.int .i64 o.js).wf = true
  multi : (Lit.int .i64 o.multi).wf = true
  pres : (Lit.int .i64 o.pres).wf = true
  reord : (Lit.int .i64 o.reord).wf = true
  colon : (Lit.int .i64 o.colon).wf = true
  comma : (Lit.int .i64 o.comma).wf = true
  indent : o.indent.size ≤ maxLen
  pref : o.pref.size ≤ maxLen

set_option maxRecDepth 100000 in
theorem open_opt {H : Type} {enc : TypeId × Value → H} {W : World} {base : Nat} {sp : Nat → Bool} {held : Bool} {r : Reach} {b0 : Nat} {v : Value} {d : DataW H} {p : List MemPlace} (hv : Value.okWide Tryd.prog W r b0 25 v) (h : DataW.Trod enc Tryd.prog W base sp held 25 v d p) :
    ∃ o : Opt, v = o.val ∧ d = o.dat ∧ p = [] ∧ o.Fine := by
  obtain ⟨cs, rfl, hsz⟩ := okWide_struct Tryd.underlying25 hv
  obtain ⟨c0, c1, c2, c3, c4, c5, c6, c7, c8, c9, c10, c11, c12, c13, c14, rfl⟩ := array15 (hsz.trans cO)
  obtain ⟨fuel, hf⟩ := h
  obtain ⟨xs, n, _, hx, _, hlen, hfs⟩ := DataW.trod_struct Tryd.underlying25 hf
  obtain ⟨y0, y1, y2, y3, y4, y5, y6, y7, y8, y9, y10, y11, y12, y13, y14, rfl⟩ := list15 (hlen.trans rfl)
  have k0 : DataW.trod enc Tryd.prog W base sp held n 2 [c0] = some y0 := by simpa [Value.cells, cI] using hfs 0 _ rfl
  have k1 : DataW.trod enc Tryd.prog W base sp held n 2 [c1] = some y1 := by simpa [Value.cells, cI] using hfs 1 _ rfl
  have k2 : DataW.trod enc Tryd.prog W base sp held n 2 [c2] = some y2 := by simpa [Value.cells, cI] using hfs 2 _ rfl
  have k3 : DataW.trod enc Tryd.prog W base sp held n 2 [c3] = some y3 := by simpa [Value.cells, cI] using hfs 3 _ rfl
  have k4 : DataW.trod enc Tryd.prog W base sp held n 2 [c4] = some y4 := by simpa [Value.cells, cI] using hfs 4 _ rfl
  have k5 : DataW.trod enc Tryd.prog W base sp held n 2 [c5] = some y5 := by simpa [Value.cells, cI] using hfs 5 _ rfl
  have k6 : DataW.trod enc Tryd.prog W base sp held n 2 [c6] = some y6 := by simpa [Value.cells, cI] using hfs 6 _ rfl
  have k7 : DataW.trod enc Tryd.prog W base sp held n 2 [c7] = some y7 := by simpa [Value.cells, cI] using hfs 7 _ rfl
  have k8 : DataW.trod enc Tryd.prog W base sp held n 2 [c8] = some y8 := by simpa [Value.cells, cI] using hfs 8 _ rfl
  have k9 : DataW.trod enc Tryd.prog W base sp held n 2 [c9] = some y9 := by simpa [Value.cells, cI] using hfs 9 _ rfl
  have k10 : DataW.trod enc Tryd.prog W base sp held n 2 [c10] = some y10 := by simpa [Value.cells, cI] using hfs 10 _ rfl
  have k11 : DataW.trod enc Tryd.prog W base sp held n 4 [c11] = some y11 := by simpa [Value.cells, cB] using hfs 11 _ rfl
  have k12 : DataW.trod enc Tryd.prog W base sp held n 9 [c12] = some y12 := by simpa [Value.cells, cS] using hfs 12 _ rfl
  have k13 : DataW.trod enc Tryd.prog W base sp held n 4 [c13] = some y13 := by simpa [Value.cells, cB] using hfs 13 _ rfl
  have k14 : DataW.trod enc Tryd.prog W base sp held n 9 [c14] = some y14 := by simpa [Value.cells, cS] using hfs 14 _ rfl
  clear hfs hf hv hsz hlen
  obtain ⟨a0, e0, rfl, w0⟩ := DataW.trod_int Tryd.underlying2 k0
  obtain rfl := (List.cons.inj e0).1
  obtain ⟨a1, e1, rfl, w1⟩ := DataW.trod_int Tryd.underlying2 k1
  obtain rfl := (List.cons.inj e1).1
  obtain ⟨a2, e2, rfl, w2⟩ := DataW.trod_int Tryd.underlying2 k2
  obtain rfl := (List.cons.inj e2).1
  obtain ⟨a3, e3, rfl, w3⟩ := DataW.trod_int Tryd.underlying2 k3
  obtain rfl := (List.cons.inj e3).1
  obtain ⟨a4, e4, rfl, w4⟩ := DataW.trod_int Tryd.underlying2 k4
  obtain rfl := (List.cons.inj e4).1
  obtain ⟨a5, e5, rfl, w5⟩ := DataW.trod_int Tryd.underlying2 k5
  obtain rfl := (List.cons.inj e5).1
  obtain ⟨a6, e6, rfl, w6⟩ := DataW.trod_int Tryd.underlying2 k6
  obtain rfl := (List.cons.inj e6).1
  obtain ⟨a7, e7, rfl, w7⟩ := DataW.trod_int Tryd.underlying2 k7
  obtain rfl := (List.cons.inj e7).1
  obtain ⟨a8, e8, rfl, w8⟩ := DataW.trod_int Tryd.underlying2 k8
  obtain rfl := (List.cons.inj e8).1
  obtain ⟨a9, e9, rfl, w9⟩ := DataW.trod_int Tryd.underlying2 k9
  obtain rfl := (List.cons.inj e9).1
  obtain ⟨a10, e10, rfl, w10⟩ := DataW.trod_int Tryd.underlying2 k10
  obtain rfl := (List.cons.inj e10).1
  obtain ⟨a11, e11, rfl⟩ := DataW.trod_bool Tryd.underlying4 k11
  obtain rfl := (List.cons.inj e11).1
  obtain ⟨a12, e12, rfl, w12⟩ := DataW.trod_string Tryd.underlying9 k12
  obtain rfl := (List.cons.inj e12).1
  obtain ⟨a13, e13, rfl⟩ := DataW.trod_bool Tryd.underlying4 k13
  obtain rfl := (List.cons.inj e13).1
  obtain ⟨a14, e14, rfl, w14⟩ := DataW.trod_string Tryd.underlying9 k14
  obtain rfl := (List.cons.inj e14).1
  obtain ⟨rfl, rfl⟩ := Prod.mk.inj hx
  exact ⟨⟨a0, a1, a2, a3, a4, a5, a6, a7, a8, a9, a10, a11, a12, a13, a14⟩, rfl, rfl, rfl, ⟨w0, w1, w2, w3, w4, w5, w6, w7, w8, w9, w10, w12, w14⟩⟩

set_option maxRecDepth 100000 in
theorem shut_opt {H : Type} {enc : TypeId × Value → H} (o : Opt) (h : o.Fine) (W : World) (base : Nat) (sp : Nat → Bool) (held : Bool) : DataW.Trod enc Tryd.prog W base sp held 25 o.val o.dat [] := by
  have fI : ∀ a : Int, (Lit.int .i64 a).wf = true → DataW.trod enc Tryd.prog W base sp held 1 2 [.int .i64 a] = some (.lit (.int .i64 a), []) := fun a ha => by simp [DataW.trod, Tryd.underlying2, ha]
  have fB : ∀ b : Bool, DataW.trod enc Tryd.prog W base sp held 1 4 [.bool b] = some (.lit (.bool b), []) := fun b => by simp [DataW.trod, Tryd.underlying4]
  have fS : ∀ s : ByteArray, s.size ≤ maxLen → DataW.trod enc Tryd.prog W base sp held 1 9 [.string s] = some (.lit (.string s.data.toList), []) := fun s hs => by simp [DataW.trod, Tryd.underlying9, hs]
  have ts := trod_struct_mk (enc := enc) (w := W) (base := base) (spare := sp) (held := held) (n := 1) (cs := o.val.cells.toList) (xs := [(.lit (.int .i64 o.dup), []), (.lit (.int .i64 o.inv), []), (.lit (.int .i64 o.flo), []), (.lit (.int .i64 o.ints), []), (.lit (.int .i64 o.html), []), (.lit (.int .i64 o.js), []), (.lit (.int .i64 o.multi), []), (.lit (.int .i64 o.pres), []), (.lit (.int .i64 o.reord), []), (.lit (.int .i64 o.colon), []), (.lit (.int .i64 o.comma), []), (.lit (.bool o.indented), []), (.lit (.string o.indent.data.toList), []), (.lit (.bool o.prefixed), []), (.lit (.string o.pref.data.toList), [])]) Tryd.underlying25 (by rw [cO]; rfl)
    (by simp [Opt.val, Value.cells, cI, cB, cS, fI _ h.dup, fI _ h.inv, fI _ h.flo, fI _ h.ints, fI _ h.html, fI _ h.js, fI _ h.multi, fI _ h.pres, fI _ h.reord, fI _ h.colon, fI _ h.comma, fS _ h.indent, fS _ h.pref, fB])
  exact ⟨_, by simpa [Opt.dat] using ts⟩

end Go.Proofs.YtjjbgoknmofajaaDoor.FlagB
