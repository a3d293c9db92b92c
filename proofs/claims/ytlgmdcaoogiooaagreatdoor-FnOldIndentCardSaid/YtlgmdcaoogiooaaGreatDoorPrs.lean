/- The walk of the reference's 'Parse', by the loose rules. -/
import Derived.Test.YtlgmdcaoogiooaaGreatDoorValW
import Derived.Deep.RegionHeld3
namespace Go.Proofs.YtlgmdcaoogiooaaGreatDoor
open Go.RowKit

/-- The scanner at the beginning. -/
def gStart : Cfg := ⟨.bv, false, [], none⟩

/-- The scanner behind the whole value. -/
theorem fin_top (l : List UInt8) (k : Nat) :
    (mSpace l k = l.length → fin (after gStart) k (l.drop k) = none) ∧ (mSpace l k < l.length → fin (after gStart) k (l.drop k) = some ((min (mSpace l k + 1) l.length : Nat) : Int)) := by
  have hw : WF (after gStart) := ⟨fun e => (by cases e), fun _ => ⟨rfl, .inl rfl⟩, fun e => absurd rfl e, fun e => (by cases e)⟩
  have hsp := says_space hw (fun y c hc => by show (stepEt _ y c).1 = _; unfold stepEt; rw [if_pos hc]) l _ k (Nat.le_refl _)
  refine ⟨fun h => ?_, fun h => ?_⟩
  · rw [hsp, h, List.drop_eq_nil_of_le (Nat.le_refl _)]
    rfl
  · have hget := List.getElem?_eq_getElem h
    have hns := not_sp_at l k _ hget
    rw [hsp, drop_get hget, Nat.min_eq_left (by omega)]
    exact fin_bad (g1 := after gStart) hw (by show (stepEt _ _ _).1 = _; unfold stepEt; rw [if_neg hns])

/-- What 'Parse' leaves. -/
structure PaRes (w : World) (s : ByteArray) (f : Int) (q : Nat) (kd : Nat) (tx : ByteArray) (nv kv : Value) (w' : World) : Prop where
  below : Below w.heap.size w w'
  le : q ≤ s.size
  nl : ∃ a n c, nv = .slice a n c
  kl : ∃ a n c, kv = .slice a n c
  good : f = 0 → fin gStart 0 s.data.toList = none ∧ ∃ v T, Val s 0 v T ∧ mSpace s.data.toList v = s.size ∧ Rep w' (fun g => w.heap.size ≤ g ∧ g < w'.heap.size) T [.int .u8 ((kd : Nat) : Int), .string tx, nv, kv]
  bad : f ≠ 0 → fin gStart 0 s.data.toList = some ((min (q + 1) s.size : Nat) : Int)

theorem results_two {fn : Func} {p q : Tmp} {ty tz : TypeId} (h : fn.results = #[.cell p ty, .cell q tz]) (tmps : Array Value) (P : Program) (w : World) :
    (results fn tmps).run P w =
      ((asAddr (tmps.getD p undef)).run P w).andThen fun a w₁ => ((loadVar ty a).run P w₁).andThen fun v w₂ => ((asAddr (tmps.getD q undef)).run P w₂).andThen fun b w₃ => ((loadVar tz b).run P w₃).andThen fun u w₄ => .ok (.tuple #[v, u]) w₄ := by
  simp only [results, h]
  simp [Sem.run_bind, Result.andThen]

theorem prs_ret {tmps : Array Value} {Z : World} {r r' : Nat} {v0 v1 v2 v3 u0 u1 u2 : Value} (hZ : Z.heap[r]? = some (.cells #[v0, v1, v2, v3] 41 (0, 0))) (hZ' : Z.heap[r']? = some (.cells #[u0, u1, u2] 24 (0, 0)))
    (hp : tmps.getD 4 undef = .pointer (some ⟨r, 0, none⟩)) (hq : tmps.getD 5 undef = .pointer (some ⟨r', 0, none⟩)) :
    (results Tryz.f9 tmps).run Tryz.prog Z = .ok (.tuple #[.agg #[v0, v1, v2, v3], .agg #[u0, u1, u2]]) Z := by
  rw [results_two (p := 4) (q := 5) (ty := 41) (tz := 24) rfl, hp, hq]
  simp only [asAddr, Sem.run_pure, Result.andThen_ok]
  rw [run_loadVar_row Z r 41 41 _ _ _ hZ Tryz.underlying41 rfl (by kernel_rfl)]
  simp only [Result.andThen_ok]
  rw [run_loadVar_row Z r' 24 24 _ _ _ hZ' Tryz.underlying24 rfl (by kernel_rfl)]
  rfl

/-- The two results were written. -/
structure PF (w Z : World) (r r' : Nat) (v0 v1 v2 v3 u0 u1 u2 : Value) : Prop where
  os : Z.os = w.os
  tape : Z.tape = w.tape
  output : Z.output = w.output
  size : Z.heap.size = w.heap.size
  one : Z.heap[r]? = some (.cells #[v0, v1, v2, v3] 41 (0, 0))
  two : Z.heap[r']? = some (.cells #[u0, u1, u2] 24 (0, 0))
  rest : ∀ g, g ≠ r → g ≠ r' → Z.heap[g]? = w.heap[g]?

theorem out_row (w : World) (r : Nat) (a0 a1 a2 u0 u1 u2 : Value) (t : TypeId) (h : w.heap[r]? = some (.cells #[a0, a1, a2] t (0, 0))) :
    (((w.setCell ⟨r, 0, none⟩ u0).setCell ⟨r, 1, none⟩ u1).setCell ⟨r, 2, none⟩ u2).heap[r]? = some (.cells #[u0, u1, u2] t (0, 0)) := by
  have b1 := heap_setCell_same w r 0 _ _ u0 h
  have b2 := heap_setCell_same _ r 1 _ _ u1 b1
  exact heap_setCell_same _ r 2 _ _ u2 b2

theorem out_far (w : World) (r : Nat) (u0 u1 u2 : Value) (g : Nat) (h : g ≠ r) : (((w.setCell ⟨r, 0, none⟩ u0).setCell ⟨r, 1, none⟩ u1).setCell ⟨r, 2, none⟩ u2).heap[g]? = w.heap[g]? := by
  rw [sc_far _ _ _ _ _ h, sc_far _ _ _ _ _ h, sc_far _ _ _ _ _ h]

theorem prs_first (w : World) {r r' : Nat} (h : r ≠ r') (a0 a1 a2 a3 b0 b1 b2 v0 v1 v2 v3 u0 u1 u2 : Value) (h1 : w.heap[r]? = some (.cells #[a0, a1, a2, a3] 41 (0, 0))) (h2 : w.heap[r']? = some (.cells #[b0, b1, b2] 24 (0, 0))) :
    PF w (((((((w.setCell ⟨r, 0, none⟩ v0).setCell ⟨r, 1, none⟩ v1).setCell ⟨r, 2, none⟩ v2).setCell ⟨r, 3, none⟩ v3).setCell ⟨r', 0, none⟩ u0).setCell ⟨r', 1, none⟩ u1).setCell ⟨r', 2, none⟩ u2) r r' v0 v1 v2 v3 u0 u1 u2 where
  os := by rw [sc_os, sc_os, sc_os, sc_os, sc_os, sc_os, sc_os]
  tape := by rw [sc_tape, sc_tape, sc_tape, sc_tape, sc_tape, sc_tape, sc_tape]
  output := by rw [sc_output, sc_output, sc_output, sc_output, sc_output, sc_output, sc_output]
  size := by rw [sc_size, sc_size, sc_size, sc_size, sc_size, sc_size, sc_size]
  one := (out_far _ r' u0 u1 u2 r h).trans (val_row w r a0 a1 a2 a3 v0 v1 v2 v3 _ h1)
  two := out_row _ r' b0 b1 b2 u0 u1 u2 _ ((val_far w r v0 v1 v2 v3 r' (Ne.symm h)).trans h2)
  rest := fun g g1 g2 => (out_far _ r' u0 u1 u2 g g2).trans (val_far w r v0 v1 v2 v3 g g1)

theorem prs_last (w : World) {r r' : Nat} (h : r ≠ r') (a0 a1 a2 a3 b0 b1 b2 v0 v1 v2 v3 u0 u1 u2 : Value) (h1 : w.heap[r]? = some (.cells #[a0, a1, a2, a3] 41 (0, 0))) (h2 : w.heap[r']? = some (.cells #[b0, b1, b2] 24 (0, 0))) :
    PF w (((((((w.setCell ⟨r', 0, none⟩ u0).setCell ⟨r', 1, none⟩ u1).setCell ⟨r', 2, none⟩ u2).setCell ⟨r, 0, none⟩ v0).setCell ⟨r, 1, none⟩ v1).setCell ⟨r, 2, none⟩ v2).setCell ⟨r, 3, none⟩ v3) r r' v0 v1 v2 v3 u0 u1 u2 where
  os := by rw [sc_os, sc_os, sc_os, sc_os, sc_os, sc_os, sc_os]
  tape := by rw [sc_tape, sc_tape, sc_tape, sc_tape, sc_tape, sc_tape, sc_tape]
  output := by rw [sc_output, sc_output, sc_output, sc_output, sc_output, sc_output, sc_output]
  size := by rw [sc_size, sc_size, sc_size, sc_size, sc_size, sc_size, sc_size]
  one := val_row _ r a0 a1 a2 a3 v0 v1 v2 v3 _ ((out_far w r' u0 u1 u2 r h).trans h1)
  two := (val_far _ r v0 v1 v2 v3 r' (Ne.symm h)).trans (out_row w r' b0 b1 b2 u0 u1 u2 _ h2)
  rest := fun g g1 g2 => (val_far _ r v0 v1 v2 v3 g g1).trans (out_far w r' u0 u1 u2 g g2)

theorem PF.drew {w Z : World} {r r' : Nat} {v0 v1 v2 v3 u0 u1 u2 : Value} (h : PF w Z r r' v0 v1 v2 v3 u0 u1 u2) : PF w Z.drew r r' v0 v1 v2 v3 u0 u1 u2 := ⟨h.os, h.tape, h.output, h.size, h.one, h.two, h.rest⟩

theorem prs_done {Q : Ending → World → Prop} {a : Act} {w Z : World} {r r' : Nat} {v0 v1 v2 v3 u0 u1 u2 : Value} (hPF : PF w Z r r' v0 v1 v2 v3 u0 u1 u2) (hp : a.tmps.getD 4 undef = .pointer (some ⟨r, 0, none⟩)) (hq : a.tmps.getD 5 undef = .pointer (some ⟨r', 0, none⟩)) (hd : a.defers = [])
    (hK : Q (.returned (.tuple #[.agg #[v0, v1, v2, v3], .agg #[u0, u1, u2]])) Z.drew) : bodyPost Tryz.prog Tryz.f9 Q Exit.ret a Z.drew :=
  bodyPost_ret (prs_ret hPF.drew.one hPF.drew.two hp hq) hd hK

set_option maxRecDepth 100000 in
set_option maxHeartbeats 4000000 in
theorem parse_any (s : ByteArray) (w : World) (hs : s.size ≤ 100000000000) :
    Calls Tryz.prog 9 #[.string s, .agg #[.bool true, .bool true]] w fun e w' =>
      ∃ f q kd tx nv kv, e = .returned (.tuple #[.agg #[.int .u8 ((kd : Nat) : Int), .string tx, nv, kv], .agg #[.int .i64 f, .int .i64 ((q : Nat) : Int), .bool false]]) ∧ PaRes w s f q kd tx nv kv w' := by
  obtain ⟨W0, hW0⟩ : ∃ W0, W0 = ((((w.alloc (.cells #[.bool true, .bool true] 28)).alloc (.cells #[.int .u8 0, .string ⟨#[]⟩, .slice none 0 0, .slice none 0 0] 41)).alloc
    (.cells #[.int .i64 0, .int .i64 0, .bool false] 24)).alloc (.cells #[.string s, .int .i64 0, .bool true, .bool true, .int .i64 0, .bool false] 56)) := ⟨_, rfl⟩
  have hsz : W0.heap.size = w.heap.size + 4 := by rw [hW0]; simp
  have HSZ := Lib.hid hsz
  have B0 := Lib.hid (show Below w.heap.size w W0 by rw [hW0]; exact ⟨rfl, rfl, rfl, by simp; omega, fun k hk => by rw [Below.heap_alloc _ _ _ (by simp; omega), Below.heap_alloc _ _ _ (by simp; omega), Below.heap_alloc _ _ _ (by simp; omega), Below.heap_alloc _ _ _ hk]⟩)
  have RD0 := Lib.hid (show Rd W0 (w.heap.size + 1 + 1 + 1) s 0 true true 0 false from ⟨by
    rw [hW0]
    have := heap_alloc_new (((w.alloc (.cells #[.bool true, .bool true] 28)).alloc (.cells #[.int .u8 0, .string ⟨#[]⟩, .slice none 0 0, .slice none 0 0] 41)).alloc (.cells #[.int .i64 0, .int .i64 0, .bool false] 24)) (.cells #[.string s, .int .i64 0, .bool true, .bool true, .int .i64 0, .bool false] 56)
    simpa using this, Nat.zero_le _⟩)
  have Z4 := Lib.hid (show W0.heap[w.heap.size + 1]? = some (.cells #[.int .u8 0, .string ⟨#[]⟩, .slice none 0 0, .slice none 0 0] 41 (0, 0)) by
    rw [hW0, Below.heap_alloc _ _ _ (by simp), Below.heap_alloc _ _ _ (by simp)]
    have := heap_alloc_new (w.alloc (.cells #[.bool true, .bool true] 28)) (.cells #[.int .u8 0, .string ⟨#[]⟩, .slice none 0 0, .slice none 0 0] 41)
    simpa using this)
  have Z5 := Lib.hid (show W0.heap[w.heap.size + 1 + 1]? = some (.cells #[.int .i64 0, .int .i64 0, .bool false] 24 (0, 0)) by
    rw [hW0, Below.heap_alloc _ _ _ (by simp)]
    have := heap_alloc_new ((w.alloc (.cells #[.bool true, .bool true] 28)).alloc (.cells #[.int .u8 0, .string ⟨#[]⟩, .slice none 0 0, .slice none 0 0] 41)) (.cells #[.int .i64 0, .int .i64 0, .bool false] 24)
    simpa using this)
  have HW0 := Lib.hid hW0
  obtain ⟨L, hL⟩ : ∃ L, L = s.data.toList := ⟨_, rfl⟩
  have hLs : L.length = s.size := by rw [hL, size_eq]
  have HL := Lib.hid hL
  have HLs := Lib.hid hLs
  clear hL hLs hW0 hsz
  go_enter Tryz.func9, Tryz.ntmps9
  go_wp2_with fail
  rw [← HW0.out]
  obtain ⟨r4, hr4⟩ : ∃ r4, r4 = w.heap.size + 1 := ⟨_, rfl⟩
  obtain ⟨r5, hr5⟩ : ∃ r5, r5 = w.heap.size + 1 + 1 := ⟨_, rfl⟩
  obtain ⟨rb, hrb⟩ : ∃ rb, rb = w.heap.size + 1 + 1 + 1 := ⟨_, rfl⟩
  rw [← hrb] at RD0
  rw [← hr5] at Z5
  rw [← hr4] at Z4
  rw [← hrb, ← hr5, ← hr4]
  have HR4 := Lib.hid hr4
  have HR5 := Lib.hid hr5
  have HRB := Lib.hid hrb
  have x45 : r4 ≠ r5 := by omega
  have x4b : r4 ≠ rb := by omega
  have x5b : r5 ≠ rb := by omega
  clear hr4 hr5 hrb
  refine (value_any (s.size + 1) rb s 0 0 false _ hs RD0.out (by omega)).mono ?_
  rintro e w1 ⟨ok, q, kd, tx, nv, kv, rfl, hv⟩
  obtain ⟨a1, n1, e1, rfl⟩ := hv.nl
  obtain ⟨a2, n2, e2, rfl⟩ := hv.kl
  have VR := Lib.hid hv
  have B1 := Lib.hid (B0.out.grown hv.st.grown (by have := HSZ.out; omega) (fun k e => by cases e; have := HRB.out; omega))
  have Y4 := Lib.hid ((hv.st.grown.block r4 (by have := HSZ.out; have := HR4.out; omega) (fun e => by cases e; omega)).trans Z4.out)
  have Y5 := Lib.hid ((hv.st.grown.block r5 (by have := HSZ.out; have := HR5.out; omega) (fun e => by cases e; omega)).trans Z5.out)
  have HS1 := Lib.hid (show w.heap.size + 4 ≤ w1.heap.size by have := hv.st.grown.size; have := HSZ.out; omega)
  obtain ⟨f1, hrd, hfy, hfn⟩ := hv.st.rd
  have R1 := Lib.hid hrd
  have FY := Lib.hid hfy
  have FN := Lib.hid hfn
  clear hv hrd hfy hfn
  obtain ⟨W2, hW2⟩ : ∃ W2, W2 = w1.alloc (.cells #[.int .u8 ((kd : Nat) : Int), .string tx, .slice a1 n1 e1, .slice a2 n2 e2] 41) := ⟨_, rfl⟩
  have HW2 := Lib.hid hW2
  have G2 := Lib.hid (show w1.grownBy W2 none by rw [hW2]; exact grown_alloc (grown_refl w1 _) _)
  have X7 := Lib.hid (show W2.heap[w1.heap.size]? = some (.cells #[.int .u8 ((kd : Nat) : Int), .string tx, .slice a1 n1 e1, .slice a2 n2 e2] 41 (0, 0)) by rw [hW2]; exact heap_alloc_new w1 _)
  have S2 := Lib.hid (show W2.heap.size = w1.heap.size + 1 by rw [hW2]; simp)
  clear hW2
  have hrb2 : rb < W2.heap.size := by have := S2.out; have := R1.out.lt; omega
  have R2 := Lib.hid (R1.out.same (G2.out.block rb R1.out.lt (by simp)))
  have KEEP := Lib.hid (show ∀ wx, W2.grownBy wx (some rb) → ∀ g, W0.heap.size ≤ g → g < w1.heap.size → wx.heap[g]? = w1.heap[g]? from fun wx hg g h1 h2 =>
    (hg.block g (by have := S2.out; omega) (fun e => by cases e; have := HSZ.out; have := HRB.out; omega)).trans (G2.out.block g h2 (by simp)))
  have SAYS := Lib.hid (VR.out.says gStart ⟨⟨fun e => (by cases e), fun e => (by cases e), fun e => absurd rfl e, fun e => (by cases e)⟩, rfl, by simp [gStart]⟩ rfl)
  go_upto_if 16 with fail
  rw [← HW2.out]
  obtain ⟨c0, c1, c3, c4, f1', f4⟩ := R2.out.cells
  have hltr := R2.out.lt
  go_cut [8] (fun s8 wx => s8 = .bool ok ∧ ∃ f q, Rd wx rb s q true true f false ∧ W2.grownBy wx (some rb) ∧ (f = 0 → fin gStart 0 L = none ∧ ∃ v T, Val s 0 v T ∧ mSpace L v = s.size ∧ Rep wx (fun g => W0.heap.size ≤ g ∧ g < w1.heap.size) T [.int .u8 ((kd : Nat) : Int), .string tx, .slice a1 n1 e1, .slice a2 n2 e2]) ∧
    (f ≠ 0 → fin gStart 0 L = some ((min (q + 1) s.size : Nat) : Int)))
  case first =>
    cases ok with
    | false =>
      go_wp2_with fail
      go_meet
      refine ⟨rfl, f1, q, R2.out, grown_refl _ _, fun e => absurd e (FN.out (by trivial)), fun _ => ?_⟩
      have h1 := SAYS.out.2.2 rfl
      rw [← HL.out, HLs.out] at h1
      exact h1
    | true =>
      obtain rfl := FY.out rfl
      go_wp2_with fail
      refine (space_any rb s q true true 0 false _ (by omega) R2.out).mono ?_
      rintro e w3 ⟨rfl, hrd, hgr⟩
      rw [← HL.out] at hrd
      obtain ⟨i, hi⟩ : ∃ i, mSpace L q = i := ⟨_, rfl⟩
      rw [hi] at hrd
      have HI := Lib.hid hi
      have R3 := Lib.hid hrd
      have G3 := Lib.hid hgr
      have his : i ≤ s.size := hrd.le
      have hqs : q ≤ L.length := by have := SAYS.out.1; rw [← HL.out] at this; exact this
      have HQS := Lib.hid hqs
      clear hrd hgr hi c0 c1 c3 c4 f1' f4 hqs
      obtain ⟨c0, c1, c3, c4, f1', f4⟩ := R3.out.cells
      have hltr3 := R3.out.lt
      obtain ⟨T, hval, hrep⟩ := VR.out.tree rfl
      have HVAL := Lib.hid hval
      have HREP := Lib.hid hrep
      have FT := Lib.hid (fin_top L q)
      have F0 := Lib.hid (show fin gStart 0 L = fin (after gStart) q (L.drop q) by have := SAYS.out.2.1 rfl; rw [← HL.out] at this; exact this)
      clear hval hrep
      by_cases hlt : i < s.size
      · have g0 : decide ((i : Int) < (s.size : Int)) = true := by simpa using hlt
        go_wp2_with fail
        refine (fail_any rb s i true true 0 false 4 (by decide) _ R3.out).mono ?_
        rintro e w4 ⟨rfl, hst⟩
        have ST := Lib.hid hst
        clear hst
        go_wp2_with fail
        go_meet
        obtain ⟨f', hr, _, hf⟩ := ST.out.rd
        refine ⟨rfl, f', i, hr, G3.out.trans ST.out.grown, fun e => absurd e (hf rfl), fun _ => ?_⟩
        have h1 := FT.out.2
        rw [HI.out, HLs.out] at h1
        exact F0.out.trans (h1 hlt)
      · have g0 : decide ((i : Int) < (s.size : Int)) = false := by simpa using hlt
        have hie : i = s.size := by omega
        have HIE := Lib.hid hie
        clear hie
        go_wp2_with fail
        go_meet
        refine ⟨rfl, 0, i, R3.out, G3.out, fun _ => ⟨?_, q, T, HVAL.out, by rw [HI.out]; exact HIE.out, HREP.out.frame (fun g hg => KEEP.out _ G3.out g hg.1 hg.2) (fun _ q => q)⟩, fun e => absurd rfl e⟩
        have h1 := FT.out.1
        rw [HI.out, HLs.out] at h1
        exact F0.out.trans (h1 HIE.out)
  case rest =>
    obtain ⟨rfl, f, q', hrd, hgr, hgood, hbad⟩ := hcut
    have R3 := Lib.hid hrd
    have GD := Lib.hid hgood
    have BD := Lib.hid hbad
    have G3 := Lib.hid hgr
    have v4 := (hgr.block r4 (by have := S2.out; have := HS1.out; have := HR4.out; omega) (fun e => by cases e; omega)).trans ((G2.out.block r4 (by have := HS1.out; have := HR4.out; omega) (by simp)).trans Y4.out)
    have v5 := (hgr.block r5 (by have := S2.out; have := HS1.out; have := HR5.out; omega) (fun e => by cases e; omega)).trans ((G2.out.block r5 (by have := HS1.out; have := HR5.out; omega) (by simp)).trans Y5.out)
    have v7 := (hgr.block w1.heap.size (by have := S2.out; omega) (fun e => by cases e; have := HS1.out; have := HRB.out; omega)).trans X7.out
    obtain ⟨r7, hr7⟩ : ∃ r7, r7 = w1.heap.size := ⟨_, rfl⟩
    rw [← hr7] at v7
    have x47 : r4 ≠ r7 := by have := HS1.out; have := HR4.out; omega
    have x57 : r5 ≠ r7 := by have := HS1.out; have := HR5.out; omega
    clear c0 c1 c3 c4 f1' f4
    obtain ⟨c0, c1, c2, c3, c4, c5⟩ := hrd.all
    have a0 := cell_of_row wc r4 0 _ _ _ v4
    have b1 := cell_of_row wc r4 1 _ _ _ v4
    have b2 := cell_of_row wc r4 2 _ _ _ v4
    have b3 := cell_of_row wc r4 3 _ _ _ v4
    have b4 := frozen_of_row wc r4 0 _ _ v4
    have b5 := frozen_of_row wc r4 1 _ _ v4
    have b6 := frozen_of_row wc r4 2 _ _ v4
    have b7 := frozen_of_row wc r4 3 _ _ v4
    have k0 := cell_of_row wc r5 0 _ _ _ v5
    have k1 := cell_of_row wc r5 1 _ _ _ v5
    have k2 := cell_of_row wc r5 2 _ _ _ v5
    have k4 := frozen_of_row wc r5 0 _ _ v5
    have k5 := frozen_of_row wc r5 1 _ _ v5
    have k6 := frozen_of_row wc r5 2 _ _ v5
    have m0 := cell_of_row wc r7 0 _ _ _ v7
    have m1 := cell_of_row wc r7 1 _ _ _ v7
    have m2 := cell_of_row wc r7 2 _ _ _ v7
    have m3 := cell_of_row wc r7 3 _ _ _ v7
    have V4 := Lib.hid v4
    have V5 := Lib.hid v5
    have HR7 := Lib.hid hr7
    have hx : r4 < wc.heap.size := (Array.getElem?_eq_some_iff.1 v4).1
    have hy : r5 < wc.heap.size := (Array.getElem?_eq_some_iff.1 v5).1
    clear hrd hgr hgood hbad v4 v5 v7
    go_wp2_with fail
    rw [← hr7]
    clear hr7
    go_region_held3 (fun w' => w'.cell? ⟨rb, 1, none⟩ = some (.int .i64 ((q' : Nat) : Int)) ∧ w'.cell? ⟨rb, 4, none⟩ = some (.int .i64 f) ∧ w'.cell? ⟨rb, 5, none⟩ = some (.bool false) ∧
        w'.cell? ⟨r7, 0, none⟩ = some (.int .u8 ((kd : Nat) : Int)) ∧ w'.cell? ⟨r7, 1, none⟩ = some (.string tx) ∧ w'.cell? ⟨r7, 2, none⟩ = some (.slice a1 n1 e1) ∧ w'.cell? ⟨r7, 3, none⟩ = some (.slice a2 n2 e2)) (go_keep) (fail)
    all_goals
      go_wp2_with fail
      (try simp only [Exit.inBlock, Exit.then])
      have close : ∀ Z, PF wc Z r4 r5 (.int .u8 ((kd : Nat) : Int)) (.string tx) (.slice a1 n1 e1) (.slice a2 n2 e2) (.int .i64 f) (.int .i64 ((q' : Nat) : Int)) (.bool false) → PaRes w s f q' kd tx (.slice a1 n1 e1) (.slice a2 n2 e2) Z := fun Z hZ => by
        have hsz2 : w1.heap.size ≤ Z.heap.size := by have := hZ.size; have := G3.out.size; have := S2.out; omega
        refine ⟨⟨hZ.os.trans (G3.out.os.trans (G2.out.os.trans B1.out.os)), hZ.tape.trans (G3.out.tape.trans (G2.out.tape.trans B1.out.tape)), hZ.output.trans (G3.out.output.trans (G2.out.output.trans B1.out.output)), by have := B1.out.size; omega, fun g hg => ?_⟩, R3.out.le, ⟨_, _, _, rfl⟩, ⟨_, _, _, rfl⟩, fun e => ?_, fun e => by rw [← HL.out]; exact BD.out e⟩
        · exact (hZ.rest g (by have := HR4.out; omega) (by have := HR5.out; omega)).trans ((G3.out.block g (by have := S2.out; have := HS1.out; omega) (fun e => by cases e; have := HRB.out; omega)).trans ((G2.out.block g (by have := HS1.out; omega) (by simp)).trans (B1.out.block g hg)))
        · obtain ⟨h1, v, T, h2, h3, h4⟩ := GD.out e
          refine ⟨by rw [← HL.out]; exact h1, v, T, h2, by rw [← HL.out]; exact h3, h4.frame (fun g hg => hZ.rest g (by have := HR4.out; have := HSZ.out; omega) (by have := HR5.out; have := HSZ.out; omega)) (fun g hg => ⟨by have := HSZ.out; omega, by omega⟩)⟩
      refine (fun hPF => prs_done (v0 := .int .u8 ((kd : Nat) : Int)) (v1 := .string tx) (v2 := .slice a1 n1 e1) (v3 := .slice a2 n2 e2) (u0 := .int .i64 f) (u1 := .int .i64 ((q' : Nat) : Int)) (u2 := .bool false) (r := r4) (r' := r5) (w := wc) hPF rfl rfl rfl ⟨f, q', kd, tx, _, _, rfl, close _ hPF.drew⟩) ?_
      first
        | with_reducible exact prs_first wc x45 _ _ _ _ _ _ _ _ _ _ _ _ _ _ V4.out V5.out
        | with_reducible exact prs_last wc x45 _ _ _ _ _ _ _ _ _ _ _ _ _ _ V4.out V5.out

end Go.Proofs.YtlgmdcaoogiooaaGreatDoor
