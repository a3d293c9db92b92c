/- The walk of the reader's 'value'. -/
import Derived.Test.YtlgmdcaoogiooaaGreatDoorObjW
import Derived.Handy
namespace Go.Proofs.YtlgmdcaoogiooaaGreatDoor
open Go.RowKit

theorem Nd.toRep {w : World} {B nb kind : Nat} {tx : ByteArray} {nv kv : Value} {names : List ByteArray} {kids : List Tr} (h : Nd w B nb kind tx nv kv names kids) :
    Rep w (fun g => B ≤ g ∧ g < w.heap.size) (.mk kind tx names kids) [.int .u8 ((kind : Nat) : Int), .string tx, nv, kv] := by
  obtain ⟨cells, hk, D, hD, hr⟩ := h.kids
  exact .mk (ownsRow_base h.names (Nat.zero_le _)) (fun g hg => ownsRow_at h.names g hg) (ownsRow_base hk (Nat.zero_le _)) (fun g hg => ownsRow_at hk g hg) (fun i T hi => (hr i T hi).frame (fun _ _ => rfl) (fun g hg => ⟨(hD g hg).1, (hD g hg).2.1⟩))

/-- The node's cells, laid into the result's. -/
theorem val_far (w : World) (r : Nat) (v0 v1 v2 v3 : Value) (g : Nat) (h : g ≠ r) :
    ((((w.setCell ⟨r, 0, none⟩ v0).setCell ⟨r, 1, none⟩ v1).setCell ⟨r, 2, none⟩ v2).setCell ⟨r, 3, none⟩ v3).heap[g]? = w.heap[g]? := by
  rw [sc_far _ _ _ _ _ h, sc_far _ _ _ _ _ h, sc_far _ _ _ _ _ h, sc_far _ _ _ _ _ h]

theorem val_row (w : World) (r : Nat) (a0 a1 a2 a3 v0 v1 v2 v3 : Value) (t : TypeId) (h : w.heap[r]? = some (.cells #[a0, a1, a2, a3] t (0, 0))) :
    ((((w.setCell ⟨r, 0, none⟩ v0).setCell ⟨r, 1, none⟩ v1).setCell ⟨r, 2, none⟩ v2).setCell ⟨r, 3, none⟩ v3).heap[r]? = some (.cells #[v0, v1, v2, v3] t (0, 0)) := by
  have b1 := heap_setCell_same w r 0 _ _ v0 h
  have b2 := heap_setCell_same _ r 1 _ _ v1 b1
  have b3 := heap_setCell_same _ r 2 _ _ v2 b2
  exact heap_setCell_same _ r 3 _ _ v3 b3

theorem val_ret {tmps : Array Value} {Z : World} {r : Nat} {v0 v1 v2 v3 x : Value} (hZ : Z.heap[r]? = some (.cells #[v0, v1, v2, v3] 41 (0, 0))) (hp : tmps.getD 2 undef = .pointer (some ⟨r, 0, none⟩)) (hx : tmps.getD 3 undef = x) :
    (results Tryz.f17 tmps).run Tryz.prog Z = .ok (.tuple #[.agg #[v0, v1, v2, v3], x]) Z := by
  rw [results_cell_tmp (p := 2) (u := 3) (ty := 41) rfl, hp, hx]
  simp only [asAddr, Sem.run_pure, Result.andThen_ok]
  rw [run_loadVar_row Z r 41 41 _ _ _ hZ Tryz.underlying41 rfl (by kernel_rfl)]
  rfl

theorem val_close {w W2 W3 w4 : World} {b nb : Nat} {s : ByteArray} {k : Nat} {f : Int} {op ok : Bool} {q kd : Nat} {tx : ByteArray} {nv kv : Value} {names : List ByteArray} {kids : List Tr} (hbw : b < w.heap.size) (h1 : w.grownBy W2 (some b)) (hr0 : w.heap.size < W2.heap.size) (hnb : nb = W2.heap.size)
    (hW3 : W2.grownBy W3 none) (hW3s : W3.heap.size = nb + 1) (hfr : Fr (nb + 1) b nb W3 w4) (hge : k ≤ q) (hrd : ∃ f', Rd w4 b s q true true f' op ∧ (ok = true → f' = f) ∧ (ok = false → f' ≠ 0))
    (hnd : Nd w4 (nb + 1) nb kd tx nv kv names kids) (hsays : ∀ g, On g → g.st = .bv → Says g s.data.toList k (after g) (ok, q)) (hval : ok = true → Val s k q (.mk kd tx names kids)) :
    VRes w b s k f op ok q kd tx nv kv ((((w4.setCell ⟨w.heap.size, 0, none⟩ (.int .u8 ((kd : Nat) : Int))).setCell ⟨w.heap.size, 1, none⟩ (.string tx)).setCell ⟨w.heap.size, 2, none⟩ nv).setCell ⟨w.heap.size, 3, none⟩ kv) := by
  have hfar := val_far w4 w.heap.size (.int .u8 ((kd : Nat) : Int)) (.string tx) nv kv
  have hsz : ((((w4.setCell ⟨w.heap.size, 0, none⟩ (.int .u8 ((kd : Nat) : Int))).setCell ⟨w.heap.size, 1, none⟩ (.string tx)).setCell ⟨w.heap.size, 2, none⟩ nv).setCell ⟨w.heap.size, 3, none⟩ kv).heap.size = w4.heap.size := by rw [sc_size, sc_size, sc_size, sc_size]
  have hlt := hnd.lt
  have hs4 := hfr.size
  have hg : w.grownBy ((((w4.setCell ⟨w.heap.size, 0, none⟩ (.int .u8 ((kd : Nat) : Int))).setCell ⟨w.heap.size, 1, none⟩ (.string tx)).setCell ⟨w.heap.size, 2, none⟩ nv).setCell ⟨w.heap.size, 3, none⟩ kv) (some b) := by
    refine ⟨?_, ?_, ?_, by rw [hsz]; have := h1.size; omega, fun g hg hne => ?_⟩
    · rw [sc_os, sc_os, sc_os, sc_os]; exact hfr.os.trans (hW3.os.trans h1.os)
    · rw [sc_tape, sc_tape, sc_tape, sc_tape]; exact hfr.tape.trans (hW3.tape.trans h1.tape)
    · rw [sc_output, sc_output, sc_output, sc_output]; exact hfr.output.trans (hW3.output.trans h1.output)
    · have hgb : g ≠ b := fun e => hne (by rw [e])
      exact (hfar g (by omega)).trans ((hfr.block g (by omega) hgb (by omega)).trans ((hW3.block g (by omega) (by simp)).trans (h1.block g hg hne)))
  obtain ⟨f', hr, hf1, hf2⟩ := hrd
  obtain ⟨a1, c1, e1⟩ := ownsRow_slice hnd.names
  obtain ⟨a2, c2, e2⟩ := ownsRow_slice hnd.kids.choose_spec.1
  refine ⟨hge, ⟨hg, f', hr.same (hfar b (by omega)), hf1, hf2⟩, ⟨a1, _, c1, e1⟩, ⟨a2, _, c2, e2⟩, hsays, fun e => ⟨_, hval e, hnd.toRep.frame (fun g hg => hfar g (by omega)) (fun g hg => ⟨by omega, by rw [hsz]; exact hg.2⟩)⟩⟩

theorem step_brace {g : Cfg} (hs : g.st = .bv) (y : Int) : (stepC g y 123).1 = g.push .bse 0 := by
  unfold stepC
  rw [hs]
  rfl
theorem step_bracket {g : Cfg} (hs : g.st = .bv) (y : Int) : (stepC g y 91).1 = g.push .bve 2 := by
  unfold stepC
  rw [hs]
  rfl

set_option maxRecDepth 100000 in
set_option maxHeartbeats 4000000 in
theorem value_step (M : Nat) (hV : ValC M) : ValC (M + 1) := by
  intro b s k f op w hs h hM
  have hlt := h.lt
  have hle := h.le
  have H := Lib.hid h
  have V := Lib.hid hV
  have HM := Lib.hid hM
  clear h hV hM
  obtain ⟨L, hL⟩ : ∃ L, L = s.data.toList := ⟨_, rfl⟩
  have hLs : L.length = s.size := by rw [hL, size_eq]
  have HL := Lib.hid hL
  have HLs := Lib.hid hLs
  clear hL hLs
  obtain ⟨Wa, hWa⟩ : ∃ Wa, Wa = w.alloc (.cells #[.int .u8 0, .string ⟨#[]⟩, .slice none 0 0, .slice none 0 0] 41) := ⟨_, rfl⟩
  have RA := Lib.hid (show Rd Wa b s k true true f op by rw [hWa]; exact H.out.same (Below.heap_alloc w _ b hlt))
  have GA := Lib.hid (show w.grownBy Wa (some b) by rw [hWa]; exact grown_alloc (grown_refl w _) _)
  have ZA := Lib.hid (show Wa.heap[w.heap.size]? = some (.cells #[.int .u8 0, .string ⟨#[]⟩, .slice none 0 0, .slice none 0 0] 41 (0, 0)) by rw [hWa]; exact heap_alloc_new w _)
  have hszA : Wa.heap.size = w.heap.size + 1 := by rw [hWa]; simp
  have HSA := Lib.hid hszA
  have HWA := Lib.hid hWa
  clear hWa hszA
  go_enter Tryz.func17, Tryz.ntmps17
  go_wp2_with fail
  rw [← HWA.out]
  refine (space_any b s k true true f op _ (by omega) RA.out).mono ?_
  rintro e w1 ⟨rfl, hrd, hgr⟩
  rw [← HL.out] at hrd
  obtain ⟨i, hi⟩ : ∃ i, mSpace L k = i := ⟨_, rfl⟩
  rw [hi] at hrd
  have HI := Lib.hid hi
  have hki : k ≤ i := by rw [← hi]; exact mSpace_ge L k
  have RD := Lib.hid hrd
  have G1 := Lib.hid (GA.out.trans hgr)
  have Z1 := Lib.hid ((hgr.block w.heap.size (by have := HSA.out; omega) (fun e => by cases e; omega)).trans ZA.out)
  have S1 := Lib.hid (show w.heap.size < w1.heap.size by have := HSA.out; have := hgr.size; omega)
  clear hrd hgr hi
  go_wp2_with fail
  refine (see_any b s i true true f op _ RD.out).mono ?_
  rintro e w2 ⟨rfl, n, rfl⟩
  rw [← HL.out]
  obtain ⟨kd, hkd⟩ : ∃ kd : Nat, seeB L i = (kd : Int) := by
    unfold seeB
    split
    · exact ⟨_, rfl⟩
    · exact ⟨0, rfl⟩
  rw [hkd]
  have HKD := Lib.hid hkd
  clear hkd
  have RD2 := Lib.hid (RD.out.drewN n)
  have G2 := Lib.hid (G1.out.trans (grown_drewN (grown_refl w1 (some b)) n))
  have Z2 := Lib.hid (show (w1.drewN n).heap[w.heap.size]? = _ from Z1.out)
  have S2 := Lib.hid (show w.heap.size < (w1.drewN n).heap.size from S1.out)
  obtain ⟨w2, hw2⟩ : ∃ w2, w2 = w1.drewN n := ⟨_, rfl⟩
  rw [← hw2] at RD2 G2 Z2 S2 ⊢
  clear hw2
  have his : i ≤ s.size := RD2.out.le
  obtain ⟨W3, hW3⟩ : ∃ W3, W3 = w2.alloc (.cells #[.int .u8 (kd : Int), .string ⟨#[]⟩, .slice none 0 0, .slice none 0 0] 41) := ⟨_, rfl⟩
  have R3 := Lib.hid (show Rd W3 b s i true true f op by rw [hW3]; exact RD2.out.same (Below.heap_alloc w2 _ b RD2.out.lt))
  have G3 := Lib.hid (show w2.grownBy W3 none by rw [hW3]; exact grown_alloc (grown_refl w2 _) _)
  have hsz3 : W3.heap.size = w2.heap.size + 1 := by rw [hW3]; simp
  have N3 := Lib.hid (show Nd W3 (w2.heap.size + 1) w2.heap.size kd ⟨#[]⟩ (.slice none 0 0) (.slice none 0 0) [] [] from
    ⟨by rw [hW3]; exact heap_alloc_new w2 _, Nat.lt_succ_self _, Nat.le_of_eq hsz3.symm, ⟨rfl, .inl ⟨rfl, rfl⟩⟩, [], ⟨rfl, .inl ⟨rfl, rfl⟩⟩, fun _ => False, fun g hg => hg.elim, fun i' T hi' => by simp at hi'⟩)
  have Z3 := Lib.hid ((show W3.heap[w.heap.size]? = w2.heap[w.heap.size]? by rw [hW3]; exact Below.heap_alloc w2 _ _ S2.out).trans Z2.out)
  have HS3 := Lib.hid hsz3
  have HW3 := Lib.hid hW3
  have hbn : b < w2.heap.size := RD2.out.lt
  have HSP := Lib.hid (show ∀ g, On g → g.st = .bv → fin g k (L.drop k) = fin g i (L.drop i) from fun g hg hgs => by have := space_bv hg hgs L k; rw [HI.out] at this; exact this)
  clear hW3 hsz3
  obtain ⟨nb, hnb⟩ : ∃ nb, nb = w2.heap.size := ⟨_, rfl⟩
  have HNB := Lib.hid hnb
  rw [← hnb] at N3 hbn
  go_upto_region 3 with fail
  rw [← HW3.out, ← hnb]
  clear hnb
  obtain ⟨d0, d1, d2, d3, g0, g1, g2, g3⟩ := N3.out.cells
  obtain ⟨c0, c1, c3, c4, f1, f4⟩ := R3.out.cells
  have hlt3 := R3.out.lt
  have hln3 := N3.out.lt
  -- what the end of each way wants of the result's cells
  have HZ := Lib.hid (show ∀ w4, Fr (nb + 1) b nb W3 w4 → w4.heap[w.heap.size]? = some (.cells #[.int .u8 0, .string ⟨#[]⟩, .slice none 0 0, .slice none 0 0] 41 (0, 0)) from fun w4 hfr =>
    (hfr.block w.heap.size (by have := HNB.out; have := S2.out; omega) (by omega) (by have := HNB.out; have := S2.out; omega)).trans Z3.out)
  by_cases h123 : kd = 123
  · have hi123 : L[i]? = some 123 := by
      obtain ⟨d, h1, h2⟩ := seeB_get (c := 123) (HKD.out.trans (by rw [h123])) (by decide)
      rw [h1, (UInt8.toNat_inj.1 h2 : d = 123)]
    have HI123 := Lib.hid hi123
    have hil : i < s.size := by rw [← HLs.out]; exact (List.getElem?_eq_some_iff.1 hi123).1
    clear hi123
    subst h123
    have hset := R3.out.setAt (i + 1) hil
    have hset' : Rd (W3.setCell ⟨b, 1, none⟩ (.int .i64 ((i : Int) + 1))) b s (i + 1) true true f op := by simpa using hset
    have RS := Lib.hid hset'
    have NS := Lib.hid (N3.out.grown (grown_set (grown_refl W3 (some b)) 1 (.int .i64 ((i : Int) + 1))) hbn)
    clear hset hset'
    go_wp2_with fail
    refine (object_any M V.out (nb + 1) b nb s (i + 1) f op 123 ⟨#[]⟩ _ hs hbn RS.out NS.out (by have := HM.out; omega)).mono ?_
    rintro e w4 ⟨ok, q, rfl, hob⟩
    have OB := Lib.hid hob
    have FR := Lib.hid ((Fr.setR (B := nb + 1) (b := b) (nb := nb) W3 1 (.int .i64 ((i : Int) + 1))).trans hob.fr)
    obtain ⟨nv, kv, names, kids, hnd, hok⟩ := hob.nd
    have ND := Lib.hid hnd
    have OK := Lib.hid hok
    clear d0 d1 d2 d3 g0 g1 g2 g3 hob
    obtain ⟨a1, e1, rfl⟩ := ownsRow_slice hnd.names
    obtain ⟨a2, e2, rfl⟩ := ownsRow_slice hnd.kids.choose_spec.1
    obtain ⟨d0, d1, d2, d3, _, _, _, _⟩ := hnd.cells
    have z := HZ.out w4 FR.out
    have z0 := cell_of_row w4 w.heap.size 0 _ _ _ z
    have z1 := cell_of_row w4 w.heap.size 1 _ _ _ z
    have z2 := cell_of_row w4 w.heap.size 2 _ _ _ z
    have z3 := cell_of_row w4 w.heap.size 3 _ _ _ z
    have y0 := frozen_of_row w4 w.heap.size 0 _ _ z
    have y1 := frozen_of_row w4 w.heap.size 1 _ _ z
    have y2 := frozen_of_row w4 w.heap.size 2 _ _ z
    have y3 := frozen_of_row w4 w.heap.size 3 _ _ z
    have HZR := Lib.hid z
    clear hnd hok z
    go_wp2_with fail
    (try simp only [Exit.inBlock, Exit.then])
    refine bodyPost_ret (val_ret (val_row _ _ _ _ _ _ _ _ _ _ _ HZR.out) rfl rfl) rfl ?_
    refine ⟨ok, q, 123, ⟨#[]⟩, .slice a1 names.length e1, .slice a2 kids.length e2, by go_num, ?_⟩
    exact val_close hlt G2.out S2.out HNB.out G3.out (by have := HS3.out; have := HNB.out; omega) FR.out (by have := OB.out.ge; omega) OB.out.rd ND.out (fun g hg hgs => by
      rw [← HL.out]
      refine Says.thru ((HSP.out g hg hgs).trans (fin_yes hg HI123.out (step_brace hgs _))) ?_
      rw [HL.out]
      exact OB.out.says g hg) (fun e => by
      rcases OK.out e with ⟨q1, q2, q3, q4⟩ | ⟨q1, q2⟩
      · rw [q2, q3, q4]
        exact .obj0 (by rw [← HL.out, HI.out]; exact HI123.out) (by rw [← HL.out, HI.out]) q1
      · exact .obj (by rw [← HL.out, HI.out]; exact HI123.out) (by rw [← HL.out, HI.out]) q2)
  have n123 : ((kd : Int) == 123) = false := by rw [beq_eq_false_iff_ne]; omega
  by_cases h91 : kd = 91
  · have hi91 : L[i]? = some 91 := by
      obtain ⟨d, h1, h2⟩ := seeB_get (c := 91) (HKD.out.trans (by rw [h91])) (by decide)
      rw [h1, (UInt8.toNat_inj.1 h2 : d = 91)]
    have HI91 := Lib.hid hi91
    have hil : i < s.size := by rw [← HLs.out]; exact (List.getElem?_eq_some_iff.1 hi91).1
    clear hi91
    subst h91
    have hset := R3.out.setAt (i + 1) hil
    have hset' : Rd (W3.setCell ⟨b, 1, none⟩ (.int .i64 ((i : Int) + 1))) b s (i + 1) true true f op := by simpa using hset
    have RS := Lib.hid hset'
    have NS := Lib.hid (N3.out.grown (grown_set (grown_refl W3 (some b)) 1 (.int .i64 ((i : Int) + 1))) hbn)
    clear hset hset'
    go_wp2_with fail
    refine (array_any M V.out (nb + 1) b nb s (i + 1) f op 91 ⟨#[]⟩ _ hs hbn RS.out NS.out (by have := HM.out; omega)).mono ?_
    rintro e w4 ⟨ok, q, rfl, hab⟩
    have AB := Lib.hid hab
    have FR := Lib.hid ((Fr.setR (B := nb + 1) (b := b) (nb := nb) W3 1 (.int .i64 ((i : Int) + 1))).trans hab.fr)
    obtain ⟨nv, kv, names, kids, hnd, hok⟩ := hab.nd
    have ND := Lib.hid hnd
    have OK := Lib.hid hok
    clear d0 d1 d2 d3 g0 g1 g2 g3 hab
    obtain ⟨a1, e1, rfl⟩ := ownsRow_slice hnd.names
    obtain ⟨a2, e2, rfl⟩ := ownsRow_slice hnd.kids.choose_spec.1
    obtain ⟨d0, d1, d2, d3, _, _, _, _⟩ := hnd.cells
    have z := HZ.out w4 FR.out
    have z0 := cell_of_row w4 w.heap.size 0 _ _ _ z
    have z1 := cell_of_row w4 w.heap.size 1 _ _ _ z
    have z2 := cell_of_row w4 w.heap.size 2 _ _ _ z
    have z3 := cell_of_row w4 w.heap.size 3 _ _ _ z
    have y0 := frozen_of_row w4 w.heap.size 0 _ _ z
    have y1 := frozen_of_row w4 w.heap.size 1 _ _ z
    have y2 := frozen_of_row w4 w.heap.size 2 _ _ z
    have y3 := frozen_of_row w4 w.heap.size 3 _ _ z
    have HZR := Lib.hid z
    clear hnd hok z
    go_wp2_with fail
    (try simp only [Exit.inBlock, Exit.then])
    refine bodyPost_ret (val_ret (val_row _ _ _ _ _ _ _ _ _ _ _ HZR.out) rfl rfl) rfl ?_
    refine ⟨ok, q, 91, ⟨#[]⟩, .slice a1 names.length e1, .slice a2 kids.length e2, by go_num, ?_⟩
    exact val_close hlt G2.out S2.out HNB.out G3.out (by have := HS3.out; have := HNB.out; omega) FR.out (by have := AB.out.ge; omega) AB.out.rd ND.out (fun g hg hgs => by
      rw [← HL.out]
      refine Says.thru ((HSP.out g hg hgs).trans (fin_yes hg HI91.out (step_bracket hgs _))) ?_
      rw [HL.out]
      exact AB.out.says g hg) (fun e => by
      obtain ⟨q0, q⟩ := OK.out e
      rcases q with ⟨q1, q2, q4⟩ | ⟨q1, q2⟩
      · rw [q0, q2, q4]
        exact .arr0 (by rw [← HL.out, HI.out]; exact HI91.out) (by rw [← HL.out, HI.out]) q1
      · rw [q0]
        exact .arr (by rw [← HL.out, HI.out]; exact HI91.out) (by rw [← HL.out, HI.out]) q1 q2)
  have n91 : ((kd : Int) == 91) = false := by rw [beq_eq_false_iff_ne]; omega
  have N123 := Lib.hid h123
  have N91 := Lib.hid h91
  clear h123 h91
  go_wp2_with fail
  refine (scalar_any (nb + 1) b nb s i f op kd ⟨#[]⟩ (.slice none 0 0) (.slice none 0 0) [] [] _ hs hbn R3.out N3.out (by rw [← HL.out]; exact HKD.out.symm)).mono ?_
  rintro e w4 ⟨ok, q, rfl, hsc⟩
  have SC := Lib.hid hsc
  have FR := Lib.hid hsc.fr
  obtain ⟨kd', tx', hnd, hok⟩ := hsc.nd
  have ND := Lib.hid hnd
  have OK := Lib.hid hok
  clear d0 d1 d2 d3 g0 g1 g2 g3 hsc
  obtain ⟨d0, d1, d2, d3, _, _, _, _⟩ := hnd.cells
  have z := HZ.out w4 FR.out
  have z0 := cell_of_row w4 w.heap.size 0 _ _ _ z
  have z1 := cell_of_row w4 w.heap.size 1 _ _ _ z
  have z2 := cell_of_row w4 w.heap.size 2 _ _ _ z
  have z3 := cell_of_row w4 w.heap.size 3 _ _ _ z
  have y0 := frozen_of_row w4 w.heap.size 0 _ _ z
  have y1 := frozen_of_row w4 w.heap.size 1 _ _ z
  have y2 := frozen_of_row w4 w.heap.size 2 _ _ z
  have y3 := frozen_of_row w4 w.heap.size 3 _ _ z
  have HZR := Lib.hid z
  clear hnd hok z
  go_wp2_with fail
  (try simp only [Exit.inBlock, Exit.then])
  refine bodyPost_ret (val_ret (val_row _ _ _ _ _ _ _ _ _ _ _ HZR.out) rfl rfl) rfl ?_
  refine ⟨ok, q, kd', tx', .slice none 0 0, .slice none 0 0, by go_num, ?_⟩
  exact val_close hlt G2.out S2.out HNB.out G3.out (by have := HS3.out; have := HNB.out; omega) FR.out (by have := SC.out.ge; omega) SC.out.rd ND.out (fun g hg hgs => by
      have hsr := says_scalar hg hgs (l := s.data.toList) (j := i) (by rw [size_eq]; exact his) (fun c hc => by have := not_sp_at L k c; rw [HI.out] at this; exact this (by rw [HL.out]; exact hc)) (by rw [← HL.out, HKD.out]; have := N123.out; have := N91.out; omega) SC.out.rel
      rw [← HL.out] at hsr ⊢
      exact Says.thru (HSP.out g hg hgs) hsr) (fun e => by
      obtain ⟨q1, q2⟩ := OK.out e
      rw [q2]
      have hi := HI.out
      rw [HL.out] at hi
      subst hi
      exact .leaf q1)

theorem value_any : ∀ M, ValC M
  | 0 => fun _ _ _ _ _ _ _ _ h => absurd h (Nat.not_lt_zero _)
  | M + 1 => value_step M (value_any M)

end Go.Proofs.YtlgmdcaoogiooaaGreatDoor
