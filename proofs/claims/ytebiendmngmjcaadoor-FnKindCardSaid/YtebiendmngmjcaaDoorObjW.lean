/- The walk of the reader's 'object', over that of 'value'. -/
import Derived.Test.YtebiendmngmjcaaDoorArrW
namespace Go.Proofs.YtebiendmngmjcaaDoor
open Go.RowKit

attribute [local go_sem ↓] Go.wp_at_zero Go.wp_at_succ

theorem on_start : On ⟨.bv, false, [], none⟩ := ⟨⟨fun e => (by cases e), fun e => (by cases e), fun e => absurd rfl e, fun e => (by cases e)⟩, rfl, by simp⟩

def ObjOk (s : ByteArray) (k q : Nat) (names : List ByteArray) (kids : List Tr) : Prop :=
  (s.data.toList[mSpace s.data.toList k]? = some 125 ∧ q = mSpace s.data.toList k + 1 ∧ names = [] ∧ kids = []) ∨ (s.data.toList[mSpace s.data.toList k]? ≠ some 125 ∧ Mems s (mSpace s.data.toList k) q names kids)

/-- What 'object' leaves. -/
structure ObRes (w : World) (B b nb : Nat) (s : ByteArray) (k : Nat) (f : Int) (op : Bool) (kind : Nat) (tx : ByteArray) (ok : Bool) (q : Nat) (w' : World) : Prop where
  ge : k ≤ q
  fr : Fr B b nb w w'
  rd : ∃ f', Rd w' b s q true true f' op ∧ (ok = true → f' = f) ∧ (ok = false → f' ≠ 0)
  nd : ∃ nv kv names kids, Nd w' B nb kind tx nv kv names kids ∧ (ok = true → ObjOk s k q names kids)
  says : ∀ g, On g → Says (g.push .bse 0) s.data.toList k (after g) (ok, q)

/-- The loop of 'object', ahead of a name. -/
structure ObI (w : World) (B b nb : Nat) (s : ByteArray) (k : Nat) (f : Int) (op : Bool) (kind : Nat) (tx : ByteArray) (j : Nat) (nv kv : Value) (names : List ByteArray) (kids : List Tr) (w' : World) : Prop where
  ge : k ≤ j
  le : kids.length ≤ j
  len : names.length = kids.length
  fr : Fr B b nb w w'
  rd : Rd w' b s j true true f op
  nd : Nd w' B nb kind tx nv kv names kids
  nosp : ∀ c, s.data.toList[j]? = some c → ¬ isSp c.toNat
  says : ∀ g, On g → fin (g.push .bse 0) k (s.data.toList.drop k) = fin (g.push .bs 0) j (s.data.toList.drop j)
  mems : ∀ q ns ks, Mems s j q ns ks → Mems s (mSpace s.data.toList k) q (names ++ ns) (kids ++ ks)

set_option maxRecDepth 100000 in
set_option maxHeartbeats 4000000 in
theorem object_any (M : Nat) (hV : ValC M) (B b nb : Nat) (s : ByteArray) (k : Nat) (f : Int) (op : Bool) (kind : Nat) (tx : ByteArray) (w : World) (hs : s.size ≤ 100000000000) (hb : b < nb)
    (h : Rd w b s k true true f op) (hn : Nd w B nb kind tx (.slice none 0 0) (.slice none 0 0) [] []) (hM : s.size - k < M) :
    Calls Tryd.prog 13 #[.pointer (some ⟨b, 0, none⟩), .pointer (some ⟨nb, 0, none⟩)] w fun e w' => ∃ ok q, e = .returned (.bool ok) ∧ ObRes w B b nb s k f op kind tx ok q w' := by
  have hlt := h.lt
  have hle := h.le
  have hlt2 := hn.lt
  have H := Lib.hid h
  have N := Lib.hid hn
  have V := Lib.hid hV
  have HM := Lib.hid hM
  have hBle := hn.le
  have hlo := hn.lo
  clear h hn hV hM
  obtain ⟨L, hL⟩ : ∃ L, L = s.data.toList := ⟨_, rfl⟩
  have hLs : L.length = s.size := by rw [hL, size_eq]
  have HL := Lib.hid hL
  have HLs := Lib.hid hLs
  clear hL hLs
  go_enter Tryd.func13, Tryd.ntmps13
  go_wp2_with fail
  refine (space_any b s k true true f op _ (by omega) H.out).mono ?_
  rintro e w1 ⟨rfl, hrd, hgr⟩
  rw [← HL.out] at hrd
  obtain ⟨i, hi⟩ : ∃ i, mSpace L k = i := ⟨_, rfl⟩
  rw [hi] at hrd
  have HI := Lib.hid hi
  have hki : k ≤ i := by rw [← hi]; exact mSpace_ge L k
  have RD := Lib.hid hrd
  have ND := Lib.hid (N.out.grown hgr hb)
  have FR := Lib.hid (Fr.grown (nb := nb) hBle hgr)
  clear hrd hgr hi
  go_wp2_with fail
  refine (see_any b s i true true f op _ RD.out).mono ?_
  rintro e w2 ⟨rfl, n, rfl⟩
  rw [← HL.out]
  obtain ⟨c, hc⟩ : ∃ c, seeB L i = c := ⟨_, rfl⟩
  rw [hc]
  have HC := Lib.hid hc
  clear hc
  have RD2 := Lib.hid (RD.out.drewN n)
  have ND2 := Lib.hid (ND.out.grown (grown_drewN (grown_refl w1 (some b)) n) hb)
  have FR2 := Lib.hid (FR.out.trans (Fr.grown (nb := nb) ND.out.le (grown_drewN (grown_refl w1 (some b)) n)))
  obtain ⟨w2, hw2⟩ : ∃ w2, w2 = w1.drewN n := ⟨_, rfl⟩
  rw [← hw2] at RD2 ND2 FR2 ⊢
  clear hw2
  have hki2 : i ≤ s.size := RD2.out.le
  obtain ⟨c0, c1, c3, c4, f1, f4⟩ := RD2.out.cells
  have hltr := RD2.out.lt
  by_cases h125 : c = 125
  · have hi125 : L[i]? = some 125 := by
      obtain ⟨d, h1, h2⟩ := seeB_get (c := 125) (HC.out.trans h125) (by decide)
      rw [h1, (UInt8.toNat_inj.1 h2 : d = 125)]
    have HI125 := Lib.hid hi125
    have hil : i < s.size := by rw [← HLs.out]; exact (List.getElem?_eq_some_iff.1 hi125).1
    clear hi125
    subst h125
    have hset := RD2.out.setAt (i + 1) hil
    have hset' : Rd (w2.setCell ⟨b, 1, none⟩ (.int .i64 ((i : Int) + 1))) b s (i + 1) true true f op := by simpa using hset
    have RS := Lib.hid hset'
    have NS := Lib.hid (ND2.out.grown (grown_set (grown_refl w2 (some b)) 1 (.int .i64 ((i : Int) + 1))) hb)
    have FrS := Lib.hid (FR2.out.trans (Fr.setR w2 1 (.int .i64 ((i : Int) + 1))))
    clear hset hset'
    go_wp2_with fail
    go_ret
    refine ⟨true, i + 1, rfl, by omega, FrS.out, ⟨f, RS.out, fun _ => rfl, fun e => by cases e⟩, ⟨_, _, _, _, NS.out, fun _ => .inl ⟨by rw [← HL.out, HI.out]; exact HI125.out, by rw [← HL.out, HI.out], rfl, rfl⟩⟩, fun g hg => ?_⟩
    rw [← HL.out]
    have e1 := space_bse hg L k
    rw [HI.out] at e1
    have hB : On (g.push .bse 0) := hg.push (fun e => rfl) (by simp)
    exact ⟨by rw [HLs.out]; exact hil, fun _ => e1.trans (fin_yes hB HI125.out (step_bse_shut g _)), fun e => by cases e⟩
  · have n125 : (c == 125) = false := by rw [beq_eq_false_iff_ne]; exact h125
    have hno : ∀ d, L[i]? = some d → ¬ isSp d.toNat ∧ d ≠ 125 := fun d hd => ⟨by have := not_sp_at L k d; rw [HI.out] at this; exact this hd, fun e => h125 (by rw [← HC.out, seeB_some hd, e]; rfl)⟩
    have HNO := Lib.hid hno
    clear hno h125
    go_wp2_with fail
    go_loopw [5, 6] (fun _ _ wr => ∃ j nv kv names kids, ObI w B b nb s k f op kind tx j nv kv names kids wr) (fun _ _ wr => s.size - atOf wr b)
    case atStart =>
      refine ⟨i, _, _, [], [], hki, Nat.zero_le _, rfl, FR2.out, RD2.out, ND2.out, fun c hc => (HNO.out c (by rw [HL.out]; exact hc)).1, fun g hg => ?_, fun q ns ks hq => ?_⟩
      · rw [← HL.out]
        have e1 := space_bse hg L k
        rw [HI.out] at e1
        exact e1.trans (fin_bse hg L i HNO.out)
      · rw [← HL.out, HI.out]
        exact hq
    case round =>
      obtain ⟨j, nv0, kv, names0, kids, hI⟩ := hrel
      have I := Lib.hid hI
      have hjs := hI.rd.le
      have hkj := hI.ge
      have hat := Lib.hid hI.rd.atOf
      clear hI c0 c1 c3 c4 f1 f4
      go_wp2_with fail
      refine (name_any B b nb s j f op kind tx nv0 kv names0 kids _ hs (by have := I.out.le; have := I.out.len; omega) hb I.out.rd I.out.nd).mono ?_
      rintro e wn ⟨okn, p, rfl, hnm⟩
      have NM := Lib.hid hnm
      have hsn := fun (g : Cfg) (hg : On g) => says_name hg (l := s.data.toList) (j := j) (by rw [size_eq]; exact hjs) I.out.nosp hnm.rel
      have HSN := Lib.hid hsn
      have hjp : j ≤ p := by
        exact (hsn ⟨.bv, false, [], none⟩ on_start).2
      clear hnm hsn
      cases okn with
      | false =>
        obtain ⟨f0, hr0, hf0, hf00⟩ := NM.out.rd
        obtain ⟨nv1, names1, hn1, _⟩ := NM.out.nd
        have R0 := Lib.hid hr0
        have F00 := Lib.hid hf00
        have N1 := Lib.hid hn1
        clear hr0 hf0 hf00 hn1
        go_wp2_with fail
        go_ret
        refine ⟨false, p, rfl, by omega, I.out.fr.trans NM.out.fr, ⟨f0, R0.out, (fun e => by cases e), fun _ => F00.out (by trivial)⟩, ⟨_, _, _, _, N1.out, fun e => by cases e⟩, fun g hg => ?_⟩
        have h1 := (HSN.out g hg).1
        exact Says.thru (I.out.says g hg) ⟨h1.1, fun e => (by cases e), h1.2.2⟩
      | true =>
      obtain ⟨f0, hr0, hf0, _⟩ := NM.out.rd
      obtain rfl := hf0 rfl
      obtain ⟨nv, names, hn1, hnn⟩ := NM.out.nd
      obtain ⟨nm, rfl, hnok⟩ := hnn rfl
      have R0 := Lib.hid hr0
      have N1 := Lib.hid hn1
      have NOK := Lib.hid hnok
      have FN := Lib.hid (I.out.fr.trans NM.out.fr)
      have hps := hr0.le
      clear hr0 hf0 hn1 hnn hnok
      go_wp2_with fail
      refine (V.out b s p f0 op _ hs R0.out (by have := HM.out; omega)).mono ?_
      rintro e w3 ⟨ok, q, kd, ktx, knv, kkv, rfl, hv⟩
      obtain ⟨a1, n1, c1', rfl⟩ := hv.nl
      obtain ⟨a2, n2, c2', rfl⟩ := hv.kl
      have VR := Lib.hid hv
      have hjq := hv.ge
      have I3 := Lib.hid (N1.out.grown hv.st.grown hb)
      have FR3 := Lib.hid (FN.out.trans (Fr.grown (nb := nb) N1.out.le hv.st.grown))
      have hB3 := I3.out.le
      clear hv
      have hq1 := VR.out.st.rd
      obtain ⟨f', hrd3, hf1, hf2⟩ := hq1
      have R3 := Lib.hid hrd3
      have F1 := Lib.hid hf1
      have F2 := Lib.hid hf2
      have hqs := hrd3.le
      have hlt3 := hrd3.lt
      have hln3 := I3.out.lt
      clear hrd3 hf1 hf2
      cases ok with
      | false =>
        go_wp2_with fail
        go_ret
        refine ⟨false, q, rfl, by omega, FR3.out.trans ((Fr.refl B b nb w3).alloc hB3 _), ⟨f', R3.out.same (Below.heap_alloc w3 _ b hlt3), (fun e => by cases e), fun _ => F2.out trivial⟩, ⟨_, _, _, _, I3.out.alloc _, fun e => by cases e⟩, fun g hg => ?_⟩
        have hP : On (g.push .bv 1) := hg.push (fun e => by cases e) (by simp)
        have h1 := VR.out.says _ hP rfl
        refine Says.thru ((I.out.says g hg).trans ((HSN.out g hg).1.2.1 rfl)) ⟨h1.1, fun e => (by cases e), h1.2.2⟩
      | true =>
        obtain rfl := F1.out rfl
        obtain ⟨ka, kc, rfl⟩ := ownsRow_slice I3.out.kids.choose_spec.1
        obtain ⟨cells, hcells, D, hD, hrep⟩ := I3.out.kids
        have CELLS := Lib.hid hcells
        have HD := Lib.hid hD
        have HREP := Lib.hid hrep
        clear hcells hD hrep
        go_upto_region 10 with fail
        obtain ⟨W, hW⟩ : ∃ W, W = w3.alloc (.cells #[.int .u8 ((kd : Nat) : Int), .string ktx, .slice a1 n1 c1', .slice a2 n2 c2'] 25) := ⟨_, rfl⟩
        rw [← hW]
        have hWkb : W.heap[w3.heap.size]? = some (.cells #[.int .u8 ((kd : Nat) : Int), .string ktx, .slice a1 n1 c1', .slice a2 n2 c2'] 25 (0, 0)) := by rw [hW]; exact heap_alloc_new w3 _
        have hWsz : W.heap.size = w3.heap.size + 1 := by rw [hW]; simp
        have hGW : w3.grownBy W none := by rw [hW]; exact grown_alloc (grown_refl w3 none) _
        have NDW := Lib.hid (show Nd W B nb kind tx nv (.slice ka kids.length kc) (names0 ++ [nm]) kids by rw [hW]; exact I3.out.alloc _)
        have CELLW := Lib.hid (ownsRow_same (w' := W) CELLS.out (fun g hg => hGW.block g (ownsRow_at CELLS.out g hg).2 (by simp)))
        have HGW := Lib.hid hGW
        have HWKB := Lib.hid hWkb
        have HWSZ := Lib.hid hWsz
        have e0 := cell_of_row W w3.heap.size 0 _ _ _ hWkb
        have e1 := cell_of_row W w3.heap.size 1 _ _ _ hWkb
        have e2 := cell_of_row W w3.heap.size 2 _ _ _ hWkb
        have e3 := cell_of_row W w3.heap.size 3 _ _ _ hWkb
        obtain ⟨_, _, _, d3, _, _, _, g3⟩ := NDW.out.cells
        obtain ⟨kb, hkb⟩ : ∃ kb, kb = w3.heap.size := ⟨_, rfl⟩
        rw [← hkb] at e0 e1 e2 e3 ⊢
        have HKB := Lib.hid hkb
        obtain ⟨T, hval, hrepT⟩ := VR.out.tree rfl
        have HVAL := Lib.hid hval
        have HREPT := Lib.hid (hrepT.frame (w' := W) (D' := fun g => wn.heap.size ≤ g ∧ g < w3.heap.size) (fun g hg => hGW.block g hg.2 (by simp)) (fun _ q => q))
        have HD0 := Lib.hid (show ∀ g, (wn.heap.size ≤ g ∧ g < w3.heap.size) → B ≤ g ∧ g < W.heap.size ∧ nv.ownBlock ≠ some g ∧ (Value.slice ka kids.length kc).ownBlock ≠ some g from fun g hg =>
          ⟨by have := N1.out.le; omega, by omega, fun e => by have := (ownsRow_at N1.out.names g e).2; omega, fun e => by have := (ownsRow_at N1.out.kids.choose_spec.1 g e).2; omega⟩)
        have HDW := Lib.hid (show ∀ g, D g → B ≤ g ∧ g < W.heap.size ∧ nv.ownBlock ≠ some g ∧ (Value.slice ka kids.length kc).ownBlock ≠ some g from fun g hg => by obtain ⟨q1, q2, q3⟩ := HD.out g hg; exact ⟨q1, by omega, q3⟩)
        have HREPW := Lib.hid (fun i' T' (hi' : kids[i']? = some T') => (HREP.out i' T' hi').frame (w' := W) (D' := D) (fun g hg => hGW.block g (HD.out g hg).2.1 (by simp)) (fun _ q => q))
        have RDW := Lib.hid (R3.out.same (hGW.block b hlt3 (by simp)))
        have FRW := Lib.hid (FR3.out.trans (Fr.row (B := B) (b := b) (nb := nb) hB3 hGW (fun g e => by cases e)))
        have hbW : b < W.heap.size := by omega
        clear hval hrepT
        clear hW hWkb hWsz hGW hkb
        go_cut [6] from 19 to 57 (fun s6 wx => s6 = .bool true ∧ Rd wx b s q true true f' op ∧ Fr B b nb w wx ∧ ∃ kv' T, Nd wx B nb kind tx nv kv' (names0 ++ [nm]) (kids ++ [T]) ∧ Val s p q T)
        case first =>
          obtain ⟨i0, hi0, hz0, hz1, hz2⟩ := info_parts nodeInfo
          have h63 : kids.length + 1 ≤ maxLen := by have := I.out.le; unfold maxLen; omega
          have hbyt : (kids.length + 1) * 72 ≤ 140737488355328 := by have := I.out.le; omega
          have hBW := NDW.out.le
          have hlnW := NDW.out.lt
          have hix : ((kids.length : Nat) : Int) < ((kids.length : Nat) : Int) + 1 := by omega
          have hkvb : ∀ g, (Value.slice ka kids.length kc).ownBlock = some g → B ≤ g := fun g hg => (ownsRow_at CELLW.out g hg).1
          have hne1 : some nb ≠ (Value.slice ka kids.length kc).ownBlock := fun e => by have := hkvb nb e.symm; omega
          have hne2 : some b ≠ (Value.slice ka kids.length kc).ownBlock := fun e => by have := hkvb b e.symm; omega
          have HKVB := Lib.hid hkvb
          have hcl : cells.length = kids.length * 4 := CELLW.out.1
          have HCL := Lib.hid hcl
          have x0 : kb < W.heap.size := World.block_lt_of_cell? W _ e0
          have x2 : ¬ W.heap.size = kb := by omega
          have x3 : ¬ W.heap.size = nb := by omega
          clear hkvb hcl
          go_region_law (first | (
            refine step_append_lies _ (by rfl) _ _ _ (by rfl) B 25 i0 _ 4 72 Tryd.underlying23 hi0 hz0 hz1 hz2 rfl (by omega) (.slice ka kids.length kc) kids.length cells (by rfl) ((ownsRow_same CELLW.out (fun g hg => Below.heap_alloc _ _ g (ownsRow_at CELLW.out g hg).2)).drew)
              ⟨W.heap.size, 0, none⟩ 1 1 [.int .u8 0, .string ⟨#[]⟩, .slice none 0 0, .slice none 0 0] (by rfl) (by rfl) (World.news_of_block (cs := #[.int .u8 0, .string ⟨#[]⟩, .slice none 0 0, .slice none 0 0]) (t := 25) (fr := (0, 0)) (heap_alloc_new W _)) (by simp [Value.oneCell'])
              (by omega) h63 hbyt (by simp; omega) (W.heap.size + 1) (by simp) ?_; intro gg cap w4 hown hgrow hat hlt4; obtain ⟨⟨z0, z1, z2, z3⟩, y0, y1, y2, y3⟩ := row_last hown HCL.out; have hfz : w4.frozen? ⟨nb, 3, none⟩ = false := (hgrow.frozen_far _ (by simp; omega) hne1).trans ((World.frozen?_of_block (a := ⟨nb, 3, none⟩) (Below.heap_alloc W _ nb hlnW)).trans g3); have hcn : w4.cell? ⟨nb, 3, none⟩ = some (.slice ka kids.length kc) := (hgrow.cell_far _ (by simp; omega) hne1).trans ((World.cell?_of_block (a := ⟨nb, 3, none⟩) (Below.heap_alloc W _ nb hlnW)).trans d3); have hgn : gg ≠ nb := fun e => by have := (ownsRow_at hown gg rfl).1; omega))
          all_goals
            go_wp2_with fail
            go_meet
            have hG : W.grownBy w4 (Value.slice ka kids.length kc).ownBlock := (grown_drew (grown_alloc (grown_refl W _) _)).trans hgrow
            have close : ∀ Z, Stored w4 Z nb gg (kids.length * 4) (.slice (some ⟨gg, 0, none⟩) (kids.length + 1) cap) (.int .u8 ((kd : Nat) : Int)) (.string ktx) (.slice a1 n1 c1') (.slice a2 n2 c2') →
                Rd Z b s q true true f' op ∧ Fr B b nb w Z ∧ ∃ kv' T, Nd Z B nb kind tx nv kv' (names0 ++ [nm]) (kids ++ [T]) ∧ Val s p q T := fun Z hS => by
              have hgB : B ≤ gg := (ownsRow_at hown gg rfl).1
              refine ⟨RDW.out.same ((hS.rest b (by omega) (by omega)).trans (hG.block b (by omega) hne2)), FRW.out.trans ((Fr.row hBW hG HKVB.out).trans (hS.fr hgB)), .slice (some ⟨gg, 0, none⟩) (kids.length + 1) cap, T, ?_, HVAL.out⟩
              exact NDW.out.pushKid CELLW.out HDW.out HREPW.out hG hown (hat.imp id (fun e => by omega)) hS HREPT.out HD0.out
            refine ⟨rfl, close _ ?_⟩
            first
              | with_reducible exact stored_first w4 hgn _ _ _ _ _ _
              | with_reducible exact stored_last w4 hgn _ _ _ _ _ _
        case rest =>
          obtain ⟨rfl, hrdc, hfrc, kv', T', hndc, hvalc⟩ := hcut
          have RC := Lib.hid hrdc
          have FC := Lib.hid hfrc
          have NC := Lib.hid hndc
          have VC := Lib.hid hvalc
          have SQ := Lib.hid (show ∀ g, On g → fin (g.push .bse 0) k (L.drop k) = fin (g.push .ev 1) q (L.drop q) from fun g hg => by
            have hP : On (g.push .bv 1) := hg.push (fun e => by cases e) (by simp)
            have h1 := (VR.out.says _ hP rfl).2.1 rfl
            rw [after_push] at h1
            rw [HL.out]
            exact ((I.out.says g hg).trans ((HSN.out g hg).1.2.1 rfl)).trans h1)
          clear hrdc hfrc hndc hvalc e0 e1 e2 e3 d3 g3
          go_wp2_with fail
          refine (space_any b s q true true f' op _ (by omega) RC.out).mono ?_
          rintro e w5 ⟨rfl, hrd5, hgr5⟩
          rw [← HL.out] at hrd5
          obtain ⟨i2, hi2⟩ : ∃ i2, mSpace L q = i2 := ⟨_, rfl⟩
          rw [hi2] at hrd5
          have HI2 := Lib.hid hi2
          have hqi2 : q ≤ i2 := by rw [← hi2]; exact mSpace_ge L q
          have R5 := Lib.hid hrd5
          have N5 := Lib.hid (NC.out.grown hgr5 hb)
          have F5 := Lib.hid (FC.out.trans (Fr.grown (nb := nb) NC.out.le hgr5))
          clear hrd5 hgr5 hi2
          go_wp2_with fail
          refine (see_any b s i2 true true f' op _ R5.out).mono ?_
          rintro e w6 ⟨rfl, n6, rfl⟩
          rw [← HL.out]
          obtain ⟨c6, hc6⟩ : ∃ c6, seeB L i2 = c6 := ⟨_, rfl⟩
          rw [hc6]
          have HC6 := Lib.hid hc6
          clear hc6
          have R6 := Lib.hid (R5.out.drewN n6)
          have N6 := Lib.hid (N5.out.grown (grown_drewN (grown_refl w5 (some b)) n6) hb)
          have F6 := Lib.hid (F5.out.trans (Fr.grown (nb := nb) N5.out.le (grown_drewN (grown_refl w5 (some b)) n6)))
          obtain ⟨w6, hw6⟩ : ∃ w6, w6 = w5.drewN n6 := ⟨_, rfl⟩
          rw [← hw6] at R6 N6 F6 ⊢
          clear hw6
          have hi2s : i2 ≤ s.size := R6.out.le
          obtain ⟨c0, c1, c3, c4, f1, f4⟩ := R6.out.cells
          have hltr6 := R6.out.lt
          by_cases k125 : c6 = 125
          · have hi125 : L[i2]? = some 125 := by
              obtain ⟨d, h1, h2⟩ := seeB_get (c := 125) (HC6.out.trans k125) (by decide)
              rw [h1, (UInt8.toNat_inj.1 h2 : d = 125)]
            have HI125 := Lib.hid hi125
            have hil : i2 < s.size := by rw [← HLs.out]; exact (List.getElem?_eq_some_iff.1 hi125).1
            clear hi125
            subst k125
            have hset := R6.out.setAt (i2 + 1) hil
            have hset' : Rd (w6.setCell ⟨b, 1, none⟩ (.int .i64 ((i2 : Int) + 1))) b s (i2 + 1) true true f' op := by simpa using hset
            have RS := Lib.hid hset'
            have NS := Lib.hid (N6.out.grown (grown_set (grown_refl w6 (some b)) 1 (.int .i64 ((i2 : Int) + 1))) hb)
            have FrS := Lib.hid (F6.out.trans (Fr.setR w6 1 (.int .i64 ((i2 : Int) + 1))))
            clear hset hset'
            go_wp2_with fail
            go_ret
            refine ⟨true, i2 + 1, rfl, by omega, FrS.out, ⟨f', RS.out, fun _ => rfl, fun e => by cases e⟩, ⟨_, _, _, _, NS.out, fun _ => .inr ⟨?_, ?_⟩⟩, fun g hg => ?_⟩
            · rw [← HL.out, HI.out]
              intro e
              have := HNO.out 125 e
              exact this.2 rfl
            · exact I.out.mems _ _ _ (.last NOK.out VC.out (by rw [← HL.out, HI2.out]) (by rw [← HL.out]; exact HI125.out))
            · rw [← HL.out]
              refine Says.thru (SQ.out g hg) ?_
              have hb3 := (says_behind hg (l := L) (k := q) (p := 1) (shut := 125) (.inl ⟨rfl, rfl⟩) (by rw [HLs.out]; omega)).1
              rw [HI2.out] at hb3
              exact hb3 HI125.out
          · have n125' : (c6 == 125) = false := by rw [beq_eq_false_iff_ne]; exact k125
            have hno125 : L[i2]? ≠ some 125 := fun e => k125 (by rw [← HC6.out, seeB_some e]; rfl)
            have HNO125 := Lib.hid hno125
            clear hno125 k125
            go_wp2_with fail
            refine (need_any b s i2 true true f' op 44 44 _ (by omega) R6.out).mono ?_
            rw [← HL.out]
            cases hm : (mNeed L 44 44 i2).1 with
            | false =>
              have hmn : mNeed L 44 44 i2 = (false, i2) := mNeed_no hm
              rw [hmn]
              have HM2 := Lib.hid hm
              clear hm hmn
              rintro e w7 ⟨rfl, hst⟩
              have X := Lib.hid hst
              have N7 := Lib.hid (N6.out.grown hst.grown hb)
              have F7 := Lib.hid (F6.out.trans (Fr.grown (nb := nb) N6.out.le hst.grown))
              clear hst
              go_wp2_with fail
              go_ret
              refine ⟨false, i2, rfl, by omega, F7.out, X.out.rd, ⟨_, _, _, _, N7.out, fun e => by cases e⟩, fun g hg => ?_⟩
              rw [← HL.out]
              refine Says.thru (SQ.out g hg) ?_
              have hb3 := (says_behind hg (l := L) (k := q) (p := 1) (shut := 125) (.inl ⟨rfl, rfl⟩) (by rw [HLs.out]; omega)).2.2
              rw [HI2.out] at hb3
              exact hb3 HNO125.out HM2.out _
            | true =>
              have hmn : mNeed L 44 44 i2 = (true, i2 + 1) := mNeed_yes hm
              rw [hmn]
              have HM2 := Lib.hid hm
              have h44 : L[i2]? = some 44 := by
                obtain ⟨d, hd, q1, q2⟩ := mNeed_pos hm
                rw [hd, (UInt8.toNat_inj.1 (by show d.toNat = 44; omega) : d = 44)]
              have H44 := Lib.hid h44
              clear hm hmn h44
              rintro e w7 ⟨rfl, hst⟩
              have X := Lib.hid hst
              have N7 := Lib.hid (N6.out.grown hst.grown hb)
              have F7 := Lib.hid (F6.out.trans (Fr.grown (nb := nb) N6.out.le hst.grown))
              have hat7 := Lib.hid hst.yes.atOf
              clear hst
              go_wp2_with fail
              refine (space_any b s (i2 + 1) true true f' op _ (by omega) X.out.yes).mono ?_
              rintro e w8 ⟨rfl, hrd8, hgr8⟩
              rw [← HL.out] at hrd8
              obtain ⟨i3, hi3⟩ : ∃ i3, mSpace L (i2 + 1) = i3 := ⟨_, rfl⟩
              rw [hi3] at hrd8
              have HI3 := Lib.hid hi3
              have hi23 : i2 + 1 ≤ i3 := by rw [← hi3]; exact mSpace_ge L (i2 + 1)
              have R8 := Lib.hid hrd8
              have N8 := Lib.hid (N7.out.grown hgr8 hb)
              have F8 := Lib.hid (F7.out.trans (Fr.grown (nb := nb) N7.out.le hgr8))
              have hat8 := Lib.hid hrd8.atOf
              clear hrd8 hgr8 hi3
              go_wp2_with fail
              refine ⟨⟨i3, nv, kv', names0 ++ [nm], kids ++ [T'], by omega, by have := I.out.le; simp; omega, by have := I.out.len; simp; omega, F8.out, R8.out, N8.out, fun c hc => ?_, fun g hg => ?_, fun q' ns ks hq' => ?_⟩, by rw [hat.out, hat8.out]; have := R8.out.le; omega⟩
              · have := not_sp_at L (i2 + 1) c
                rw [HI3.out] at this
                exact this (by rw [HL.out]; exact hc)
              · rw [← HL.out]
                refine (SQ.out g hg).trans ?_
                have hb3 := (says_behind hg (l := L) (k := q) (p := 1) (shut := 125) (.inl ⟨rfl, rfl⟩) (by rw [HLs.out]; omega)).2.1
                rw [HI2.out] at hb3
                refine (hb3 HNO125.out HM2.out).2.trans ?_
                have hb4 := space_bs hg L (i2 + 1)
                rw [HI3.out] at hb4
                exact hb4
              · rw [List.append_assoc, List.append_assoc]
                exact I.out.mems _ _ _ (.more NOK.out VC.out (by rw [← HL.out, HI2.out]) (by rw [← HL.out]; exact H44.out) (by rw [← HL.out, HI3.out]; exact hq'))

end Go.Proofs.YtebiendmngmjcaaDoor
