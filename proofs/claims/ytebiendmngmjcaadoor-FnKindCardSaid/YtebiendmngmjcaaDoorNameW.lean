/- The walk of the reader's 'name'. -/
import Derived.Test.YtebiendmngmjcaaDoorNd
import Derived.Deep.RegionLaw
import Derived.Deep.DeepCutAuto
import Derived.Deep.DrawnRows
namespace Go.Proofs.YtebiendmngmjcaaDoor
open Go.RowKit

attribute [local go_sem ↓] Go.wp_at_zero Go.wp_at_succ

/-- What 'name' leaves. -/
structure NmRes (w : World) (B b nb : Nat) (s : ByteArray) (k : Nat) (f : Int) (op : Bool) (kind : Nat) (tx : ByteArray) (kv : Value) (names : List ByteArray) (kids : List Tr) (ok : Bool) (q : Nat) (w' : World) : Prop where
  rel : NameR s.data.toList k (ok, q)
  fr : Fr B b nb w w'
  rd : ∃ f', Rd w' b s q true true f' op ∧ (ok = true → f' = f) ∧ (ok = false → f' ≠ 0)
  nd : ∃ nv' names', Nd w' B nb kind tx nv' kv names' kids ∧ (ok = true → ∃ nm, names' = names ++ [nm] ∧ NameOk s k nm q)

theorem Stood.fr {w w' : World} {b : Nat} {s : ByteArray} {tw lo : Bool} {f : Int} {op ok : Bool} {k : Nat} (h : Stood w b s tw lo f op ok k w') {B nb : Nat} (hB : B ≤ w.heap.size) : Fr B b nb w w' := Fr.grown hB h.grown

set_option maxRecDepth 100000 in
set_option maxHeartbeats 4000000 in
theorem name_any (B b nb : Nat) (s : ByteArray) (k : Nat) (f : Int) (op : Bool) (kind : Nat) (tx : ByteArray) (nv kv : Value) (names : List ByteArray) (kids : List Tr) (w : World) (hs : s.size ≤ 100000000000) (hlen : names.length ≤ 100000000000) (hb : b < nb)
    (h : Rd w b s k true true f op) (hn : Nd w B nb kind tx nv kv names kids) :
    Calls Tryd.prog 19 #[.pointer (some ⟨b, 0, none⟩), .pointer (some ⟨nb, 0, none⟩)] w fun e w' => ∃ ok q, e = .returned (.bool ok) ∧ NmRes w B b nb s k f op kind tx kv names kids ok q w' := by
  obtain ⟨i0, hi0, hz0, hz1, hz2⟩ := info_parts strInfo
  have hlt := h.lt
  have hle := h.le
  have hlt2 := hn.lt
  have H := Lib.hid h
  have N := Lib.hid hn
  have hBle := hn.le
  have hlo := hn.lo
  have HLn := Lib.hid hlen
  clear h hn hlen
  go_enter Tryd.func19, Tryd.ntmps19
  go_wp2_with fail
  refine (see_any b s k true true f op _ H.out).mono ?_
  rintro e w1 ⟨rfl, n, rfl⟩
  obtain ⟨c, hc⟩ : ∃ c, seeB s.data.toList k = c := ⟨_, rfl⟩
  rw [hc]
  have HC := Lib.hid hc
  clear hc
  have ST := Lib.hid ((Stood.start H.out).drewN n)
  have ND := Lib.hid (N.out.grown ST.out.grown hb)
  clear H
  obtain ⟨w1, hw1⟩ : ∃ w1, w1 = w.drewN n := ⟨_, rfl⟩
  rw [← hw1] at ST ND ⊢
  clear hw1
  by_cases h34 : c = 34
  · have n34 : (c != 34) = false := by rw [h34]; rfl
    subst h34
    obtain ⟨c0, c1, c3, c4, f1, f4⟩ := ST.out.yes.cells
    have hltr := ST.out.yes.lt
    go_wp2_with fail
    refine (quoted_any b s k true true f op _ hs ST.out.yes).mono ?_
    rintro e w2 ⟨⟨r, hqr, he, hst⟩⟩
    obtain ⟨ok, p⟩ := r
    subst he
    have ST2 := Lib.hid (ST.out.thru hst)
    have ND2 := Lib.hid (ND.out.grown hst.grown hb)
    have HQ := Lib.hid hqr
    clear hst hqr
    cases ok with
    | false =>
      go_wp2_with fail
      go_ret
      refine ⟨_, p, rfl, .inr (.inl ⟨p, HQ.out, rfl⟩), ST2.out.fr hBle, ST2.out.rd, nv, names, ND2.out, fun e => by cases e⟩
    | true =>
      have hq : k ≤ p ∧ p < s.size ∧ s.data.toList[p]? = some 34 := by
        rcases HQ.out with ⟨h1, h2⟩ | ⟨h1, h2⟩
        · have hp := qrun_end h2 rfl
          have hg := (List.getElem?_eq_some_iff.1 hp.2).1
          rw [size_eq] at hg
          exact ⟨by have := hp.1; simp only at this; omega, hg, hp.2⟩
        · cases h2
      obtain ⟨hkp, hps, hp34⟩ := hq
      have HP34 := Lib.hid hp34
      clear hp34 c0 c1 c3 c4 f1 f4
      obtain ⟨c0, c1, c2, c3, c4, c5⟩ := ST2.out.yes.all
      obtain ⟨_, _, _, _, f1, f4⟩ := ST2.out.yes.cells
      obtain ⟨d0, d1, d2, d3, g0, g1, g2, g3⟩ := ND2.out.cells
      have hltr2 := ST2.out.yes.lt
      have hltn2 := ND2.out.lt
      have hi1 : (0 : Int) ≤ (k : Int) := by omega
      have hi2 : (k : Int) ≤ (p : Int) + 1 := by omega
      have hi3 : (p : Int) + 1 ≤ (s.size : Int) := by omega
      go_upto_region 7 with fail
      go_cut [4] (fun s4 wx => s4 = .bool false ∧ Rd wx b s p true true f op ∧ Fr B b nb w wx ∧ ∃ v', Nd wx B nb kind tx v' kv (names ++ [s.extract k (p + 1)]) kids)
      case first =>
        have hnb : ∀ g, nv.ownBlock = some g → B ≤ g := fun g hg => (ownsRow_at ND2.out.names g hg).1
        have hne1 : some nb ≠ nv.ownBlock := fun e => by have := hnb nb e.symm; omega
        have hne2 : some b ≠ nv.ownBlock := fun e => by have := hnb b e.symm; omega
        have HNB := Lib.hid hnb
        have h63 : names.length + 1 ≤ maxLen := by have := HLn.out; unfold maxLen; omega
        have hbyt : (names.length + 1) * 16 ≤ 140737488355328 := by have := HLn.out; omega
        have hB2 := ND2.out.le
        clear hnb
        have h4 : IntKind.i64.wrap ((p : Int) + 1) = (p : Int) + 1 := by rw [IntWalk.i64_in _ (by omega)]
        go_region_law (first | (
          refine step_append_lies _ (by rfl) _ _ _ (by rfl) B 9 i0 _ 1 16 Tryd.underlying22 hi0 hz0 hz1 hz2 rfl (by omega) nv names.length (names.map .string) (by rfl) ((ownsRow_same ND2.out.names (fun g hg => Below.heap_alloc _ _ g (ownsRow_at ND2.out.names g hg).2)).drew)
              ⟨w2.heap.size, 0, none⟩ 1 1 [.string (s.extract k (p + 1))] (by rfl) (by rfl) (World.news_of_block (cs := #[.string (s.extract k (p + 1))]) (t := 9) (fr := (0, 0)) (heap_alloc_new w2 _)) (by simp [Value.oneCell'])
              (by omega) h63 hbyt (by simp; omega) (w2.heap.size + 1) (by simp) ?_; intro gg cap w3 hown hgrow hat hlt3; have hfz : w3.frozen? ⟨nb, 2, none⟩ = false := (hgrow.frozen_far _ (by simp; omega) hne1).trans ((World.frozen?_of_block (a := ⟨nb, 2, none⟩) (Below.heap_alloc w2 _ nb hltn2)).trans g2); have hcn : w3.cell? ⟨nb, 2, none⟩ = some nv := (hgrow.cell_far _ (by simp; omega) hne1).trans ((World.cell?_of_block (a := ⟨nb, 2, none⟩) (Below.heap_alloc w2 _ nb hltn2)).trans d2)))
        all_goals
          go_wp2_with fail
          go_meet
          have hG : w2.grownBy w3 nv.ownBlock := (grown_drew (grown_alloc (grown_refl w2 _) _)).trans hgrow
          have hND := ND2.out.pushName (g0 := gg) (s.extract k (p + 1)) hown hG rfl (hat.imp id (fun e => by omega))
          have hF : Fr B b nb w2 (w3.setCell ⟨nb, 2, none⟩ (.slice (some ⟨gg, 0, none⟩) (names.length + 1) cap)) := (Fr.row hB2 hG HNB.out).trans (Fr.set w3 2 _)
          refine ⟨rfl, ST2.out.yes.same ?_, (ST2.out.fr hBle).trans hF, _, hND⟩
          exact (Below.heap_setCell w3 ⟨nb, 2, none⟩ _ b (by show b ≠ nb; omega)).trans (hG.block b hltr2 hne2)
      case rest =>
        obtain ⟨rfl, hrd3, hfr3, v', hnd3⟩ := hcut
        have RD3 := Lib.hid hrd3
        have FR3 := Lib.hid hfr3
        have ND3 := Lib.hid hnd3
        have hlt3 := hrd3.lt
        clear c0 c1 c2 c3 c4 c5 f1 f4 d0 d1 d2 d3 g0 g1 g2 g3
        obtain ⟨c0, c1, c2, c3, c4, c5⟩ := hrd3.all
        obtain ⟨_, _, _, _, f1, f4⟩ := hrd3.cells
        have hB3 := hnd3.le
        clear hrd3 hfr3 hnd3
        have hset := RD3.out.setAt (p + 1) (by omega)
        have hset' : Rd (wc.setCell ⟨b, 1, none⟩ (.int .i64 ((p : Int) + 1))) b s (p + 1) true true f op := by simpa using hset
        have RS := Lib.hid hset'
        have NS := Lib.hid (ND3.out.grown (grown_set (grown_refl wc (some b)) 1 (.int .i64 ((p : Int) + 1))) hb)
        have FrS := Lib.hid (FR3.out.trans (Fr.setR wc 1 (.int .i64 ((p : Int) + 1))))
        clear hset hset'
        go_wp2_with fail
        refine (space_any b s (p + 1) true true f op _ (by omega) RS.out).mono ?_
        rintro e w4 ⟨rfl, hrd4, hgr4⟩
        have R4 := Lib.hid hrd4
        have N4 := Lib.hid (NS.out.grown hgr4 hb)
        have F4 := Lib.hid (FrS.out.trans (Fr.grown (by simp [World.setCell]; exact hB3) hgr4))
        have hB4 : B ≤ w4.heap.size := N4.out.le
        clear hrd4 hgr4
        go_wp2_with fail
        refine (need_any b s (mSpace s.data.toList (p + 1)) true true f op 58 58 _ (by omega) R4.out).mono ?_
        obtain ⟨r, hr⟩ : ∃ r, mNeed s.data.toList 58 58 (mSpace s.data.toList (p + 1)) = r := ⟨_, rfl⟩
        rw [hr]
        have HR := Lib.hid hr
        clear hr
        obtain ⟨ok, q⟩ := r
        rintro e w5 ⟨rfl, hst⟩
        have S5 := Lib.hid hst
        clear hst
        go_wp2_with fail
        go_ret
        refine ⟨ok, q, rfl, .inr (.inr ⟨p, HQ.out, HR.out.symm⟩), F4.out.trans (S5.out.fr hB4), S5.out.rd, v', _, N4.out.grown S5.out.grown hb, fun e => ⟨_, rfl, p, HQ.out, HP34.out, rfl, ?_⟩⟩
        subst e
        obtain ⟨c, hc, q1, q2⟩ := mNeed_pos (by rw [HR.out] : (mNeed s.data.toList 58 58 (mSpace s.data.toList (p + 1))).1 = true)
        have e1 := mNeed_yes (by rw [HR.out] : (mNeed s.data.toList 58 58 (mSpace s.data.toList (p + 1))).1 = true)
        rw [HR.out] at e1
        exact ⟨by rw [hc, (UInt8.toNat_inj.1 (by show c.toNat = 58; omega) : c = 58)], (Prod.ext_iff.1 e1).2⟩
  · have n34 : (c != 34) = true := by simpa using h34
    have HN34 := Lib.hid h34
    clear h34
    obtain ⟨c0, c1, c3, c4, f1, f4⟩ := ST.out.yes.cells
    have hltr := ST.out.yes.lt
    have hne : seeB s.data.toList k ≠ 34 := by rw [HC.out]; exact HN34.out
    have HNE := Lib.hid hne
    clear hne
    have hnr : ∀ r, QRel true s.data.toList k r → r = (false, k) := fun r h => by
      rcases h with ⟨h1, _⟩ | ⟨_, h2⟩
      · obtain ⟨d, hd, q1, q2⟩ := mNeed_pos h1
        exact absurd (by rw [seeB_some hd]; omega) HNE.out
      · exact h2
    have HNR := Lib.hid hnr
    clear hnr
    go_wp2_with fail
    all_goals first
      | (refine (fail_any b s k true true f op 3 (by decide) _ ST.out.yes).mono ?_
         rintro e w2 ⟨rfl, hst⟩
         have ST2 := Lib.hid (ST.out.thru hst)
         have ND2 := Lib.hid (ND.out.grown hst.grown hb)
         clear hst
         go_wp2_with fail
         go_ret
         exact ⟨false, k, rfl, .inl ⟨rfl, HNE.out⟩, ST2.out.fr hBle, ST2.out.rd, nv, names, ND2.out, fun e => by cases e⟩)
      | (refine (quoted_any b s k true true f op _ hs ST.out.yes).mono ?_
         rintro e w2 ⟨⟨r, hqr, he, hst⟩⟩
         obtain rfl := HNR.out r hqr
         subst he
         have ST2 := Lib.hid (ST.out.thru hst)
         have ND2 := Lib.hid (ND.out.grown hst.grown hb)
         clear hst hqr
         go_wp2_with fail
         go_ret
         exact ⟨false, k, rfl, .inl ⟨rfl, HNE.out⟩, ST2.out.fr hBle, ST2.out.rd, nv, names, ND2.out, fun e => by cases e⟩)

end Go.Proofs.YtebiendmngmjcaaDoor
