/- The walk of the reader's 'scalar'. -/
import Derived.Test.YtlgmdcaoogiooaaGreatDoorNameW
import Derived.Deep.CutBlock
namespace Go.Proofs.YtlgmdcaoogiooaaGreatDoor
open Go.RowKit

/-- What 'scalar' leaves. -/
structure ScRes (w : World) (B b nb : Nat) (s : ByteArray) (k : Nat) (f : Int) (op : Bool) (nv kv : Value) (names : List ByteArray) (kids : List Tr) (ok : Bool) (q : Nat) (w' : World) : Prop where
  rel : ScalarR s.data.toList k (ok, q)
  ge : k ≤ q
  fr : Fr B b nb w w'
  rd : ∃ f', Rd w' b s q true true f' op ∧ (ok = true → f' = f) ∧ (ok = false → f' ≠ 0)
  nd : ∃ kind' tx', Nd w' B nb kind' tx' nv kv names kids ∧ (ok = true → Leaf s.data.toList k q kind' ∧ tx' = s.extract k q)

theorem Fr.drew {B b nb : Nat} {w w' : World} (h : Fr B b nb w w') : Fr B b nb w w'.drew := ⟨h.os, h.tape, h.output, h.size, h.block⟩
theorem Nd.drew {w : World} {B nb kind : Nat} {tx : ByteArray} {nv kv : Value} {names : List ByteArray} {kids : List Tr} (h : Nd w B nb kind tx nv kv names kids) : Nd w.drew B nb kind tx nv kv names kids := h.same (Nat.le_refl _) (fun _ _ _ => rfl)

theorem mWord_ge (l : List UInt8) : ∀ (t : List UInt8) (k : Nat), k ≤ (mWord l t k).2
  | [], _ => Nat.le_refl _
  | c :: t, k => by
    show k ≤ (if l[k]? = some c then mWord l t (k + 1) else (false, k)).2
    split
    · exact Nat.le_trans (Nat.le_succ _) (mWord_ge l t (k + 1))
    · exact Nat.le_refl _

theorem mDigits_ge (l : List UInt8) (k : Nat) : k ≤ (mDigits l k).2 := by
  unfold mDigits
  split
  · exact Nat.le_trans (Nat.le_succ _) (mDigs_ge l (k + 1))
  · exact Nat.le_refl _

theorem mExp_ge (l : List UInt8) (k : Nat) : k ≤ (mExp l k).2 := by
  unfold mExp
  split
  · have h1 := mDigits_ge l (if seeB l (k + 1) = 43 ∨ seeB l (k + 1) = 45 then k + 1 + 1 else k + 1)
    split at h1 <;> (rename_i q; first | rw [if_pos q] | rw [if_neg q]) <;> omega
  · exact Nat.le_refl _

theorem mFrac_ge (l : List UInt8) (k : Nat) : k ≤ (mFrac l k).2 := by
  unfold mFrac
  have h1 := mDigits_ge l (k + 1)
  have h2 := mExp_ge l (mDigits l (k + 1)).2
  split
  · split
    · omega
    · omega
  · exact mExp_ge l k

theorem mInt_ge (l : List UInt8) (k : Nat) : k ≤ (mInt l k).2 := by
  unfold mInt
  have h1 := mDigits_ge l k
  have h2 := mFrac_ge l (mDigits l k).2
  have h3 := mFrac_ge l (k + 1)
  split
  · omega
  · split
    · omega
    · omega

theorem mNumber_ge (l : List UInt8) (k : Nat) : k ≤ (mNumber l k).2 := by
  unfold mNumber
  have h1 := mInt_ge l k
  have h2 := mInt_ge l (k + 1)
  split <;> omega

theorem qrel_ge {l : List UInt8} {k : Nat} {r : Bool × Nat} (h : QRel true l k r) : k ≤ r.2 := by
  have run : ∀ {k r}, QRun true l k r → k ≤ r.2 := fun h => by
    induction h with
    | eof _ => exact Nat.le_refl _
    | done h => exact Nat.le_refl _
    | @escNo k k' _ h2 => have := mEscape_le true l (k + 1); rw [h2] at this; simp only at this ⊢; omega
    | @esc k k' r _ h2 _ ih => have := mEscape_le true l (k + 1); rw [h2] at this; simp only at this; omega
    | ctrl _ _ => exact Nat.le_refl _
    | plain _ _ _ _ _ _ ih => omega
    | rune _ _ h3 => cases h3
    | runeNo _ _ h3 => cases h3
  rcases h with ⟨_, h2⟩ | ⟨_, rfl⟩
  · have := run h2; omega
  · exact Nat.le_refl _

theorem qrel_end {l : List UInt8} {k p : Nat} (h : QRel true l k (true, p)) : l[p]? = some 34 ∧ k < p := by
  rcases h with ⟨_, h2⟩ | ⟨_, h2⟩
  · have := qrun_end h2 rfl
    exact ⟨this.2, by have := this.1; simp only at this; omega⟩
  · cases h2

set_option maxRecDepth 100000 in
set_option maxHeartbeats 4000000 in
theorem scalar_any (B b nb : Nat) (s : ByteArray) (k : Nat) (f : Int) (op : Bool) (kind : Nat) (tx : ByteArray) (nv kv : Value) (names : List ByteArray) (kids : List Tr) (w : World) (hs : s.size ≤ 100000000000) (hb : b < nb)
    (h : Rd w b s k true true f op) (hn : Nd w B nb kind tx nv kv names kids) (hkd : ((kind : Nat) : Int) = seeB s.data.toList k) :
    Calls Tryz.prog 33 #[.pointer (some ⟨b, 0, none⟩), .pointer (some ⟨nb, 0, none⟩)] w fun e w' => ∃ ok q, e = .returned (.bool ok) ∧ ScRes w B b nb s k f op nv kv names kids ok q w' := by
  have hlt := h.lt
  have hle := h.le
  have hlt2 := hn.lt
  have H := Lib.hid h
  have N := Lib.hid hn
  have hBle := hn.le
  have hlo := hn.lo
  have HKD := Lib.hid hkd
  obtain ⟨c0, c1, c3, c4, f1, f4⟩ := h.cells
  clear h hn hkd
  obtain ⟨L, hL⟩ : ∃ L, L = s.data.toList := ⟨_, rfl⟩
  have hLs : L.length = s.size := by rw [hL, size_eq]
  have HL := Lib.hid hL
  have HLs := Lib.hid hLs
  clear hL hLs
  have word : ∀ (v : World) (t : ByteArray), t.size ≤ 10 → Rd v b s k true true f op → Calls Tryz.prog 50 #[.pointer (some ⟨b, 0, none⟩), .string t] v (Step v b s true true f op (mWord L t.data.toList k)) := fun v t ht hv => by
    rw [HL.out]
    exact word_any b s t k true true f op v hs (by omega) hv
  have WORD := Lib.hid word
  clear word
  go_enter Tryz.func33, Tryz.ntmps33
  go_wp2_with fail
  refine (see_any b s k true true f op _ H.out).mono ?_
  rintro e w1 ⟨rfl, n, rfl⟩
  obtain ⟨c, hc⟩ : ∃ c, seeB s.data.toList k = c := ⟨_, rfl⟩
  rw [hc]
  have HC := Lib.hid hc
  have hcL : seeB L k = c := by rw [HL.out]; exact hc
  have HCL := Lib.hid hcL
  clear hc hcL
  have ST := Lib.hid ((Stood.start H.out).drewN n)
  have ND := Lib.hid (N.out.grown ST.out.grown hb)
  obtain ⟨w1, hw1⟩ : ∃ w1, w1 = w.drewN n := ⟨_, rfl⟩
  rw [← hw1] at ST ND ⊢
  clear hw1 c0 c1 c3 c4 f1 f4
  have hB1 := ND.out.le
  obtain ⟨_, _, _, _, g0, g1, g2, g3⟩ := ND.out.cells
  obtain ⟨d0, d1, d2, d3, _, _, _, _⟩ := ND.out.cells
  have hlt4 := ND.out.lt
  go_upto_block 0 with fail
  go_cut [4, 6] (fun s4 s6 wx => s4 = .bool false ∧ ∃ ok q kind', s6 = .bool ok ∧ ScalarR L k (ok, q) ∧ k ≤ q ∧ Fr B b nb w wx ∧ (∃ f', Rd wx b s q true true f' op ∧ (ok = true → f' = f) ∧ (ok = false → f' ≠ 0)) ∧ Nd wx B nb kind' tx nv kv names kids ∧ (ok = true → Leaf L k q kind'))
  case first =>
    by_cases h110 : c = 110
    · subst h110
      go_wp2_with fail
      refine (WORD.out _ _ (by decide) ST.out.yes).mono ?_
      obtain ⟨r, hr⟩ : ∃ r, mWord L [110, 117, 108, 108] k = r := ⟨_, rfl⟩
      rw [show (⟨#[110, 117, 108, 108]⟩ : ByteArray).data.toList = [110, 117, 108, 108] from rfl, hr]
      have HR := Lib.hid hr
      clear hr
      obtain ⟨ok, q⟩ := r
      rintro e w2 ⟨rfl, hst⟩
      have ST2 := Lib.hid (ST.out.thru hst)
      have ND2 := Lib.hid (ND.out.grown hst.grown hb)
      clear hst
      go_wp2_with fail
      go_meet
      refine ⟨rfl, ok, q, kind, rfl, .inl ⟨HCL.out, HR.out.symm⟩, by have := mWord_ge L [110, 117, 108, 108] k; rw [HR.out] at this; exact this, ST2.out.fr hBle, ST2.out.rd, ND2.out, fun e => ?_⟩
      subst e
      have e1 : kind = 110 := by have := HKD.out; rw [HC.out] at this; omega
      rw [e1]
      exact .null HR.out
    have n110 : (c == 110) = false := by rw [beq_eq_false_iff_ne]; exact h110
    have H110 := Lib.hid h110
    clear h110
    by_cases h116 : c = 116
    · subst h116
      go_wp2_with fail
      refine (WORD.out _ _ (by decide) ST.out.yes).mono ?_
      obtain ⟨r, hr⟩ : ∃ r, mWord L [116, 114, 117, 101] k = r := ⟨_, rfl⟩
      rw [show (⟨#[116, 114, 117, 101]⟩ : ByteArray).data.toList = [116, 114, 117, 101] from rfl, hr]
      have HR := Lib.hid hr
      clear hr
      obtain ⟨ok, q⟩ := r
      rintro e w2 ⟨rfl, hst⟩
      have ST2 := Lib.hid (ST.out.thru hst)
      have ND2 := Lib.hid (ND.out.grown hst.grown hb)
      clear hst
      go_wp2_with fail
      go_meet
      refine ⟨rfl, ok, q, kind, rfl, .inr (.inl ⟨HCL.out, HR.out.symm⟩), by have := mWord_ge L [116, 114, 117, 101] k; rw [HR.out] at this; exact this, ST2.out.fr hBle, ST2.out.rd, ND2.out, fun e => ?_⟩
      subst e
      have e1 : kind = 116 := by have := HKD.out; rw [HC.out] at this; omega
      rw [e1]
      exact .yes HR.out
    have n116 : (c == 116) = false := by rw [beq_eq_false_iff_ne]; exact h116
    have H116 := Lib.hid h116
    clear h116
    by_cases h102 : c = 102
    · subst h102
      go_wp2_with fail
      refine (WORD.out _ _ (by decide) ST.out.yes).mono ?_
      obtain ⟨r, hr⟩ : ∃ r, mWord L [102, 97, 108, 115, 101] k = r := ⟨_, rfl⟩
      rw [show (⟨#[102, 97, 108, 115, 101]⟩ : ByteArray).data.toList = [102, 97, 108, 115, 101] from rfl, hr]
      have HR := Lib.hid hr
      clear hr
      obtain ⟨ok, q⟩ := r
      rintro e w2 ⟨rfl, hst⟩
      have ST2 := Lib.hid (ST.out.thru hst)
      have ND2 := Lib.hid (ND.out.grown hst.grown hb)
      clear hst
      go_wp2_with fail
      go_meet
      refine ⟨rfl, ok, q, kind, rfl, .inr (.inr (.inl ⟨HCL.out, HR.out.symm⟩)), by have := mWord_ge L [102, 97, 108, 115, 101] k; rw [HR.out] at this; exact this, ST2.out.fr hBle, ST2.out.rd, ND2.out, fun e => ?_⟩
      subst e
      have e1 : kind = 102 := by have := HKD.out; rw [HC.out] at this; omega
      rw [e1]
      exact .no HR.out
    have n102 : (c == 102) = false := by rw [beq_eq_false_iff_ne]; exact h102
    have H102 := Lib.hid h102
    clear h102
    by_cases h34 : c = 34
    · subst h34
      go_wp2_with fail
      refine (quoted_any b s k true true f op _ hs ST.out.yes).mono ?_
      rintro e w2 ⟨⟨r, hqr, he, hst⟩⟩
      obtain ⟨ok, p⟩ := r
      subst he
      have ST2 := Lib.hid (ST.out.thru hst)
      have ND2 := Lib.hid (ND.out.grown hst.grown hb)
      rw [← HL.out] at hqr
      have HQ := Lib.hid hqr
      clear hst hqr
      cases ok with
      | false =>
        go_wp2_with fail
        go_meet
        exact ⟨rfl, false, p, kind, rfl, .inr (.inr (.inr (.inl ⟨HCL.out, .inl ⟨p, HQ.out, rfl⟩⟩))), qrel_ge HQ.out, ST2.out.fr hBle, ST2.out.rd, ND2.out, fun e => by cases e⟩
      | true =>
        go_wp2_with fail
        refine (need_any b s p true true f op 34 34 _ (by omega) ST2.out.yes).mono ?_
        have hend := qrel_end HQ.out
        have e1 : mNeed s.data.toList 34 34 p = (true, p + 1) := by
          rw [← HL.out]
          unfold mNeed
          rw [hend.1]
          exact if_pos ⟨by decide, by decide⟩
        rw [e1]
        have e2 : mNeed L 34 34 p = (true, p + 1) := by rw [HL.out]; exact e1
        have HE2 := Lib.hid e2
        have HEND := Lib.hid hend
        clear e1 e2 hend
        rintro e w3 ⟨rfl, hst⟩
        have ST3 := Lib.hid (ST2.out.thru hst)
        have ND3 := Lib.hid (ND2.out.grown hst.grown hb)
        clear hst
        go_wp2_with fail
        go_meet
        refine ⟨rfl, true, p + 1, kind, rfl, .inr (.inr (.inr (.inl ⟨HCL.out, .inr ⟨p, HQ.out, HE2.out.symm⟩⟩))), by have := HEND.out.2; omega, ST3.out.fr hBle, ST3.out.rd, ND3.out, fun e => ?_⟩
        have e1 : kind = 34 := by have := HKD.out; rw [HC.out] at this; omega
        rw [e1]
        exact .str HQ.out HEND.out.1
    have n34 : (c == 34) = false := by rw [beq_eq_false_iff_ne]; exact h34
    have H34 := Lib.hid h34
    clear h34
    by_cases hnum : c = 45 ∨ (48 ≤ c ∧ c ≤ 57)
    · have HNUM := Lib.hid (show seeB L k = 45 ∨ (48 ≤ seeB L k ∧ seeB L k ≤ 57) by rw [HCL.out]; exact hnum)
      have NDK := Lib.hid (ND.out.setKind 48)
      have STK := Lib.hid (show Rd (w1.setCell ⟨nb, 0, none⟩ (.int .u8 48)) b s k true true f op from ST.out.yes.same (Below.heap_setCell w1 ⟨nb, 0, none⟩ _ b (by show b ≠ nb; omega)))
      have hcs : c = 45 ∨ c = 48 ∨ c = 49 ∨ c = 50 ∨ c = 51 ∨ c = 52 ∨ c = 53 ∨ c = 54 ∨ c = 55 ∨ c = 56 ∨ c = 57 := by omega
      clear hnum n110 n116 n102 n34
      rcases hcs with rfl | rfl | rfl | rfl | rfl | rfl | rfl | rfl | rfl | rfl | rfl
      all_goals
        go_wp2_with fail
        refine (number_any b s k true true f op _ hs STK.out).mono ?_
        rw [← HL.out]
        obtain ⟨r, hr⟩ : ∃ r, mNumber L k = r := ⟨_, rfl⟩
        rw [hr]
        have HR := Lib.hid hr
        clear hr
        obtain ⟨ok, q⟩ := r
        rintro e w2 ⟨rfl, hst⟩
        have X2 := Lib.hid hst
        have ND2 := Lib.hid (NDK.out.grown hst.grown hb)
        clear hst
        go_wp2_with fail
        go_meet
        refine ⟨rfl, ok, q, 48, rfl, .inr (.inr (.inr (.inr (.inl ⟨HNUM.out, HR.out.symm⟩)))), by have := mNumber_ge L k; rw [HR.out] at this; exact this, (ST.out.fr hBle).trans ((Fr.set w1 0 _).trans (X2.out.fr (by simp [World.setCell]; exact hB1))), X2.out.rd, ND2.out, fun e => ?_⟩
        subst e
        exact .num HNUM.out HR.out
    have h45 : c ≠ 45 := fun e => hnum (.inl e)
    have hd : ¬ (48 ≤ c ∧ c ≤ 57) := fun e => hnum (.inr e)
    have H45 := Lib.hid h45
    have HD := Lib.hid hd
    have m45 : (c == 45) = false := by rw [beq_eq_false_iff_ne]; omega
    have m48 : (c == 48) = false := by rw [beq_eq_false_iff_ne]; omega
    have m49 : (c == 49) = false := by rw [beq_eq_false_iff_ne]; omega
    have m50 : (c == 50) = false := by rw [beq_eq_false_iff_ne]; omega
    have m51 : (c == 51) = false := by rw [beq_eq_false_iff_ne]; omega
    have m52 : (c == 52) = false := by rw [beq_eq_false_iff_ne]; omega
    have m53 : (c == 53) = false := by rw [beq_eq_false_iff_ne]; omega
    have m54 : (c == 54) = false := by rw [beq_eq_false_iff_ne]; omega
    have m55 : (c == 55) = false := by rw [beq_eq_false_iff_ne]; omega
    have m56 : (c == 56) = false := by rw [beq_eq_false_iff_ne]; omega
    have m57 : (c == 57) = false := by rw [beq_eq_false_iff_ne]; omega
    clear hnum h45 hd
    go_wp2_with fail
    refine (fail_any b s k true true f op 4 (by decide) _ ST.out.yes).mono ?_
    rintro e w2 ⟨rfl, hst⟩
    have ST2 := Lib.hid (ST.out.thru hst)
    have ND2 := Lib.hid (ND.out.grown hst.grown hb)
    clear hst
    go_wp2_with fail
    go_ret
    refine ⟨false, k, rfl, ?_, Nat.le_refl _, ST2.out.fr hBle, ST2.out.rd, kind, tx, ND2.out, fun e => by cases e⟩
    rw [← HL.out]
    exact .inr (.inr (.inr (.inr (.inr ⟨by rw [HCL.out]; exact ⟨H110.out, H116.out, H102.out, H34.out, H45.out, HD.out⟩, rfl⟩))))
  case rest =>
    obtain ⟨rfl, ok, q, kind', rfl, hsc, hkq, hfr, hrd, hnd, hlf⟩ := hcut
    obtain ⟨f', hrd, hf1, hf2⟩ := hrd
    have SC := Lib.hid hsc
    have FR := Lib.hid hfr
    have RD := Lib.hid hrd
    have F1 := Lib.hid hf1
    have F2 := Lib.hid hf2
    have ND := Lib.hid hnd
    have LF := Lib.hid hlf
    have hqs := hrd.le
    clear d0 d1 d2 d3 g0 g1 g2 g3
    obtain ⟨c0, c1, c3, c4, f1, f4⟩ := hrd.cells
    obtain ⟨d0, d1, d2, d3, g0, g1, g2, g3⟩ := hnd.cells
    have hltb := hrd.lt
    have hltn := hnd.lt
    have hi1 : (0 : Int) ≤ (k : Int) := by omega
    have hi2 : (k : Int) ≤ (q : Int) := by omega
    have hi3 : (q : Int) ≤ (s.size : Int) := by omega
    clear hsc hfr hrd hf1 hf2 hnd hlf
    go_wp2_with fail
    go_region_law (fail)
    all_goals
      go_wp2_with fail
      go_ret
      have hND := (ND.out.setText (s.extract k q)).drew
      refine ⟨ok, q, rfl, by rw [← HL.out]; exact SC.out, hkq, FR.out.trans (Fr.set wc 1 (.string (s.extract k q))).drew, ⟨f', RD.out.same (Below.heap_setCell wc ⟨nb, 1, none⟩ (.string (s.extract k q)) b (by show b ≠ nb; omega)), F1.out, F2.out⟩, kind', _, hND, fun e => ⟨by rw [← HL.out]; exact LF.out e, rfl⟩⟩

end Go.Proofs.YtlgmdcaoogiooaaGreatDoor
