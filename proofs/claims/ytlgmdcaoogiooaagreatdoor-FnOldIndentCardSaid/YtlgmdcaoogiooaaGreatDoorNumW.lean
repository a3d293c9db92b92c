/- The reference's words: 'word', 'came', 'WordHead'. -/
import Derived.Test.YtlgmdcaoogiooaaGreatDoorSpcW
import Derived.Deep.RegionWith
import Derived.Test.YtlgmdcaoogiooaaGreatDoorNumP
import Derived.Test.YtlgmdcaoogiooaaGreatDoorUnitR
import Derived.Deep.DeepCutAuto
namespace Go.Proofs.YtlgmdcaoogiooaaGreatDoor
open Go.RowKit

/-- 'word', in plain words. -/
def mWord (l : List UInt8) : List UInt8 → Nat → Bool × Nat
  | [], k => (true, k)
  | c :: t, k => if l[k]? = some c then mWord l t (k + 1) else (false, k)

theorem mNeed_same (l : List UInt8) (c : UInt8) (k : Nat) : mNeed l ((c.toNat : Nat) : Int) ((c.toNat : Nat) : Int) k = if l[k]? = some c then (true, k + 1) else (false, k) := by
  unfold mNeed
  cases h : l[k]? with
  | none => simp
  | some d =>
    by_cases e : d = c
    · subst e; simp
    · have : d.toNat ≠ c.toNat := fun h => e (UInt8.toNat_inj.1 h)
      rw [if_neg (by simp [e])]
      exact if_neg (by omega)

set_option maxHeartbeats 400000 in
theorem word_any (b : Nat) (s wd : ByteArray) (k : Nat) (tw lo : Bool) (f : Int) (op : Bool) (w : World) (hs : s.size ≤ 100000000000) (hwd : wd.size ≤ 1000000000) (h : Rd w b s k tw lo f op) :
    Calls Tryz.prog 50 #[.pointer (some ⟨b, 0, none⟩), .string wd] w (Step w b s tw lo f op (mWord s.data.toList wd.data.toList k)) := by
  have H := Lib.hid h
  clear h
  go_enter Tryz.func50, Tryz.ntmps50
  go_wp2
  go_loopw [8] (fun i wr => ∃ j : Nat, j ≤ wd.size ∧ i = .int .i64 j ∧ Rd wr b s (k + j) tw lo f op ∧ w.grownBy wr (some b) ∧ mWord s.data.toList wd.data.toList k = mWord s.data.toList (wd.data.toList.drop j) (k + j))
    (fun i _ => wd.size - (intOf i).toNat)
  case atStart => exact ⟨0, Nat.zero_le _, rfl, H.out, grown_refl _ _, by simp⟩
  case round =>
    obtain ⟨j, hj, rfl, hrd, hg, hm⟩ := hrel
    have HR := Lib.hid hrd
    have HG := Lib.hid hg
    have HM := Lib.hid hm
    clear hrd hg hm
    by_cases hlt : j < wd.size
    · obtain ⟨c, hc⟩ : ∃ c : UInt8, c = wd[j] := ⟨_, rfl⟩
      have hd : wd.data.toList.drop j = c :: wd.data.toList.drop (j + 1) := by
        rw [List.drop_eq_getElem_cons (by rw [size_eq]; exact hlt), hc]
        rfl
      have HD := Lib.hid hd
      have HC := Lib.hid hc
      have hi0 : (0 : Int) ≤ (j : Int) := by omega
      have hi1 : (j : Int) < (wd.size : Int) := by omega
      clear hd
      by_cases hq : s.data.toList[k + j]? = some c
      · have N := Lib.hid ((mNeed_same s.data.toList c (k + j)).trans (if_pos hq))
        have HQ := Lib.hid hq
        clear hq hc
        go_wp2_with fail
        go_region_with (go_at_call 49; rw [← HC.out]; refine (need_any b s (k + j) tw lo f op _ _ _ (by omega) (HR.out.drew)).mono ?_; rintro e w1 ⟨rfl, hst⟩; rw [N.out] at hst ⊢; have X := Lib.hid hst; clear hst)
        all_goals
          go_wp2_with fail
          go_roundw
          case rel =>
            obtain ⟨f', hr, hf, _⟩ := X.out.rd
            obtain rfl := hf rfl
            refine ⟨j + 1, by omega, by go_num, hr, HG.out.trans ((grown_drew (grown_refl wr _)).trans X.out.grown), ?_⟩
            rw [HM.out, HD.out]
            exact (if_pos HQ.out).trans (by rw [Nat.add_assoc])
          case measure => simp [intOf]; omega
      · have N := Lib.hid ((mNeed_same s.data.toList c (k + j)).trans (if_neg hq))
        have HQ := Lib.hid hq
        clear hq hc
        go_wp2_with fail
        have e : mWord s.data.toList wd.data.toList k = (false, k + j) := by
          rw [HM.out, HD.out]
          exact if_neg HQ.out
        have HE := Lib.hid e
        clear e
        go_wp2_with fail
        go_region_with (go_at_call 49; rw [← HC.out]; refine (need_any b s (k + j) tw lo f op _ _ _ (by omega) (HR.out.drew)).mono ?_; rintro e w1 ⟨rfl, hst⟩; rw [N.out] at hst ⊢; have X := Lib.hid hst; clear hst)
        all_goals
          go_wp2_with fail
          go_ret
          rw [HE.out]
          exact ⟨rfl, Stood.from (HG.out.trans (grown_drew (grown_refl wr _))) rfl X.out⟩
    · go_wp2
      go_ret
      have e : mWord s.data.toList wd.data.toList k = (true, k + j) := by
        rw [HM.out, List.drop_eq_nil_of_le (by rw [size_eq]; omega)]
        rfl
      rw [e]
      exact ⟨rfl, HG.out, f, HR.out, fun _ => rfl, (fun h => by cases h)⟩

end Go.Proofs.YtlgmdcaoogiooaaGreatDoor

namespace Go.Proofs.YtlgmdcaoogiooaaGreatDoor
open Go.RowKit

theorem Stood.setAt {w w1 : World} {b : Nat} {s : ByteArray} {tw lo : Bool} {f : Int} {op : Bool} {k : Nat} (h : Stood w b s tw lo f op true k w1) (hk : k < s.size) : Stood w b s tw lo f op true (k + 1) (w1.setCell ⟨b, 1, none⟩ (.int .i64 ((k : Int) + 1))) := by
  refine ⟨grown_set h.grown _ _, f, ?_, fun _ => rfl, fun h => by cases h⟩
  have := h.yes.setAt (k + 1) hk
  simpa using this

theorem mDigits_yes {l : List UInt8} {k : Nat} (h : (mDigits l k).1 = true) : mDigits l k = (true, (mDigits l k).2) := Prod.ext h rfl
theorem mDigits_no {l : List UInt8} {k : Nat} (h : (mDigits l k).1 = false) : mDigits l k = (false, k) := by
  unfold mDigits at h ⊢
  split at h
  · cases h
  · rename_i q
    rw [if_neg q]

set_option maxRecDepth 100000 in
set_option maxHeartbeats 4000000 in
theorem number_any (b : Nat) (s : ByteArray) (k : Nat) (tw lo : Bool) (f : Int) (op : Bool) (w : World) (hs : s.size ≤ 100000000000) (h : Rd w b s k tw lo f op) :
    Calls Tryz.prog 52 #[.pointer (some ⟨b, 0, none⟩)] w (Step w b s tw lo f op (mNumber s.data.toList k)) := by
  have hlt := h.lt
  have H := Lib.hid h
  clear h
  obtain ⟨L, hL⟩ : ∃ L, L = s.data.toList := ⟨_, rfl⟩
  have hLs : L.length = s.size := by rw [hL, size_eq]
  have HL := Lib.hid hL
  have HLs := Lib.hid hLs
  obtain ⟨R, hR⟩ : ∃ R, mNumber L k = R := ⟨_, rfl⟩
  rw [← hL, hR]
  have HRes := Lib.hid hR
  clear hR hL hLs
  have see : ∀ j v, Stood w b s tw lo f op true j v → Calls Tryz.prog 30 #[.pointer (some ⟨b, 0, none⟩)] v fun e w' => e = .returned (.int .u8 (seeB L j)) ∧ Stood w b s tw lo f op true j w' := fun j v hv =>
    (see_any b s j tw lo f op v hv.yes).mono fun e w' q => by
      obtain ⟨n, rfl⟩ := q.world
      exact ⟨by rw [HL.out]; exact q.what, hv.drewN n⟩
  have digs : ∀ j v, Rd v b s j tw lo f op → Calls Tryz.prog 70 #[.pointer (some ⟨b, 0, none⟩)] v (Step v b s tw lo f op (mDigits L j)) := fun j v hv => by
    rw [HL.out]
    exact digits_any b s j tw lo f op v (by omega) hv
  have SEE := Lib.hid see
  have DIGS := Lib.hid digs
  clear see digs
  go_enter Tryz.func52, Tryz.ntmps52
  go_wp2_with fail
  refine (SEE.out k _ (Stood.start H.out)).mono ?_
  rintro e w1 ⟨rfl, hst0⟩
  obtain ⟨c, hc⟩ : ∃ c, seeB L k = c := ⟨_, rfl⟩
  rw [hc]
  have HC := Lib.hid hc
  clear hc
  have ST := Lib.hid hst0
  clear hst0
  go_upto_if 5 with fail
  go_cut [2] (fun s2 wx => ∃ k1, s2 = .bool false ∧ Stood w b s tw lo f op true k1 wx ∧ mInt L k1 = R)
  case first =>
    obtain ⟨c0, c1, c3, c4, f1, f4⟩ := ST.out.yes.cells
    by_cases h45 : c = 45
    · subst h45
      have hk : k < s.size := by rw [← HLs.out]; exact seeB_lt (by rw [HC.out]; decide)
      go_wp2_with fail
      go_meet
      exact ⟨k + 1, rfl, ST.out.setAt hk, by rw [← HRes.out]; unfold mNumber; rw [if_pos HC.out]⟩
    · have n45 : (c == 45) = false := by rw [beq_eq_false_iff_ne]; exact h45
      have HN := Lib.hid h45
      clear h45
      go_wp2_with fail
      go_meet
      exact ⟨k, rfl, ST.out, by rw [← HRes.out]; unfold mNumber; rw [if_neg (by rw [HC.out]; exact HN.out)]⟩
  case rest =>
    obtain ⟨k1, rfl, hst, hr⟩ := hcut
    have ST1 := Lib.hid hst
    have HR1 := Lib.hid hr
    clear hst hr
    go_wp2_with fail
    refine (SEE.out k1 _ ST1.out).mono ?_
    rintro e w1 ⟨rfl, hst0⟩
    obtain ⟨c, hc⟩ : ∃ c, seeB L k1 = c := ⟨_, rfl⟩
    rw [hc]
    have HC := Lib.hid hc
    clear hc
    have ST := Lib.hid hst0
    clear hst0
    go_upto_if 15 with fail
    go_cut [2] (fun s2 wx => ∃ k2, s2 = .bool false ∧ Stood w b s tw lo f op true k2 wx ∧ mFrac L k2 = R)
    case first =>
      obtain ⟨c0, c1, c3, c4, f1, f4⟩ := ST.out.yes.cells
      have hlt2 := ST.out.yes.lt
      by_cases h48 : c = 48
      · subst h48
        have hk : k1 < s.size := by rw [← HLs.out]; exact seeB_lt (by rw [HC.out]; decide)
        go_wp2_with fail
        go_meet
        exact ⟨k1 + 1, rfl, ST.out.setAt hk, by rw [← HR1.out]; unfold mInt; rw [if_pos HC.out]⟩
      · have n48 : (c == 48) = false := by rw [beq_eq_false_iff_ne]; exact h48
        have HN := Lib.hid h48
        clear h48
        go_wp2_with fail
        refine (DIGS.out k1 _ ST.out.yes).mono ?_
        cases hd : (mDigits L k1).1 with
        | true =>
          rw [mDigits_yes hd]
          have HD := Lib.hid hd
          clear hd
          rintro e w2 ⟨rfl, hst⟩
          have Y := Lib.hid (ST.out.thru hst)
          clear hst
          go_wp2_with fail
          go_meet
          exact ⟨_, rfl, Y.out, by rw [← HR1.out]; unfold mInt; rw [if_neg (by rw [HC.out]; exact HN.out), if_pos HD.out]⟩
        | false =>
          rw [mDigits_no hd]
          have HD := Lib.hid hd
          clear hd
          rintro e w2 ⟨rfl, hst⟩
          have Y := Lib.hid (ST.out.thru hst)
          clear hst
          go_wp2_with fail
          go_ret
          have e1 : R = (false, k1) := by rw [← HR1.out]; unfold mInt; rw [if_neg (by rw [HC.out]; exact HN.out), if_neg (by rw [HD.out]; simp), mDigits_no HD.out]
          rw [e1]
          exact ⟨rfl, Y.out⟩
    case rest =>
      obtain ⟨k2, rfl, hst, hr⟩ := hcut
      have ST2 := Lib.hid hst
      have HR2 := Lib.hid hr
      clear hst hr
      go_wp2_with fail
      refine (SEE.out k2 _ ST2.out).mono ?_
      rintro e w1 ⟨rfl, hst0⟩
      obtain ⟨c, hc⟩ : ∃ c, seeB L k2 = c := ⟨_, rfl⟩
      rw [hc]
      have HC := Lib.hid hc
      clear hc
      have ST := Lib.hid hst0
      clear hst0
      go_upto_if 28 with fail
      go_cut [2] (fun s2 wx => ∃ k3, s2 = .bool false ∧ Stood w b s tw lo f op true k3 wx ∧ mExp L k3 = R)
      case first =>
        obtain ⟨c0, c1, c3, c4, f1, f4⟩ := ST.out.yes.cells
        have hlt2 := ST.out.yes.lt
        by_cases h46 : c = 46
        · subst h46
          have hk : k2 < s.size := by rw [← HLs.out]; exact seeB_lt (by rw [HC.out]; decide)
          have ST' := Lib.hid (ST.out.setAt hk)
          go_wp2_with fail
          refine (DIGS.out (k2 + 1) _ ST'.out.yes).mono ?_
          cases hd : (mDigits L (k2 + 1)).1 with
          | true =>
            rw [mDigits_yes hd]
            have HD := Lib.hid hd
            clear hd
            rintro e w2 ⟨rfl, hst⟩
            have Y := Lib.hid (ST'.out.thru hst)
            clear hst
            go_wp2_with fail
            go_meet
            exact ⟨_, rfl, Y.out, by rw [← HR2.out]; unfold mFrac; rw [if_pos HC.out, if_pos HD.out]⟩
          | false =>
            rw [mDigits_no hd]
            have HD := Lib.hid hd
            clear hd
            rintro e w2 ⟨rfl, hst⟩
            have Y := Lib.hid (ST'.out.thru hst)
            clear hst
            go_wp2_with fail
            go_ret
            have e1 : R = (false, k2 + 1) := by rw [← HR2.out]; unfold mFrac; rw [if_pos HC.out, if_neg (by rw [HD.out]; simp), mDigits_no HD.out]
            rw [e1]
            exact ⟨rfl, Y.out⟩
        · have n46 : (c == 46) = false := by rw [beq_eq_false_iff_ne]; exact h46
          have HN := Lib.hid h46
          clear h46
          go_wp2_with fail
          go_meet
          exact ⟨k2, rfl, ST.out, by rw [← HR2.out]; unfold mFrac; rw [if_neg (by rw [HC.out]; exact HN.out)]⟩
      case rest =>
        obtain ⟨k3, rfl, hst, hr⟩ := hcut
        have ST3 := Lib.hid hst
        have HR3 := Lib.hid hr
        clear hst hr
        clear ST1 ST2 HR1 HR2
        go_wp2_with fail
        refine (SEE.out k3 _ ST3.out).mono ?_
        rintro e w1 ⟨rfl, hst0⟩
        obtain ⟨c, hc⟩ : ∃ c, seeB L k3 = c := ⟨_, rfl⟩
        rw [hc]
        have HC := Lib.hid hc
        clear hc
        have ST := Lib.hid hst0
        clear hst0
        obtain ⟨c0, c1, c3, c4, f1, f4⟩ := ST.out.yes.cells
        have hlt3 := ST.out.yes.lt
        by_cases h101 : c = 101
        · subst h101
          have HE := Lib.hid (show seeB L k3 = 101 ∨ seeB L k3 = 69 from .inl HC.out)
          have hk : k3 < s.size := by rw [← HLs.out]; exact seeB_lt (by rw [HC.out]; decide)
          have ST' := Lib.hid (ST.out.setAt hk)
          go_wp2_with fail
          refine (SEE.out (k3 + 1) _ ST'.out).mono ?_
          rintro e w1 ⟨rfl, hst0⟩
          obtain ⟨c', hc'⟩ : ∃ c', seeB L (k3 + 1) = c' := ⟨_, rfl⟩
          rw [hc']
          have HC' := Lib.hid hc'
          clear hc'
          have ST4 := Lib.hid hst0
          clear hst0
          clear c0 c1 c3 c4 f1 f4
          obtain ⟨c0, c1, c3, c4, f1, f4⟩ := ST4.out.yes.cells
          have hlt4 := ST4.out.yes.lt
          by_cases h43 : c' = 43
          · subst h43
            have hk4 : k3 + 1 < s.size := by rw [← HLs.out]; exact seeB_lt (by rw [HC'.out]; decide)
            have ST5 := Lib.hid (ST4.out.setAt hk4)
            go_wp2_with fail
            refine (DIGS.out (k3 + 1 + 1) _ ST5.out.yes).mono ?_
            have e1 : mDigits L (k3 + 1 + 1) = R := by rw [← HR3.out]; unfold mExp; rw [if_pos HE.out, if_pos (.inl HC'.out)]
            rw [e1]
            rintro e w9 ⟨rfl, hst⟩
            have Y := Lib.hid (ST5.out.thru hst)
            clear hst e1
            go_wp2_with fail
            go_ret
            exact ⟨rfl, Y.out⟩
          · have n43 : (c' == 43) = false := by rw [beq_eq_false_iff_ne]; exact h43
            have HN43 := Lib.hid h43
            clear h43
            go_wp2_with fail
            refine (SEE.out (k3 + 1) _ ST4.out).mono ?_
            rintro e w1 ⟨rfl, hst0⟩
            rw [HC'.out]
            have ST5 := Lib.hid hst0
            clear hst0
            clear c0 c1 c3 c4 f1 f4
            obtain ⟨c0, c1, c3, c4, f1, f4⟩ := ST5.out.yes.cells
            have hlt5 := ST5.out.yes.lt
            by_cases h45 : c' = 45
            · subst h45
              have hk4 : k3 + 1 < s.size := by rw [← HLs.out]; exact seeB_lt (by rw [HC'.out]; decide)
              have ST6 := Lib.hid (ST5.out.setAt hk4)
              go_wp2_with fail
              refine (DIGS.out (k3 + 1 + 1) _ ST6.out.yes).mono ?_
              have e1 : mDigits L (k3 + 1 + 1) = R := by rw [← HR3.out]; unfold mExp; rw [if_pos HE.out, if_pos (.inr HC'.out)]
              rw [e1]
              rintro e w9 ⟨rfl, hst⟩
              have Y := Lib.hid (ST6.out.thru hst)
              clear hst e1
              go_wp2_with fail
              go_ret
              exact ⟨rfl, Y.out⟩
            · have n45 : (c' == 45) = false := by rw [beq_eq_false_iff_ne]; exact h45
              have HN45 := Lib.hid h45
              clear h45
              go_wp2_with fail
              refine (DIGS.out (k3 + 1) _ ST5.out.yes).mono ?_
              have e1 : mDigits L (k3 + 1) = R := by rw [← HR3.out]; unfold mExp; rw [if_pos HE.out, if_neg (by rw [HC'.out]; exact fun q => q.elim HN43.out HN45.out)]
              rw [e1]
              rintro e w9 ⟨rfl, hst⟩
              have Y := Lib.hid (ST5.out.thru hst)
              clear hst e1
              go_wp2_with fail
              go_ret
              exact ⟨rfl, Y.out⟩
        · have n101 : (c == 101) = false := by rw [beq_eq_false_iff_ne]; exact h101
          have HN101 := Lib.hid h101
          clear h101
          go_wp2_with fail
          refine (SEE.out k3 _ ST.out).mono ?_
          rintro e w1 ⟨rfl, hst0⟩
          rw [HC.out]
          have STb := Lib.hid hst0
          clear hst0
          clear c0 c1 c3 c4 f1 f4
          obtain ⟨c0, c1, c3, c4, f1, f4⟩ := STb.out.yes.cells
          have hlt3b := STb.out.yes.lt
          by_cases h69 : c = 69
          · subst h69
            have HE := Lib.hid (show seeB L k3 = 101 ∨ seeB L k3 = 69 from .inr HC.out)
            have hk : k3 < s.size := by rw [← HLs.out]; exact seeB_lt (by rw [HC.out]; decide)
            have ST' := Lib.hid (STb.out.setAt hk)
            go_wp2_with fail
            refine (SEE.out (k3 + 1) _ ST'.out).mono ?_
            rintro e w1 ⟨rfl, hst0⟩
            obtain ⟨c', hc'⟩ : ∃ c', seeB L (k3 + 1) = c' := ⟨_, rfl⟩
            rw [hc']
            have HC' := Lib.hid hc'
            clear hc'
            have ST4 := Lib.hid hst0
            clear hst0
            clear c0 c1 c3 c4 f1 f4
            obtain ⟨c0, c1, c3, c4, f1, f4⟩ := ST4.out.yes.cells
            have hlt4 := ST4.out.yes.lt
            by_cases h43 : c' = 43
            · subst h43
              have hk4 : k3 + 1 < s.size := by rw [← HLs.out]; exact seeB_lt (by rw [HC'.out]; decide)
              have ST5 := Lib.hid (ST4.out.setAt hk4)
              go_wp2_with fail
              refine (DIGS.out (k3 + 1 + 1) _ ST5.out.yes).mono ?_
              have e1 : mDigits L (k3 + 1 + 1) = R := by rw [← HR3.out]; unfold mExp; rw [if_pos HE.out, if_pos (.inl HC'.out)]
              rw [e1]
              rintro e w9 ⟨rfl, hst⟩
              have Y := Lib.hid (ST5.out.thru hst)
              clear hst e1
              go_wp2_with fail
              go_ret
              exact ⟨rfl, Y.out⟩
            · have n43 : (c' == 43) = false := by rw [beq_eq_false_iff_ne]; exact h43
              have HN43 := Lib.hid h43
              clear h43
              go_wp2_with fail
              refine (SEE.out (k3 + 1) _ ST4.out).mono ?_
              rintro e w1 ⟨rfl, hst0⟩
              rw [HC'.out]
              have ST5 := Lib.hid hst0
              clear hst0
              clear c0 c1 c3 c4 f1 f4
              obtain ⟨c0, c1, c3, c4, f1, f4⟩ := ST5.out.yes.cells
              have hlt5 := ST5.out.yes.lt
              by_cases h45 : c' = 45
              · subst h45
                have hk4 : k3 + 1 < s.size := by rw [← HLs.out]; exact seeB_lt (by rw [HC'.out]; decide)
                have ST6 := Lib.hid (ST5.out.setAt hk4)
                go_wp2_with fail
                refine (DIGS.out (k3 + 1 + 1) _ ST6.out.yes).mono ?_
                have e1 : mDigits L (k3 + 1 + 1) = R := by rw [← HR3.out]; unfold mExp; rw [if_pos HE.out, if_pos (.inr HC'.out)]
                rw [e1]
                rintro e w9 ⟨rfl, hst⟩
                have Y := Lib.hid (ST6.out.thru hst)
                clear hst e1
                go_wp2_with fail
                go_ret
                exact ⟨rfl, Y.out⟩
              · have n45 : (c' == 45) = false := by rw [beq_eq_false_iff_ne]; exact h45
                have HN45 := Lib.hid h45
                clear h45
                go_wp2_with fail
                refine (DIGS.out (k3 + 1) _ ST5.out.yes).mono ?_
                have e1 : mDigits L (k3 + 1) = R := by rw [← HR3.out]; unfold mExp; rw [if_pos HE.out, if_neg (by rw [HC'.out]; exact fun q => q.elim HN43.out HN45.out)]
                rw [e1]
                rintro e w9 ⟨rfl, hst⟩
                have Y := Lib.hid (ST5.out.thru hst)
                clear hst e1
                go_wp2_with fail
                go_ret
                exact ⟨rfl, Y.out⟩
          · have n69 : (c == 69) = false := by rw [beq_eq_false_iff_ne]; exact h69
            have HN69 := Lib.hid h69
            clear h69
            go_wp2_with fail
            go_ret
            have e1 : (true, k3) = R := by rw [← HR3.out]; unfold mExp; rw [if_neg (by rw [HC.out]; exact fun q => q.elim HN101.out HN69.out)]
            rw [← e1]
            exact ⟨rfl, STb.out⟩

end Go.Proofs.YtlgmdcaoogiooaaGreatDoor
