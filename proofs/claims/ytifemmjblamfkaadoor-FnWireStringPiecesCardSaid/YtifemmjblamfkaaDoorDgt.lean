/- The reader's digits. -/
import Derived.Test.YtifemmjblamfkaaDoorSee
import Derived.Test.YtifemmjblamfkaaDoorScan
import Derived.BigQuiet
namespace Go.Proofs.YtifemmjblamfkaaDoor
open Go.RowKit

/-- Behind the digits from k on. -/
def mDigs (l : List UInt8) (k : Nat) : Nat := k + ((l.drop k).takeWhile (fun c => decide (isDig c.toNat))).length

theorem mDigs_on {l : List UInt8} {k : Nat} (hk : k < l.length) (h : isDig (l[k]'hk).toNat) : mDigs l k = mDigs l (k + 1) := by
  unfold mDigs
  rw [List.drop_eq_getElem_cons hk, List.takeWhile_cons, if_pos (by simpa using h), List.length_cons]
  omega

theorem mDigs_off {l : List UInt8} {k : Nat} (h : ∀ hk : k < l.length, ¬ isDig (l[k]'hk).toNat) : mDigs l k = k := by
  unfold mDigs
  by_cases hk : k < l.length
  · rw [List.drop_eq_getElem_cons hk, List.takeWhile_cons, if_neg (by simpa using h hk)]
    rfl
  · rw [List.drop_eq_nil_of_le (by omega)]
    rfl

/-- 'digits', in plain words. -/
def mDigits (l : List UInt8) (k : Nat) : Bool × Nat := if (mNeed l 48 57 k).1 = true then (true, mDigs l (k + 1)) else (false, k)

theorem mNeed_true {l : List UInt8} {c d : Int} {k : Nat} (h : (mNeed l c d k).1 = true) : mNeed l c d k = (true, k + 1) := by
  unfold mNeed at h ⊢
  split at h
  · split at h
    · rename_i q
      rw [if_pos q]
    · cases h
  · cases h

theorem mNeed_false {l : List UInt8} {c d : Int} {k : Nat} (h : ¬ (mNeed l c d k).1 = true) : mNeed l c d k = (false, k) := by
  unfold mNeed at h ⊢
  split at h
  · split at h
    · exact absurd rfl h
    · rename_i q
      rw [if_neg q]
  · rfl

set_option maxRecDepth 100000 in
set_option maxHeartbeats 2000000 in
theorem digits_any (b : Nat) (s : ByteArray) (k : Nat) (tw lo : Bool) (f : Int) (op : Bool) (w : World) (hs : s.size ≤ 9223372036854775806) (h : Rd w b s k tw lo f op) :
    Calls Tryd.prog 18 #[.pointer (some ⟨b, 0, none⟩)] w (Step w b s tw lo f op (mDigits s.data.toList k)) := by
  have H := Lib.hid h
  clear h
  by_cases hd : (mNeed s.data.toList 48 57 k).1 = true
  · have hN := Lib.hid (mNeed_true hd)
    have hm : mDigits s.data.toList k = (true, mDigs s.data.toList (k + 1)) := if_pos hd
    rw [hm]
    clear hm hd
    go_enter Tryd.func18, Tryd.ntmps18
    go_wp2_with fail
    refine (need_any b s k tw lo f op 48 57 _ hs H.out).mono ?_
    rw [hN.out]
    rintro e w1 ⟨rfl, hst⟩
    obtain ⟨f', hr, hf, _⟩ := hst.rd
    obtain rfl := hf rfl
    have HR1 := Lib.hid hr
    have HG1 := Lib.hid hst.grown
    clear hst hr hf
    go_wp2_with fail
    go_loopw [6] (fun _ wr => ∃ j : Nat, Rd wr b s j tw lo f' op ∧ w.grownBy wr (some b) ∧ mDigs s.data.toList (k + 1) = mDigs s.data.toList j)
      (fun _ wr => match wr.cell? ⟨b, 1, none⟩ with | some (.int _ i) => s.size - i.toNat | _ => 0)
    case atStart => exact ⟨k + 1, HR1.out, HG1.out, rfl⟩
    case round =>
      obtain ⟨j, hrd, hg, hm⟩ := hrel
      obtain ⟨c0, c1, _, _, f1, _⟩ := hrd.cells
      have hle := hrd.le
      have hlt := hrd.lt
      have HR := Lib.hid hrd
      have HG := Lib.hid hg
      have HM := Lib.hid hm
      clear hrd hg hm
      by_cases hk : j < s.size
      · have g0 : decide ((j : Int) < (s.size : Int)) = true := by simpa using hk
        have hi0 : (0 : Int) ≤ (j : Int) := by omega
        have hi1 : (j : Int) < (s.size : Int) := by omega
        have hgt : s.data.toList[j]'(by rw [size_eq]; exact hk) = s[j] := by simp [ByteArray.getElem_eq_getElem_data]
        have HGt := Lib.hid hgt
        clear hgt
        by_cases h1 : 48 ≤ (s[j]'hk).toNat
        · by_cases h2 : (s[j]'hk).toNat ≤ 57
          · have HS := Lib.hid (show isDig (s[j]'hk).toNat from ⟨h1, h2⟩)
            have d1 : decide ((48 : Int) ≤ (((s[j]'hk).toNat : Nat) : Int)) = true := decide_eq_true (by omega)
            have d2 : decide ((((s[j]'hk).toNat : Nat) : Int) ≤ 57) = true := decide_eq_true (by omega)
            clear h1 h2
            go_wp2_with fail
            go_big_quiet (fail)
            go_wp2_with fail
            go_roundw
            case rel => exact ⟨j + 1, (HR.out.drewN _).setAt (j + 1) hk, grown_set (grown_drewN HG.out _) 1 _, HM.out.trans (mDigs_on (by rw [size_eq]; exact hk) (by rw [HGt.out]; exact HS.out))⟩
            case measure =>
              have hc1 := ((HR.out.drewN nq).setAt (j + 1) hk).cells.2.1
              rw [c1]
              have e1 : (((j + 1 : Nat)) : Int) = (j : Int) + 1 := by omega
              rw [e1] at hc1
              rw [hc1]
              show s.size - ((j : Int) + 1).toNat < s.size - ((j : Int)).toNat
              omega
          · have HS := Lib.hid (show ¬ isDig (s[j]'hk).toNat from fun q => h2 q.2)
            have d1 : decide ((48 : Int) ≤ (((s[j]'hk).toNat : Nat) : Int)) = true := decide_eq_true (by omega)
            have d2 : decide ((((s[j]'hk).toNat : Nat) : Int) ≤ 57) = false := decide_eq_false (by omega)
            clear h1 h2
            go_wp2_with fail
            go_big_quiet (fail)
            go_wp2_with fail
            go_ret
            refine ⟨rfl, grown_drewN HG.out _, f', ?_, fun _ => rfl, fun e => (by cases e)⟩
            show Rd _ b s (mDigs s.data.toList (k + 1)) tw lo f' op
            rw [HM.out, mDigs_off (fun hk2 => by rw [HGt.out]; exact HS.out)]
            exact HR.out.drewN _
        · have HS := Lib.hid (show ¬ isDig (s[j]'hk).toNat from fun q => h1 q.1)
          have d1 : decide ((48 : Int) ≤ (((s[j]'hk).toNat : Nat) : Int)) = false := decide_eq_false (by omega)
          clear h1
          go_wp2_with fail
          go_big_quiet (fail)
          go_wp2_with fail
          go_ret
          refine ⟨rfl, grown_drewN HG.out _, f', ?_, fun _ => rfl, fun e => (by cases e)⟩
          show Rd _ b s (mDigs s.data.toList (k + 1)) tw lo f' op
          rw [HM.out, mDigs_off (fun hk2 => by rw [HGt.out]; exact HS.out)]
          exact HR.out.drewN _
      · have g0 : decide ((j : Int) < (s.size : Int)) = false := by simpa using hk
        go_wp2_with fail
        go_big_quiet (fail)
        go_wp2_with fail
        go_ret
        refine ⟨rfl, grown_drewN HG.out _, f', ?_, fun _ => rfl, fun e => (by cases e)⟩
        show Rd _ b s (mDigs s.data.toList (k + 1)) tw lo f' op
        rw [HM.out, mDigs_off (fun hk2 => absurd hk2 (by rw [size_eq]; exact hk))]
        exact HR.out.drewN _
  · have hN := Lib.hid (mNeed_false hd)
    have hm : mDigits s.data.toList k = (false, k) := if_neg hd
    rw [hm]
    clear hm hd
    go_enter Tryd.func18, Tryd.ntmps18
    go_wp2_with fail
    refine (need_any b s k tw lo f op 48 57 _ hs H.out).mono ?_
    rw [hN.out]
    rintro e w1 ⟨rfl, hst⟩
    have HST := Lib.hid hst
    clear hst
    go_wp2_with fail
    go_ret
    exact ⟨rfl, HST.out⟩

end Go.Proofs.YtifemmjblamfkaaDoor
