/- The reference's words: 'word', 'came', 'WordHead'. -/
import Derived.Test.YtebiendmngmjcaaDoorReader
import Derived.Deep.RegionWith
namespace Go.Proofs.YtebiendmngmjcaaDoor
open Go.RowKit

/-- 'word', in plain words. -/
def mWord (l : List UInt8) : List UInt8 → Nat → Bool × Nat
  | [], k => (true, k)
  | c :: t, k => if l[k]? = some c then mWord l t (k + 1) else (false, k)

theorem mNeed_same (l : List UInt8) (c : UInt8) (k : Nat) : mNeed l ((c.toNat : Nat) : Int) ((c.toNat : Nat) : Int) k = if l[k]? = some c then (true, k + 1) else (false, k) := by
  unfold mNeed
  cases h : l[k]? with
  | none => simp
  | some d =>
    by_cases e : d = c
    · subst e; simp
    · have : d.toNat ≠ c.toNat := fun h => e (UInt8.toNat_inj.1 h)
      rw [if_neg (by simp [e])]
      exact if_neg (by omega)

set_option maxHeartbeats 400000 in
theorem word_any (b : Nat) (s wd : ByteArray) (k : Nat) (tw lo : Bool) (f : Int) (op : Bool) (w : World) (hs : s.size ≤ 100000000000) (hwd : wd.size ≤ 1000000000) (h : Rd w b s k tw lo f op) :
    Calls Tryd.prog 21 #[.pointer (some ⟨b, 0, none⟩), .string wd] w (Step w b s tw lo f op (mWord s.data.toList wd.data.toList k)) := by
  have H := Lib.hid h
  clear h
  go_enter Tryd.func21, Tryd.ntmps21
  go_wp2
  go_loopw [8] (fun i wr => ∃ j : Nat, j ≤ wd.size ∧ i = .int .i64 j ∧ Rd wr b s (k + j) tw lo f op ∧ w.grownBy wr (some b) ∧ mWord s.data.toList wd.data.toList k = mWord s.data.toList (wd.data.toList.drop j) (k + j))
    (fun i _ => wd.size - (intOf i).toNat)
  case atStart => exact ⟨0, Nat.zero_le _, rfl, H.out, grown_refl _ _, by simp⟩
  case round =>
    obtain ⟨j, hj, rfl, hrd, hg, hm⟩ := hrel
    have HR := Lib.hid hrd
    have HG := Lib.hid hg
    have HM := Lib.hid hm
    clear hrd hg hm
    by_cases hlt : j < wd.size
    · obtain ⟨c, hc⟩ : ∃ c : UInt8, c = wd[j] := ⟨_, rfl⟩
      have hd : wd.data.toList.drop j = c :: wd.data.toList.drop (j + 1) := by
        rw [List.drop_eq_getElem_cons (by rw [size_eq]; exact hlt), hc]
        rfl
      have HD := Lib.hid hd
      have HC := Lib.hid hc
      have hi0 : (0 : Int) ≤ (j : Int) := by omega
      have hi1 : (j : Int) < (wd.size : Int) := by omega
      clear hd
      by_cases hq : s.data.toList[k + j]? = some c
      · have N := Lib.hid ((mNeed_same s.data.toList c (k + j)).trans (if_pos hq))
        have HQ := Lib.hid hq
        clear hq hc
        go_wp2_with fail
        go_region_with (go_at_call 20; rw [← HC.out]; refine (need_any b s (k + j) tw lo f op _ _ _ (by omega) (HR.out.drew)).mono ?_; rintro e w1 ⟨rfl, hst⟩; rw [N.out] at hst ⊢; have X := Lib.hid hst; clear hst)
        all_goals
          go_wp2_with fail
          go_roundw
          case rel =>
            obtain ⟨f', hr, hf, _⟩ := X.out.rd
            obtain rfl := hf rfl
            refine ⟨j + 1, by omega, by go_num, hr, HG.out.trans ((grown_drew (grown_refl wr _)).trans X.out.grown), ?_⟩
            rw [HM.out, HD.out]
            exact (if_pos HQ.out).trans (by rw [Nat.add_assoc])
          case measure => simp [intOf]; omega
      · have N := Lib.hid ((mNeed_same s.data.toList c (k + j)).trans (if_neg hq))
        have HQ := Lib.hid hq
        clear hq hc
        go_wp2_with fail
        have e : mWord s.data.toList wd.data.toList k = (false, k + j) := by
          rw [HM.out, HD.out]
          exact if_neg HQ.out
        have HE := Lib.hid e
        clear e
        go_wp2_with fail
        go_region_with (go_at_call 20; rw [← HC.out]; refine (need_any b s (k + j) tw lo f op _ _ _ (by omega) (HR.out.drew)).mono ?_; rintro e w1 ⟨rfl, hst⟩; rw [N.out] at hst ⊢; have X := Lib.hid hst; clear hst)
        all_goals
          go_wp2_with fail
          go_ret
          rw [HE.out]
          exact ⟨rfl, Stood.from (HG.out.trans (grown_drew (grown_refl wr _))) rfl X.out⟩
    · go_wp2
      go_ret
      have e : mWord s.data.toList wd.data.toList k = (true, k + j) := by
        rw [HM.out, List.drop_eq_nil_of_le (by rw [size_eq]; omega)]
        rfl
      rw [e]
      exact ⟨rfl, HG.out, f, HR.out, fun _ => rfl, (fun h => by cases h)⟩

end Go.Proofs.YtebiendmngmjcaaDoor
