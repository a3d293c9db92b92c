/- The walk of the reader's 'space'. -/
import Derived.Test.YtebiendmngmjcaaDoorSpc
namespace Go.Proofs.YtebiendmngmjcaaDoor
open Go.RowKit

/-- What 'space' leaves. -/
structure SpRes (w : World) (b : Nat) (s : ByteArray) (tw lo : Bool) (f : Int) (op : Bool) (k : Nat) (e : Ending) (w' : World) : Prop where
  what : e = .returned (.tuple #[])
  rd : Rd w' b s k tw lo f op
  grown : w.grownBy w' (some b)

set_option maxRecDepth 100000 in
set_option maxHeartbeats 1000000 in
theorem space_any (b : Nat) (s : ByteArray) (k : Nat) (tw lo : Bool) (f : Int) (op : Bool) (w : World) (hs : s.size ≤ 9223372036854775806) (h : Rd w b s k tw lo f op) :
    Calls Tryd.prog 9 #[.pointer (some ⟨b, 0, none⟩)] w (SpRes w b s tw lo f op (mSpace s.data.toList k)) := by
  have H := Lib.hid h
  clear h
  go_enter Tryd.func9, Tryd.ntmps9
  go_wp2_with fail
  go_loopw [2] (fun _ wr => ∃ j : Nat, Rd wr b s j tw lo f op ∧ w.grownBy wr (some b) ∧ mSpace s.data.toList k = mSpace s.data.toList j)
    (fun _ wr => match wr.cell? ⟨b, 1, none⟩ with | some (.int _ i) => s.size - i.toNat | _ => 0)
  case atStart => exact ⟨k, H.out, grown_refl _ _, rfl⟩
  case round =>
    obtain ⟨j, hrd, hg, hm⟩ := hrel
    obtain ⟨c0, c1, _, _, f1, _⟩ := hrd.cells
    have hle := hrd.le
    have hlt := hrd.lt
    have HR := Lib.hid hrd
    have HG := Lib.hid hg
    have HM := Lib.hid hm
    clear hrd hg hm
    by_cases hk : j < s.size
    · have g0 : decide ((j : Int) < (s.size : Int)) = true := by simpa using hk
      have hi0 : (0 : Int) ≤ (j : Int) := by omega
      have hi1 : (j : Int) < (s.size : Int) := by omega
      have hgt : s.data.toList[j]'(by rw [size_eq]; exact hk) = s[j] := by simp [ByteArray.getElem_eq_getElem_data]
      have HGt := Lib.hid hgt
      clear hgt
      by_cases hsp : isSp (s[j]'hk).toNat
      · have HS := Lib.hid hsp
        clear hsp
        have HC := Lib.hid (show ∀ v, Calls Tryd.prog 16 #[.int .u8 (((s[j]'hk).toNat : Nat) : Int)] v fun e w' => e = .returned (.bool true) ∧ w' = v from fun v => (specSpace_any _ v).mono fun e w' q => ⟨by rw [q.2, decide_eq_true HS.out], q.1⟩)
        go_wp2_with fail
        go_big_quiet (first | (go_at_call 16; refine Calls.quiet_of_same (HC.out _)))
        go_wp2_with fail
        refine ⟨⟨j + 1, (HR.out.drewN _).setAt (j + 1) hk, grown_set (grown_drewN HG.out _) 1 _, HM.out.trans (mSpace_on (by rw [size_eq]; exact hk) (by rw [HGt.out]; exact HS.out))⟩, ?_⟩
        have hc1 := ((HR.out.drewN nq).setAt (j + 1) hk).cells.2.1
        rw [c1]
        have e1 : (((j + 1 : Nat)) : Int) = (j : Int) + 1 := by omega
        rw [e1] at hc1
        rw [hc1]
        show s.size - ((j : Int) + 1).toNat < s.size - ((j : Int)).toNat
        omega
      · have HS := Lib.hid hsp
        clear hsp
        have HC := Lib.hid (show ∀ v, Calls Tryd.prog 16 #[.int .u8 (((s[j]'hk).toNat : Nat) : Int)] v fun e w' => e = .returned (.bool false) ∧ w' = v from fun v => (specSpace_any _ v).mono fun e w' q => ⟨by rw [q.2, decide_eq_false HS.out], q.1⟩)
        go_wp2_with fail
        go_big_quiet (first | (go_at_call 16; refine Calls.quiet_of_same (HC.out _)))
        go_wp2_with fail
        refine bodyPost_end (v := .tuple #[]) (by simp [results, Tryd.results9]) rfl ⟨rfl, ?_, grown_drewN HG.out _⟩
        rw [HM.out, mSpace_off (fun hk2 => by rw [HGt.out]; exact HS.out)]
        exact HR.out.drewN _
    · have g0 : decide ((j : Int) < (s.size : Int)) = false := by simpa using hk
      go_wp2_with fail
      go_big_quiet (fail)
      go_wp2_with fail
      refine bodyPost_end (v := .tuple #[]) (by simp [results, Tryd.results9]) rfl ⟨rfl, ?_, grown_drewN HG.out _⟩
      rw [HM.out, mSpace_off (fun hk2 => absurd hk2 (by rw [size_eq]; exact hk))]
      exact HR.out.drewN _

end Go.Proofs.YtebiendmngmjcaaDoor
