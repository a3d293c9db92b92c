/- The walk of encoding/json's 'appendNewline'. -/
import Derived.Test.YtlgmdcaoogiooaaGreatDoorLive
import Derived.Deep.QuietTactic
import Derived.BigQuiet
namespace Go.Proofs.YtlgmdcaoogiooaaGreatDoor.Ind
open Go.RowKit Go.Proofs.YtlgmdcaoogiooaaGreatDoor

theorem rep_succ (i : List UInt8) (k : Nat) : (List.replicate (k + 1) i).flatten = (List.replicate k i).flatten ++ i := by
  rw [List.replicate_succ', List.flatten_append]
  simp

theorem rep_len (i : List UInt8) (k : Nat) (hi : i.length ≤ 16) (hk : k ≤ 2000) : (List.replicate k i).flatten.length ≤ 32000 := by
  simp only [List.length_flatten, List.map_replicate, List.sum_replicate_nat]
  have := Nat.mul_le_mul hk hi
  omega

set_option maxRecDepth 100000 in
set_option maxHeartbeats 4000000 in
theorem newline_any (v0 : Value) (l0 : List UInt8) (p i : ByteArray) (d : Int) (w : World) (hown : Own w v0 l0) (hl : l0.length ≤ 100000000) (hp : p.size ≤ 16) (hi : i.size ≤ 16) (hd : d ≤ 2000) :
    Calls Tryz.prog 44 #[v0, .string p, .string i, .int .i64 d] w fun e w' => ∃ v', e = .returned v' ∧ AppL w v0 w' v' (l0 ++ nlB p.data.toList i.data.toList d) := by
  obtain ⟨P, hP⟩ : ∃ P, p.data.toList = P := ⟨_, rfl⟩
  obtain ⟨I, hI⟩ : ∃ I, i.data.toList = I := ⟨_, rfl⟩
  have hpl : P.length ≤ 16 := by rw [← hP, size_eq]; exact hp
  have hil : I.length ≤ 16 := by rw [← hI, size_eq]; exact hi
  rw [hP, hI]
  have HP := Lib.hid hP
  have HI := Lib.hid hI
  have HL := Lib.hid hl
  have HPL := Lib.hid hpl
  have HIL := Lib.hid hil
  have H0 := Lib.hid hown
  clear hP hI hl hpl hil hown
  go_enter Tryz.func44, Tryz.ntmps44
  go_wp2_with (first
    | (at_builtin; refine wpList_appL u8m rfl (.tmp 10) (.tmp 11) 51 rfl ((AppL.refl H0.out).alloc _) (by rfl) [10] (by rfl) (by exact src_block u8m (by exact heap_alloc_new w _) [10] (by rfl) 1) (by have := HL.out; simp; omega) ?_; intro v1 w1 h1; have H1 := Lib.hid h1; clear h1)
    | (at_builtin; refine wpList_appL u8m rfl (.tmp 13) (.tmp 14) 9 rfl H1.out (by rfl) P (by rfl) (by exact src_strm p P HP.out) (by have := HL.out; have := HPL.out; simp; omega) ?_; intro v2 w2 h2; have H2 := Lib.hid h2; clear h2))
  go_loopw [0, 9] (fun v k wr => ∃ j : Nat, k = .int .i64 (j : Int) ∧ j ≤ d.toNat ∧ AppL w v0 wr v (l0 ++ [10] ++ P ++ (List.replicate j I).flatten)) (fun _ k _ => d.toNat - (intOf k).toNat)
  case atStart => exact ⟨0, rfl, Nat.zero_le _, by simpa using H2.out⟩
  case round =>
    obtain ⟨j, rfl, hj, happ⟩ := hrel
    have HA := Lib.hid happ
    have HR := Lib.hid (rep_len I j HIL.out (by omega))
    clear happ
    by_cases hjd : (j : Int) < d
    · go_wp2_with (at_builtin; refine wpList_appL u8m rfl (.tmp 21) (.tmp 22) 9 rfl HA.out (by rfl) I (by rfl) (by exact src_strm i I HI.out) (by have := HL.out; have := HPL.out; have := HIL.out; have := HR.out; simp only [List.length_append, List.length_cons, List.length_nil]; omega) ?_; intro v3 w3 h3; have H3 := Lib.hid h3; clear h3)
      exact ⟨⟨j + 1, by simp, by omega, by rw [rep_succ, ← List.append_assoc]; exact H3.out⟩, by simp only [intOf]; omega⟩
    · have hjj : j = d.toNat ∨ d ≤ 0 := by omega
      have HJ := Lib.hid (show (List.replicate j I).flatten = (List.replicate d.toNat I).flatten by
        have : j = d.toNat := by omega
        rw [this])
      clear hjj
      go_wp2_with fail
      go_ret
      refine ⟨_, rfl, ?_⟩
      have := HA.out
      rw [HJ.out] at this
      unfold nlB
      simpa using this

end Go.Proofs.YtlgmdcaoogiooaaGreatDoor.Ind
