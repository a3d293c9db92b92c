/- The walk of encoding/json's HTML escape: what it appends. -/
import Derived.Test.YthehfindahcbnaaChecked
import Derived.Test.YthehfindahcbnaaLib
import Derived.Test.YthehfindahcbnaaEsc
import Derived.Deep.QuietTactic
import Derived.BigQuiet
import Derived.Deep.RegionLaw
namespace Go.Proofs.Ythehfindahcbnaa
open Go.RowKit

theorem u8 : U8 Try.prog 37 5 := ⟨by kernel_rfl, by kernel_rfl, by kernel_rfl⟩

set_option maxRecDepth 100000 in
set_option maxHeartbeats 1000000 in
theorem htmlEscape_any (v0 : Value) (l0 l : List UInt8) (b n cap : Nat) (w : World) (hn : n = l.length) (hown : Own w v0 l0) (hb : b < w.heap.size) (hne : ∀ a, baseOf v0 = some a → a.block ≠ b)
    (hbytes : Bytes w b 0 l) (hlen : l.length ≤ cap) (hcap : cap ≤ 9223372036854775807) (hsz : l0.length + 6 * l.length ≤ 1000000000) :
    Calls Try.prog 13 #[v0, .slice (some ⟨b, 0, none⟩) n cap] w fun e w' => ∃ v', e = .returned v' ∧ AppTo w v0 w' v' (l0 ++ Esc.H l) := by
  subst hn
  go_enter Try.func13, Try.ntmps13
  go_wp2
  go_loopw [0, 5, 10] (fun d s i wr => ∃ (k st : Nat) (out : List UInt8), k ≤ l.length ∧ i = .int .i64 k ∧ s = .int .i64 st ∧ AppTo w v0 wr d out ∧ Esc.Inv l l0 out st k)
    (fun _ _ i _ => l.length - (intOf i).toNat)
  case atStart => exact ⟨0, 0, l0, Nat.zero_le _, rfl, rfl, AppTo.refl hown, Esc.Inv.start l l0⟩
  case round =>
    obtain ⟨k, st, out, hk, rfl, rfl, happ, hinv⟩ := hrel
    have hob := hinv.bound
    have hbw := hbytes.kept happ.kept hb hne
    have HI := Lib.hid hinv
    have HA := Lib.hid happ
    have HB := Lib.hid hbw
    have HN := Lib.hid hne
    have HO := Lib.hid hown
    have HB0 := Lib.hid hbytes
    clear hinv happ hbw hne hown hbytes
    by_cases hlt : k < l.length
    · have hc0 := HB.out.at0 k hlt
      by_cases he : Esc.esc1 l[k] = true
      · obtain ⟨hsk, hI'⟩ := HI.out.esc hlt he
        have h3 : l[k] = 60 ∨ l[k] = 62 ∨ l[k] = 38 := by simpa [Esc.esc1, or_assoc] using he
        rcases h3 with h3 | h3 | h3
        · rw [h3] at hc0 hI'
          have HJ := Lib.hid hI'
          clear hI' he h3
          go_wp2_with (at_builtin; (refine wpList_app u8 rfl (.tmp 25) (.tmp 29) 37 rfl HA.out rfl ((l.drop st).take (k - st)) rfl (by exact HB.out.src_in0 u8 st (k - st) _ (by omega)) (by simp; omega) ?_); intro v1 w1 h1)
          have e1 : bits .and .u8 60 15 = 12 := by decide +kernel
          have H1 := Lib.hid h1
          clear h1
          go_region_law ((refine step_app u8 rfl (.tmp 31) (.tmp 38) 37 rfl (by exact (H1.out.alloc _).drew) (by rfl) (Esc.e1 60) (by rfl) (by exact src_block u8 (by exact heap_alloc_new w1 _) (Esc.e1 60) (by rfl) 6) (by simp [Esc.e1]; omega) ?_; intro v3 w3 h3))
          all_goals
            go_wp2
            go_roundw
            case rel => exact ⟨k + 1, k + 1, _, by omega, by go_num, by go_num, h3, HJ.out⟩
            case measure => simp [intOf]; omega
        · rw [h3] at hc0 hI'
          have HJ := Lib.hid hI'
          clear hI' he h3
          go_wp2_with (at_builtin; (refine wpList_app u8 rfl (.tmp 25) (.tmp 29) 37 rfl HA.out rfl ((l.drop st).take (k - st)) rfl (by exact HB.out.src_in0 u8 st (k - st) _ (by omega)) (by simp; omega) ?_); intro v1 w1 h1)
          have e1 : bits .and .u8 62 15 = 14 := by decide +kernel
          have H1 := Lib.hid h1
          clear h1
          go_region_law ((refine step_app u8 rfl (.tmp 31) (.tmp 38) 37 rfl (by exact (H1.out.alloc _).drew) (by rfl) (Esc.e1 62) (by rfl) (by exact src_block u8 (by exact heap_alloc_new w1 _) (Esc.e1 62) (by rfl) 6) (by simp [Esc.e1]; omega) ?_; intro v3 w3 h3))
          all_goals
            go_wp2
            go_roundw
            case rel => exact ⟨k + 1, k + 1, _, by omega, by go_num, by go_num, h3, HJ.out⟩
            case measure => simp [intOf]; omega
        · rw [h3] at hc0 hI'
          have HJ := Lib.hid hI'
          clear hI' he h3
          go_wp2_with (at_builtin; (refine wpList_app u8 rfl (.tmp 25) (.tmp 29) 37 rfl HA.out rfl ((l.drop st).take (k - st)) rfl (by exact HB.out.src_in0 u8 st (k - st) _ (by omega)) (by simp; omega) ?_); intro v1 w1 h1)
          have e1 : bits .and .u8 38 15 = 6 := by decide +kernel
          have H1 := Lib.hid h1
          clear h1
          go_region_law ((refine step_app u8 rfl (.tmp 31) (.tmp 38) 37 rfl (by exact (H1.out.alloc _).drew) (by rfl) (Esc.e1 38) (by rfl) (by exact src_block u8 (by exact heap_alloc_new w1 _) (Esc.e1 38) (by rfl) 6) (by simp [Esc.e1]; omega) ?_; intro v3 w3 h3))
          all_goals
            go_wp2
            go_roundw
            case rel => exact ⟨k + 1, k + 1, _, by omega, by go_num, by go_num, h3, HJ.out⟩
            case measure => simp [intOf]; omega
      · have he' : Esc.esc1 l[k] = false := by simpa using he
        have hx : l[k] ≠ 60 ∧ l[k] ≠ 62 ∧ l[k] ≠ 38 := by simpa [Esc.esc1, not_or, and_assoc] using he
        have x60 : (((l[k].toNat : Nat) : Int) == 60) = false := u8_ne hx.1
        have x62 : (((l[k].toNat : Nat) : Int) == 62) = false := u8_ne hx.2.1
        have x38 : (((l[k].toNat : Nat) : Int) == 38) = false := u8_ne hx.2.2
        by_cases h3 : Esc.sp3 (l.drop k) = true
        · obtain ⟨hk2, g0, g1, g2⟩ := (Esc.sp3_at l k).1 h3
          have hc1 := HB.out.at0 (k + 1) (by omega)
          have hc2 := HB.out.at0 (k + 2) (by omega)
          obtain ⟨hsk, hI'⟩ := HI.out.three hk2 g0 g1 g2
          clear he he' hx x60 x62 x38 h3
          rw [g0] at hc0
          rw [g1] at hc1
          have hcw := HB0.out.at0 (k + 2) hk2
          rcases g2 with g2 | g2
          · rw [g2] at hc2 hI' hcw
            have HJ := Lib.hid hI'
            have HW := Lib.hid hcw
            clear hI' g0 g1 g2 hcw
            have e1 : bits .andNot .u8 168 1 = 168 := by decide +kernel
            have e2 : bits .and .u8 168 15 = 8 := by decide +kernel
            go_wp2_with (first
              | (at_builtin; refine wpList_app u8 rfl (.tmp 68) (.tmp 72) 37 rfl HA.out rfl ((l.drop st).take (k - st)) rfl (by exact HB.out.src_in0 u8 st (k - st) _ (by omega)) (by simp; omega) ?_; intro v1 w1 h1; have hc3 := (h1.cell (k + 2) hb HN.out).trans HW.out; have H1 := Lib.hid h1; clear h1)
              | (at_builtin; refine wpList_app u8 rfl (.tmp 74) (.tmp 82) 37 rfl (H1.out.alloc _) (by rfl) (Esc.e3 168) (by rfl) (by exact src_block u8 (by exact heap_alloc_new w1 _) (Esc.e3 168) (by rfl) 6) (by simp [Esc.e3]; omega) ?_; intro v3 w3 h3))
            all_goals
              go_wp2
              go_roundw
              case rel => exact ⟨k + 1, k + 3, _, by omega, by go_num, by go_num, h3, HJ.out⟩
              case measure => simp [intOf]; omega
          · rw [g2] at hc2 hI' hcw
            have HJ := Lib.hid hI'
            have HW := Lib.hid hcw
            clear hI' g0 g1 g2 hcw
            have e1 : bits .andNot .u8 169 1 = 168 := by decide +kernel
            have e2 : bits .and .u8 169 15 = 9 := by decide +kernel
            go_wp2_with (first
              | (at_builtin; refine wpList_app u8 rfl (.tmp 68) (.tmp 72) 37 rfl HA.out rfl ((l.drop st).take (k - st)) rfl (by exact HB.out.src_in0 u8 st (k - st) _ (by omega)) (by simp; omega) ?_; intro v1 w1 h1; have hc3 := (h1.cell (k + 2) hb HN.out).trans HW.out; have H1 := Lib.hid h1; clear h1)
              | (at_builtin; refine wpList_app u8 rfl (.tmp 74) (.tmp 82) 37 rfl (H1.out.alloc _) (by rfl) (Esc.e3 169) (by rfl) (by exact src_block u8 (by exact heap_alloc_new w1 _) (Esc.e3 169) (by rfl) 6) (by simp [Esc.e3]; omega) ?_; intro v3 w3 h3))
            all_goals
              go_wp2
              go_roundw
              case rel => exact ⟨k + 1, k + 3, _, by omega, by go_num, by go_num, h3, HJ.out⟩
              case measure => simp [intOf]; omega
        · have h3' : Esc.sp3 (l.drop k) = false := by simpa using h3
          have HJ := Lib.hid (HI.out.plain hlt he' h3')
          have h3n := fun h => h3 ((Esc.sp3_at l k).2 h)
          have H3 := Lib.hid h3n
          clear he he' hx h3 h3' h3n
          by_cases g0 : l[k] = 226
          · by_cases hk2 : k + 2 < l.length
            · have hc1 := HB.out.at0 (k + 1) (by omega)
              by_cases g1 : l[k + 1] = 128
              · have hc2 := HB.out.at0 (k + 2) hk2
                have g2 : ¬ (l[k + 2] = 168 ∨ l[k + 2] = 169) := fun h => H3.out ⟨hk2, g0, g1, h⟩
                have x2 := and1_168 l[k + 2] g2
                rw [g0] at hc0
                rw [g1] at hc1
                clear g0 g1 g2 x60 x62 x38
                go_wp2
                go_roundw
                case rel => exact ⟨k + 1, st, out, by omega, by go_num, rfl, HA.out, HJ.out⟩
                case measure => simp [intOf]; omega
              · have x1 : (((l[k + 1].toNat : Nat) : Int) == 128) = false := u8_ne g1
                rw [g0] at hc0
                clear g0 g1 x60 x62 x38
                go_wp2
                go_roundw
                case rel => exact ⟨k + 1, st, out, by omega, by go_num, rfl, HA.out, HJ.out⟩
                case measure => simp [intOf]; omega
            · rw [g0] at hc0
              clear g0 x60 x62 x38
              go_wp2
              go_roundw
              case rel => exact ⟨k + 1, st, out, by omega, by go_num, rfl, HA.out, HJ.out⟩
              case measure => simp [intOf]; omega
          · have x0 : (((l[k].toNat : Nat) : Int) == 226) = false := u8_ne g0
            clear g0
            go_wp2
            go_roundw
            case rel => exact ⟨k + 1, st, out, by omega, by go_num, rfl, HA.out, HJ.out⟩
            case measure => simp [intOf]; omega
    · obtain ⟨hs, he⟩ := HI.out.done (by omega)
      have HE := Lib.hid he
      clear he
      go_wp2_with (at_builtin; (refine wpList_app u8 rfl (.tmp 87) (.tmp 90) 37 rfl HA.out rfl ((l.drop st).take (l.length - st)) rfl (by exact HB.out.src_sub0 u8 cap st (l.length - st) _ hlen (by omega)) (by simp; omega) ?_); intro v1 w1 h1)
      all_goals
        go_ret
        refine ⟨_, rfl, ?_⟩
        rw [← HE.out]
        rwa [List.take_of_length_le (by simp)] at h1
end Go.Proofs.Ythehfindahcbnaa
