/- The kind that the package tells: its walk. -/
import Derived.Test.YtebiendmngmjcaaDoorKind
import Derived.Deep.RegionWith
namespace Go.Proofs.YtebiendmngmjcaaDoor
open Go.RowKit

/-- The table of kinds. -/
def KindTab (W : World) : Prop := ∀ c, c < 256 → W.cell? ⟨0, c, none⟩ = some (.int .u8 ((normK c : Nat) : Int))

theorem KindTab.below {W W' : World} {n : Nat} (h : KindTab W) (hb : Below n W W') (hn : 0 < n) : KindTab W' := fun c hc => (cell_of_heap (hb.block 0 hn) c).trans (h c hc)

theorem u8v : U8 Tryd.prog 43 5 := ⟨by kernel_rfl, by kernel_rfl, by kernel_rfl⟩

set_option maxRecDepth 100000 in
set_option maxHeartbeats 2000000 in
theorem consumeWs_any (l : List UInt8) (b n cap : Nat) (w : World) (hn : n = l.length) (hl : l.length ≤ 1000) (hbytes : Bytes w b 0 l) :
    Calls Tryd.prog 17 #[.slice (some ⟨b, 0, none⟩) n cap] w fun e w' => e = .returned (.int .i64 ((mSpace l 0 : Nat) : Int)) ∧ w' = w := by
  subst hn
  have HB := Lib.hid hbytes
  clear hbytes
  go_enter Tryd.func17, Tryd.ntmps17
  go_wp2_with fail
  go_loop [2] (fun i => ∃ k : Nat, k ≤ l.length ∧ i = .int .i64 k ∧ mSpace l 0 = mSpace l k) (fun i => l.length - (intOf i).toNat)
  case atStart => exact ⟨0, Nat.zero_le _, rfl, rfl⟩
  case round =>
    obtain ⟨k, hk, rfl, hm⟩ := hrel
    have HM := Lib.hid hm
    clear hm
    by_cases hlt : k < l.length
    · obtain ⟨c, hc⟩ : ∃ c : UInt8, c = l[k]'hlt := ⟨_, rfl⟩
      have hcell := HB.out.at0 k hlt
      rw [← hc] at hcell
      obtain ⟨a, ha⟩ : ∃ a : Nat, c.toNat = a := ⟨_, rfl⟩
      rw [ha] at hcell
      have hi0 : (0 : Int) ≤ (k : Int) := by omega
      have hi1 : (k : Int) < (l.length : Int) := by omega
      have HC := Lib.hid hc
      have HA := Lib.hid ha
      clear hc ha
      by_cases hsp : isSp a
      · have HSP := Lib.hid (show mSpace l k = mSpace l (k + 1) from mSpace_on hlt (by rw [← HC.out, HA.out]; exact hsp))
        have h4 : a = 32 ∨ a = 9 ∨ a = 13 ∨ a = 10 := hsp
        clear hsp
        rcases h4 with rfl | rfl | rfl | rfl
        all_goals
          go_wp2_with fail
          go_round
          case rel => exact ⟨k + 1, hlt, by go_num, HM.out.trans HSP.out⟩
          case measure => simp [intOf]; omega
      · have HSP := Lib.hid (show mSpace l k = k from mSpace_off (fun _ => by rw [← HC.out, HA.out]; exact hsp))
        unfold isSp at hsp
        have n1 : ((a : Int) == 32) = false := by rw [beq_eq_false_iff_ne]; omega
        have n2 : ((a : Int) == 9) = false := by rw [beq_eq_false_iff_ne]; omega
        have n3 : ((a : Int) == 13) = false := by rw [beq_eq_false_iff_ne]; omega
        have n4 : ((a : Int) == 10) = false := by rw [beq_eq_false_iff_ne]; omega
        clear hsp
        go_wp2_with fail
        go_ret
        exact ⟨by rw [HM.out, HSP.out]; rfl, rfl⟩
    · have HSP := Lib.hid (show mSpace l k = k from mSpace_off (fun h => absurd h hlt))
      go_wp2_with fail
      go_ret
      exact ⟨by rw [HM.out, HSP.out]; rfl, rfl⟩

theorem normK_lt (c : Nat) (h : c < 256) : normK c < 256 := by
  unfold normK
  split
  · exact h
  · split <;> omega

set_option maxRecDepth 100000 in
set_option maxHeartbeats 2000000 in
theorem normalize_any (c : Nat) (hc : c < 256) (w : World) (hT : KindTab w) :
    Calls Tryd.prog 18 #[.int .u8 (c : Int)] w fun e w' => e = .returned (.int .u8 ((normK c : Nat) : Int)) ∧ w' = w := by
  have hcell := hT c hc
  have hi0 : (0 : Int) ≤ (c : Int) := by omega
  have hi1 : (c : Int) < 256 := by omega
  clear hT
  go_enter Tryd.func18, Tryd.ntmps18
  go_wp2_with fail
  go_ret
  exact ⟨rfl, rfl⟩

set_option maxRecDepth 100000 in
set_option maxHeartbeats 2000000 in
theorem kindV_any (l : List UInt8) (b n cap : Nat) (w : World) (hn : n = l.length) (hcap : l.length ≤ cap) (hl : l.length ≤ 1000) (hbytes : Bytes w b 0 l) (hT : KindTab w) (d : UInt8) (hd : l[mSpace l 0]? = some d) :
    Calls Tryd.prog 11 #[.slice (some ⟨b, 0, none⟩) n cap] w fun e w' => e = .returned (.int .u8 ((normK d.toNat : Nat) : Int)) ∧ w' = w := by
  subst hn
  obtain ⟨m, hm⟩ : ∃ m, mSpace l 0 = m := ⟨_, rfl⟩
  rw [hm] at hd
  have hml := (List.getElem?_eq_some_iff.1 hd).1
  have hcell := hbytes.at0 m hml
  have hde : l[m]'hml = d := (List.getElem?_eq_some_iff.1 hd).2
  rw [hde] at hcell
  obtain ⟨a, ha⟩ : ∃ a : Nat, d.toNat = a := ⟨_, rfl⟩
  rw [ha] at hcell ⊢
  have ha2 : a < 256 := by rw [← ha]; exact d.toNat_lt
  have HB := Lib.hid hbytes
  have HM := Lib.hid hm
  have HT := Lib.hid hT
  have h1 : (0 : Int) ≤ (m : Int) := by omega
  have h2 : (m : Int) ≤ (l.length : Int) := by omega
  have h3 : (m : Int) < (cap : Int) := by omega
  have h4 : ((cap : Int) == (m : Int)) = false := by rw [beq_eq_false_iff_ne]; omega
  have h5 : ¬ cap = m := by omega
  have h6 : (0 : Int) < (l.length : Int) - (m : Int) := by omega
  clear hbytes hm hT hd hde ha
  go_enter Tryd.func11, Tryd.ntmps11
  go_wp2_with (go_at_call 17; refine (consumeWs_any l b _ cap _ rfl hl HB.out).mono ?_; rw [HM.out]; rintro e w1 ⟨rfl, rfl⟩)
  refine (normalize_any a ha2 _ HT.out).mono ?_
  rintro e w2 ⟨rfl, rfl⟩
  go_wp2_with fail
  go_ret
  exact ⟨rfl, rfl⟩

set_option maxRecDepth 100000 in
set_option maxHeartbeats 2000000 in
theorem kindOf_any (s : ByteArray) (w : World) (hs : s.size ≤ 1000) (hT : KindTab w) (d : UInt8) (hd : s.data.toList[mSpace s.data.toList 0]? = some d) :
    Calls Tryd.prog 7 #[.string s] w fun e w' => e = .returned (.int .i64 ((normK d.toNat : Nat) : Int)) ∧ Below w.heap.size w w' := by
  have h0 : 0 < w.heap.size := by have := Go.block_lt_of_cell (hT 0 (by decide)); exact this
  have hn := normK_lt d.toNat d.toNat_lt
  obtain ⟨x, hx⟩ : ∃ x, normK d.toNat = x := ⟨_, rfl⟩
  rw [hx] at hn ⊢
  have HX := Lib.hid hx
  have HT := Lib.hid hT
  have HD := Lib.hid hd
  clear hT hd hx
  go_enter Tryd.func7, Tryd.ntmps7
  go_wp2_with (refine wpList_conv u8v rfl (.tmp 3) 9 rfl (by kernel_rfl) rfl (by unfold maxLen; omega) ?_; intro c1 w1 o1 b1 z1; have O1 := Lib.hid o1; have B1 := Lib.hid b1; clear o1 z1 b1)
  have X := O1.out.slice
  refine (kindV_any s.data.toList _ _ _ _ X.1 X.2.1 (by rw [Array.length_toList]; exact hs) X.2.2.2.2 (HT.out.below B1.out h0) d HD.out).mono ?_
  rw [HX.out]
  clear X
  rintro e w2 ⟨rfl, rfl⟩
  go_wp2_with fail
  go_ret
  exact ⟨by go_num, B1.out⟩

end Go.Proofs.YtebiendmngmjcaaDoor
