/- The reference's 'unitAt', 'Encoded', 'escaped'. -/
import Derived.Test.YtlgmdcaoogiooaaGreatDoorDecK
import Derived.Test.YtlgmdcaoogiooaaGreatDoorLive
import Derived.Lib.RuneBytes
namespace Go.Proofs.YtlgmdcaoogiooaaGreatDoor.Wire
open Go.RowKit Go.Proofs.YtlgmdcaoogiooaaGreatDoor

theorem unitS_short {s : List UInt8} (h : s.length < 6) : unitS s = none := if_neg (fun k => by omega)

theorem unitS_no {s : List UInt8} (h : s.take 2 ≠ [92, 117]) : unitS s = none := if_neg (fun k => h k.2)

theorem unitS_yes {s : List UInt8} (h6 : 6 ≤ s.length) (h : s.take 2 = [92, 117]) : unitS s = hex4 ((s.drop 2).take 4) := if_pos ⟨h6, h⟩

theorem hexFold_no {x : Nat} {c : UInt8} {t : List UInt8} (h : hexd c.toNat = none) : hexFold x (c :: t) = none := by
  show (match hexd c.toNat with | some d => hexFold (x * 16 + d) t | none => none) = none
  rw [h]

theorem hexFold_yes {x d : Nat} {c : UInt8} {t : List UInt8} (h : hexd c.toNat = some d) : hexFold x (c :: t) = hexFold (x * 16 + d) t := by
  show (match hexd c.toNat with | some d => hexFold (x * 16 + d) t | none => none) = _
  rw [h]

/-- What 'unitAt' tells. -/
def UnitRet (w : World) (l : List UInt8) (k : Nat) (e : Ending) (w' : World) : Prop :=
  w' = w ∧ e = .returned (.tuple #[.int .i64 (((unitS (l.drop k)).getD 0 : Nat) : Int), .bool (unitS (l.drop k)).isSome])

set_option maxRecDepth 100000 in
set_option maxHeartbeats 4000000 in
theorem unitAt_any (s : ByteArray) (k : Nat) (hs : s.size ≤ 100000000000) (hk : k ≤ 200000000000) (w : World) :
    Calls Tryz.prog 71 #[.string s, .int .i64 k] w (UnitRet w s.data.toList k) := by
  unfold UnitRet
  by_cases h6 : s.size < k + 6
  · have i6 : (s.size : Int) < (k : Int) + 6 := by omega
    have hu := unitS_short (s := s.data.toList.drop k) (by rw [List.length_drop, size_eq]; omega)
    have HU := Lib.hid hu
    clear hu
    go_enter Tryz.func71, Tryz.ntmps71
    go_wp2_with fail
    go_ret2
    exact ⟨rfl, by rw [HU.out]; rfl⟩
  have i6 : ¬ (s.size : Int) < (k : Int) + 6 := by omega
  have hk0 : k < s.size := by omega
  have hk1 : k + 1 < s.size := by omega
  have j0 : (0 : Int) ≤ (k : Int) := by omega
  have j1 : (k : Int) < (s.size : Int) := by omega
  have j2 : (0 : Int) ≤ (k : Int) + 1 := by omega
  have j3 : (k : Int) + 1 < (s.size : Int) := by omega
  obtain ⟨c0, hc0⟩ : ∃ c, s.data.toList[k]? = some c ∧ c = s[k]'hk0 := ⟨_, get_some hk0, rfl⟩
  obtain ⟨c1, hc1⟩ : ∃ c, s.data.toList[k + 1]? = some c ∧ c = s[k + 1]'hk1 := ⟨_, get_some hk1, rfl⟩
  have hd : s.data.toList.drop k = c0 :: c1 :: s.data.toList.drop (k + 1 + 1) := by rw [drop_of_get hc0.1, drop_of_get hc1.1]
  obtain ⟨a0, ha0⟩ : ∃ a : Nat, (s[k]'hk0).toNat = a := ⟨_, rfl⟩
  obtain ⟨a1, ha1⟩ : ∃ a : Nat, (s[k + 1]'hk1).toNat = a := ⟨_, rfl⟩
  have ca0 : c0.toNat = a0 := by rw [hc0.2]; exact ha0
  have ca1 : c1.toNat = a1 := by rw [hc1.2]; exact ha1
  have HD := Lib.hid hd
  have CA0 := Lib.hid ca0
  have CA1 := Lib.hid ca1
  clear hd ca0 ca1 hc0 hc1
  by_cases e0 : a0 = 92
  · subst e0
    by_cases e1 : a1 = 117
    · subst e1
      have g0 : c0 = 92 := UInt8.toNat_inj.1 CA0.out
      have g1 : c1 = 117 := UInt8.toNat_inj.1 CA1.out
      obtain ⟨l4, hl4⟩ : ∃ l4, l4 = (s.data.toList.drop (k + 1 + 1)).take 4 := ⟨_, rfl⟩
      have hlen : l4.length = 4 := by rw [hl4, List.length_take, List.length_drop, size_eq]; omega
      have hu : unitS (s.data.toList.drop k) = hexFold 0 l4 := by
        rw [unitS_yes (by rw [List.length_drop, size_eq]; omega) (by rw [HD.out, g0, g1]; rfl), HD.out, hl4]
        show hex4 ((s.data.toList.drop (k + 1 + 1)).take 4) = _
        unfold hex4
        rw [← hl4, if_pos hlen]
      have HU := Lib.hid hu
      have HL4 := Lib.hid hl4
      have HLen := Lib.hid hlen
      clear hu hl4 g0 g1
      go_enter Tryz.func71, Tryz.ntmps71
      go_wp2_with fail
      go_loopw [6, 7] (fun v i wr => wr = w ∧ ∃ j x : Nat, i = .int .i64 ((k : Int) + 2 + (j : Int)) ∧ j ≤ 4 ∧ v = .int .i64 x ∧ hexFold 0 l4 = hexFold x (l4.drop j) ∧ x < 16 ^ j) (fun _ i _ => k + 6 - (intOf i).toNat)
      case atStart => exact ⟨rfl, 0, 0, by simp, by omega, rfl, by simp, by simp⟩
      case round =>
        obtain ⟨rfl, j, x, rfl, hj, rfl, hf, hx⟩ := hrel
        have HF := Lib.hid hf
        clear hf
        by_cases hj4 : j < 4
        · have t0 : (k : Int) + 2 + (j : Int) < (k : Int) + 6 := by omega
          obtain ⟨p, hp⟩ : ∃ p : Nat, p = k + 2 + j := ⟨_, rfl⟩
          have hpI : (k : Int) + 2 + (j : Int) = (p : Int) := by omega
          have hps : p < s.size := by omega
          have hpl : s.data.toList[p]? = some (s[p]'hps) := get_some hps
          have hd4 : l4.drop j = (s[p]'hps) :: l4.drop (j + 1) := by
            refine drop_of_get ?_
            rw [HL4.out, List.getElem?_take_of_lt hj4, List.getElem?_drop, ← hpl]
            congr 1
            omega
          obtain ⟨a, ha⟩ : ∃ a : Nat, (s[p]'hps).toNat = a := ⟨_, rfl⟩
          have ha256 : a < 256 := by rw [← ha]; exact (s[p]'hps).toNat_lt
          have hx4 : x < 4096 := Nat.lt_of_lt_of_le hx (by have : j = 0 ∨ j = 1 ∨ j = 2 ∨ j = 3 := by omega
                                                           rcases this with rfl | rfl | rfl | rfl <;> decide)
          have s0 : (0 : Int) ≤ (p : Int) := by omega
          have s1 : (p : Int) < (s.size : Int) := by omega
          have HP := Lib.hid hp
          have HPI := Lib.hid hpI
          rw [hpI] at t0 ⊢
          have hexv : (∃ d, hexd a = some d ∧ hexI a = (d : Int)) ∨ (hexd a = none ∧ hexI a = -1) := by
            unfold hexI
            cases hq : hexd a with
            | none => exact .inr ⟨rfl, by rw [show hexD a = none from hq]⟩
            | some d => exact .inl ⟨d, rfl, by rw [show hexD a = some d from hq]⟩
          have hstep : ∀ d, hexd a = some d → hexFold x (l4.drop j) = hexFold (x * 16 + d) (l4.drop (j + 1)) := fun d hd => by rw [hd4, hexFold_yes (by rw [ha]; exact hd)]
          have hstop : hexd a = none → hexFold x (l4.drop j) = none := fun hd => by rw [hd4, hexFold_no (by rw [ha]; exact hd)]
          have HStep := Lib.hid hstep
          have HStop := Lib.hid hstop
          clear hp hpI hpl hd4 hstep hstop
          rcases hexv with ⟨d, hd, hI⟩ | ⟨hd, hI⟩
          · have hd16 := hexD_lt (show hexD a = some d from hd)
            have HDd := Lib.hid hd
            have HI := Lib.hid hI
            have d0 : ¬ (d : Int) < 0 := by omega
            clear hd hI
            go_wp2_with fail
            refine (Hex_any a ha256 _).mono ?_
            rintro e w1 ⟨rfl, rfl⟩
            rw [HI.out]
            go_wp2_with fail
            refine ⟨⟨trivial, j + 1, x * 16 + d, ?_, by omega, ?_, by rw [HF.out, HStep.out d HDd.out], by rw [Nat.pow_succ]; omega⟩, ?_⟩
            · have := HPI.out; simp only [Value.int.injEq, true_and]; omega
            · simp only [Value.int.injEq, true_and]; omega
            · simp only [intOf]; have := HP.out; omega
          · have HI := Lib.hid hI
            have hnone : unitS (s.data.toList.drop k) = none := by rw [HU.out, HF.out, HStop.out hd]
            have HN := Lib.hid hnone
            clear hd hI hnone
            go_wp2_with fail
            refine (Hex_any a ha256 _).mono ?_
            rintro e w1 ⟨rfl, rfl⟩
            rw [HI.out]
            go_wp2_with fail
            go_ret2
            exact ⟨rfl, by rw [HN.out]; rfl⟩
        · obtain rfl : j = 4 := by omega
          have t0 : ¬ (k : Int) + 2 + ((4 : Nat) : Int) < (k : Int) + 6 := by omega
          have hyes : unitS (s.data.toList.drop k) = some x := by rw [HU.out, HF.out, List.drop_of_length_le (by rw [HLen.out]; exact Nat.le_refl _)]; rfl
          have HY := Lib.hid hyes
          clear hyes
          go_wp2_with fail
          go_ret2
          exact ⟨rfl, by rw [HY.out]; rfl⟩
    · have n1 : ((a1 : Int) != 117) = true := by rw [bne_iff_ne]; omega
      have m1 : ((a1 : Int) == 117) = false := by rw [beq_eq_false_iff_ne]; omega
      have hu := unitS_no (s := s.data.toList.drop k) (by rw [HD.out]; intro e; simp only [List.take_succ_cons, List.take_zero, List.cons.injEq, and_true] at e; exact e1 (by rw [← CA1.out, e.2]; rfl))
      have HU := Lib.hid hu
      clear hu
      go_enter Tryz.func71, Tryz.ntmps71
      go_wp2_with fail
      go_ret2
      exact ⟨rfl, by rw [HU.out]; rfl⟩
  · have n0 : ((a0 : Int) != 92) = true := by rw [bne_iff_ne]; omega
    have m0 : ((a0 : Int) == 92) = false := by rw [beq_eq_false_iff_ne]; omega
    have hu := unitS_no (s := s.data.toList.drop k) (by rw [HD.out]; intro e; simp only [List.take_succ_cons, List.take_zero, List.cons.injEq, and_true] at e; exact e0 (by rw [← CA0.out, e.1]; rfl))
    have HU := Lib.hid hu
    clear hu
    go_enter Tryz.func71, Tryz.ntmps71
    go_wp2_with fail
    go_ret2
    exact ⟨rfl, by rw [HU.out]; rfl⟩

end Go.Proofs.YtlgmdcaoogiooaaGreatDoor.Wire
