/- utf8.FullRune at any bytes. -/
import Derived.Test.YtifemmjblamfkaaDoorCsrF
import Derived.Lib.DecodeNEq
namespace Go.Proofs.YtifemmjblamfkaaDoor.Wire
open Go.RowKit Go.Proofs.YtifemmjblamfkaaDoor

theorem and7_u8 (y : Nat) (hy : y < 256) : bits .and .u8 (y : Int) 7 = ((y % 8 : Nat) : Int) := by
  have h : (BitVec.ofInt 8 (y : Int) &&& BitVec.ofInt 8 7).toNat = y % 8 := by
    rw [BitVec.toNat_and]
    have e1 : (BitVec.ofInt 8 (y : Int)).toNat = y := by simp; omega
    have e2 : (BitVec.ofInt 8 (7 : Int)).toNat = 7 := by decide
    rw [e1, e2]
    exact Nat.and_two_pow_sub_one_eq_mod y 3
  show IntKind.u8.wrap (((BitVec.ofInt 8 (y : Int) &&& BitVec.ofInt 8 7).toNat : Nat) : Int) = _
  rw [h]
  simp only [IntKind.wrap, IntKind.bits, IntKind.signed]
  simp
  omega

theorem firstT_all : ∀ c : Fin 256, Lib.firstT c.val < 256 := by decide +kernel
theorem acc_all : ∀ i : Fin 16, Lib.accLo i.val < 256 ∧ Lib.accHi i.val < 256 := by decide +kernel

set_option maxRecDepth 100000 in
set_option maxHeartbeats 4000000 in
theorem fullRune_any (l : List UInt8) (hne : l ≠ []) (b off cap : Nat) (w : World) (hB : Bytes w b off l) (hT : Lib.Utf8Tabs 2 3 w) (hb : b < w.heap.size) :
    Calls Tryd.prog 33 #[.slice (some ⟨b, off, none⟩) l.length cap] w fun e w' => e = .returned (.bool (fullB l)) ∧ Below w.heap.size w w' := by
  have HB := Lib.hid hB
  clear hB
  have hb' : b ≠ w.heap.size := by omega
  have h0 := List.length_pos_iff.2 hne
  have i0 : (0 : Int) < (l.length : Int) := by omega
  have i1 : ((l.length : Int) == 0) = false := by rw [beq_eq_false_iff_ne]; omega
  obtain ⟨c, t, hl⟩ : ∃ c t, l = c :: t := by
    cases l with
    | nil => exact absurd rfl hne
    | cons c t => exact ⟨c, t, rfl⟩
  have hc := HB.out.at 0 h0
  have hc0 : l[0] = c := by simp [hl]
  rw [hc0] at hc
  obtain ⟨a, ha⟩ : ∃ a : Nat, a = c.toNat := ⟨_, rfl⟩
  rw [← ha, Nat.add_zero] at hc
  have ha256 : a < 256 := by rw [ha]; exact c.toNat_lt
  have ha2 : (0 : Int) ≤ (a : Int) := by omega
  have ha3 : (a : Int) < 256 := by omega
  have htab := hT.1 a ha256
  obtain ⟨x, hx⟩ : ∃ x : Nat, x = Lib.firstT a := ⟨_, rfl⟩
  rw [← hx] at htab
  have hx256 : x < 256 := by rw [hx]; exact firstT_all ⟨a, ha256⟩
  have hand := and7_u8 x hx256
  obtain ⟨y, hy⟩ : ∃ y : Nat, y = x % 8 := ⟨_, rfl⟩
  rw [← hy] at hand
  have hy8 : y < 8 := by omega
  have hval : fullB l = (if y ≤ l.length then true else fullTail (Lib.accLo (x / 16)) (Lib.accHi (x / 16)) t) := by
    rw [hy, hx, ha, hl]
    rfl
  have HV := Lib.hid hval
  have HLL := Lib.hid hl
  clear hval hc0 hne hx ha hl
  by_cases hyl : y ≤ l.length
  · have j1 : (y : Int) ≤ (l.length : Int) := by omega
    go_enter Tryd.func33, Tryd.ntmps33
    go_wp2_with fail
    go_ret
    exact ⟨by rw [HV.out, if_pos hyl]; rfl, Below.refl _ _⟩
  · have j1 : ¬ (y : Int) ≤ (l.length : Int) := by omega
    have hz16 : x / 16 < 16 := by omega
    obtain ⟨z, hz⟩ : ∃ z : Nat, z = x / 16 := ⟨_, rfl⟩
    have hzi : ((x : Int) / 16) = (z : Int) := by omega
    have k0 : (0 : Int) ≤ (z : Int) := by omega
    have k1 : (z : Int) < 16 := by omega
    obtain ⟨t1, t2⟩ := hT.2 z (by omega)
    obtain ⟨p1, p2⟩ := acc_all ⟨z, by omega⟩
    obtain ⟨lo, hlo⟩ : ∃ lo : Nat, lo = Lib.accLo z := ⟨_, rfl⟩
    obtain ⟨hi, hhi⟩ : ∃ hi : Nat, hi = Lib.accHi z := ⟨_, rfl⟩
    have hv2 : fullB l = fullTail lo hi t := by rw [HV.out, if_neg hyl, ← hz, hlo, hhi]
    have HV2 := Lib.hid hv2
    rw [← hlo, Nat.mul_comm] at t1
    rw [← hhi, Nat.mul_comm] at t2
    clear hv2 HV hyl p1 p2 hlo hhi hz
    cases t with
    | nil =>
      have hl1 : l.length = 1 := by rw [HLL.out]; rfl
      have n1 : ¬ (1 : Int) < (l.length : Int) := by omega
      have d1 : decide ((1 : Int) < (l.length : Int)) = false := decide_eq_false n1
      have hfin : fullB l = false := by rw [HV2.out]; rfl
      have HF := Lib.hid hfin
      clear hfin hl1
      go_enter Tryd.func33, Tryd.ntmps33
      go_wp2_with fail
      go_quiet (fail)
      go_wp2_with fail
      go_ret
      exact ⟨by rw [HF.out]; rfl, ((Below.refl _ _).alloc (Nat.le_refl _) _).trans ⟨rfl, rfl, rfl, Nat.le_refl _, fun _ _ => rfl⟩⟩
    | cons c2 t =>
      have hl2 : 2 ≤ l.length := by rw [HLL.out]; simp
      have n1 : (1 : Int) < (l.length : Int) := by omega
      have d1 : decide ((1 : Int) < (l.length : Int)) = true := decide_eq_true n1
      have hc2 := HB.out.at 1 (by omega)
      obtain ⟨a2, ha2'⟩ : ∃ a2 : Nat, a2 = c2.toNat := ⟨_, rfl⟩
      have e2 : l[1] = c2 := by simp [HLL.out]
      rw [e2, ← ha2'] at hc2
      have HA2 := Lib.hid ha2'
      clear e2 ha2'
      by_cases q : a2 < lo ∨ hi < a2
      · have hfin : fullB l = true := by
          rw [HV2.out]
          cases t with
          | nil => show (if c2.toNat < lo ∨ hi < c2.toNat then true else false) = true; rw [if_pos (by rw [← HA2.out]; exact q)]
          | cons c3 t => show (if c2.toNat < lo ∨ hi < c2.toNat then true else _) = true; rw [if_pos (by rw [← HA2.out]; exact q)]
        have HF := Lib.hid hfin
        clear hfin
        by_cases q1 : a2 < lo
        · have r1 : (a2 : Int) < (lo : Int) := by omega
          have d2 : decide ((a2 : Int) < (lo : Int)) = true := decide_eq_true r1
          have d2n : decide (a2 < lo) = true := decide_eq_true (by omega)
          go_enter Tryd.func33, Tryd.ntmps33
          go_wp2_with fail
          go_quiet (fail)
          go_wp2_with fail
          go_ret
          exact ⟨by rw [HF.out]; rfl, ((Below.refl _ _).alloc (Nat.le_refl _) _).trans ⟨rfl, rfl, rfl, Nat.le_refl _, fun _ _ => rfl⟩⟩
        · have r1 : ¬ (a2 : Int) < (lo : Int) := by omega
          have d2 : decide ((a2 : Int) < (lo : Int)) = false := decide_eq_false r1
          have d2n : decide (a2 < lo) = false := decide_eq_false (by omega)
          have r2 : (hi : Int) < (a2 : Int) := by omega
          have d3 : decide ((hi : Int) < (a2 : Int)) = true := decide_eq_true r2
          have d3n : decide (hi < a2) = true := decide_eq_true (by omega)
          go_enter Tryd.func33, Tryd.ntmps33
          go_wp2_with fail
          go_quiet (fail)
          go_wp2_with fail
          go_ret
          exact ⟨by rw [HF.out]; rfl, ((Below.refl _ _).alloc (Nat.le_refl _) _).trans ⟨rfl, rfl, rfl, Nat.le_refl _, fun _ _ => rfl⟩⟩
      · have r1 : ¬ (a2 : Int) < (lo : Int) := by omega
        have d2 : decide ((a2 : Int) < (lo : Int)) = false := decide_eq_false r1
        have d2n : decide (a2 < lo) = false := decide_eq_false (by omega)
        have r2 : ¬ (hi : Int) < (a2 : Int) := by omega
        have d3 : decide ((hi : Int) < (a2 : Int)) = false := decide_eq_false r2
        have d3n : decide (hi < a2) = false := decide_eq_false (by omega)
        cases t with
        | nil =>
          have hl3 : l.length = 2 := by rw [HLL.out]; rfl
          have n2 : ¬ (2 : Int) < (l.length : Int) := by omega
          have hfin : fullB l = false := by
            rw [HV2.out]
            show (if c2.toNat < lo ∨ hi < c2.toNat then true else false) = false
            rw [if_neg (by rw [← HA2.out]; exact q)]
          have HF := Lib.hid hfin
          clear hfin hl3
          go_enter Tryd.func33, Tryd.ntmps33
          go_wp2_with fail
          go_quiet (fail)
          go_wp2_with fail
          go_ret
          exact ⟨by rw [HF.out]; rfl, ((Below.refl _ _).alloc (Nat.le_refl _) _).trans ⟨rfl, rfl, rfl, Nat.le_refl _, fun _ _ => rfl⟩⟩
        | cons c3 t =>
          have hl3 : 3 ≤ l.length := by rw [HLL.out]; simp
          have n2 : (2 : Int) < (l.length : Int) := by omega
          have hc3 := HB.out.at 2 (by omega)
          obtain ⟨a3, ha3'⟩ : ∃ a3 : Nat, a3 = c3.toNat := ⟨_, rfl⟩
          have e3 : l[2] = c3 := by simp [HLL.out]
          rw [e3, ← ha3'] at hc3
          have hfin : fullB l = (if a3 < 128 ∨ 191 < a3 then true else false) := by
            rw [HV2.out]
            show (if c2.toNat < lo ∨ hi < c2.toNat then true else (if c3.toNat < 128 ∨ 191 < c3.toNat then true else false)) = _
            rw [if_neg (by rw [← HA2.out]; exact q), ha3']
          have HF := Lib.hid hfin
          clear hfin e3 ha3'
          by_cases q1 : a3 < 128
          · have u1 : (a3 : Int) < 128 := by omega
            go_enter Tryd.func33, Tryd.ntmps33
            go_wp2_with fail
            go_quiet (fail)
            go_wp2_with fail
            go_ret
            exact ⟨by rw [HF.out, if_pos (.inl q1)]; rfl, ((Below.refl _ _).alloc (Nat.le_refl _) _).trans ⟨rfl, rfl, rfl, Nat.le_refl _, fun _ _ => rfl⟩⟩
          · have u1 : ¬ (a3 : Int) < 128 := by omega
            by_cases q2 : 191 < a3
            · have u2 : (191 : Int) < (a3 : Int) := by omega
              go_enter Tryd.func33, Tryd.ntmps33
              go_wp2_with fail
              go_quiet (fail)
              go_wp2_with fail
              go_ret
              exact ⟨by rw [HF.out, if_pos (.inr q2)]; rfl, ((Below.refl _ _).alloc (Nat.le_refl _) _).trans ⟨rfl, rfl, rfl, Nat.le_refl _, fun _ _ => rfl⟩⟩
            · have u2 : ¬ (191 : Int) < (a3 : Int) := by omega
              go_enter Tryd.func33, Tryd.ntmps33
              go_wp2_with fail
              go_quiet (fail)
              go_wp2_with fail
              go_ret
              exact ⟨by rw [HF.out, if_neg (by omega)]; rfl, ((Below.refl _ _).alloc (Nat.le_refl _) _).trans ⟨rfl, rfl, rfl, Nat.le_refl _, fun _ _ => rfl⟩⟩

end Go.Proofs.YtifemmjblamfkaaDoor.Wire
