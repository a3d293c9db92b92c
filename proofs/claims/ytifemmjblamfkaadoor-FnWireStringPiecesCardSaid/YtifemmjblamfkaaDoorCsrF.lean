/- Reading a string: the small functions that are called. -/
import Derived.Test.YtifemmjblamfkaaDoorCsrP
import Derived.BigQuiet
namespace Go.Proofs.YtifemmjblamfkaaDoor.Wire
open Go.RowKit Go.Proofs.YtifemmjblamfkaaDoor

/-- May this byte stand as it is? -/
def plainB (a : Nat) : Bool := decide (a < 128) && decide (32 ≤ a) && decide (a ≠ 92) && decide (a ≠ 34)

set_option maxRecDepth 100000 in
set_option maxHeartbeats 1000000 in
theorem noEsc_any (a : Nat) (w : World) :
    Calls Tryd.prog 25 #[.int .u8 (a : Int)] w fun e w' => w' = w ∧ e = .returned (.bool (plainB a)) := by
  unfold plainB
  by_cases h1 : a < 128
  · have e1 : (a : Int) < 128 := by omega
    by_cases h2 : 32 ≤ a
    · have e2 : (32 : Int) ≤ (a : Int) := by omega
      by_cases h3 : a = 92
      · subst h3
        go_enter Tryd.func25, Tryd.ntmps25
        go_wp2
        go_ret
        exact ⟨rfl, rfl⟩
      · have e3 : ((a : Int) != 92) = true := by rw [bne_iff_ne]; omega
        have e5 : ((a : Int) == 92) = false := by rw [beq_eq_false_iff_ne]; omega
        by_cases h4 : a = 34
        · subst h4
          go_enter Tryd.func25, Tryd.ntmps25
          go_wp2
          go_ret
          exact ⟨rfl, rfl⟩
        · have e4 : ((a : Int) != 34) = true := by rw [bne_iff_ne]; omega
          have e6 : ((a : Int) == 34) = false := by rw [beq_eq_false_iff_ne]; omega
          go_enter Tryd.func25, Tryd.ntmps25
          go_wp2
          go_ret
          exact ⟨rfl, by simp [h1, h2, h3, h4]⟩
    · have e2 : ¬ (32 : Int) ≤ (a : Int) := by omega
      go_enter Tryd.func25, Tryd.ntmps25
      go_wp2
      go_ret
      exact ⟨rfl, by simp <;> omega⟩
  · have e1 : ¬ (a : Int) < 128 := by omega
    go_enter Tryd.func25, Tryd.ntmps25
    go_wp2
    go_ret
    exact ⟨rfl, by simp <;> omega⟩

set_option maxRecDepth 100000 in
set_option maxHeartbeats 1000000 in
theorem newEsc_any (l : List UInt8) (b off cap : Nat) (w : World) (hB : Bytes w b off l) :
    Calls Tryd.prog 29 #[.slice (some ⟨b, off, none⟩) l.length cap] w fun e w' => Below w.heap.size w w' ∧ ∃ err, e = .returned err ∧ Bad err := by
  have HB := Lib.hid hB
  clear hB
  by_cases h6 : 6 < l.length
  · have h6' : (6 : Int) < (l.length : Int) := by omega
    go_enter Tryd.func29, Tryd.ntmps29
    go_wp2_with (refine wpList_toStr (P := Tryd.prog) (t := 45) (e := 5) ⟨by kernel_rfl, by kernel_rfl, by kernel_rfl⟩ rfl (.tmp 6) 9 rfl (by kernel_rfl) rfl ⟨l.toArray⟩ rfl HB.out ?_)
    go_ret
    exact ⟨(Below.refl _ _).alloc (Nat.le_refl _) _, _, rfl, _, rfl⟩
  · have h6' : ¬ (6 : Int) < (l.length : Int) := by omega
    go_enter Tryd.func29, Tryd.ntmps29
    go_wp2_with (refine wpList_toStr (P := Tryd.prog) (t := 45) (e := 5) ⟨by kernel_rfl, by kernel_rfl, by kernel_rfl⟩ rfl (.tmp 11) 9 rfl (by kernel_rfl) rfl ⟨l.toArray⟩ rfl HB.out ?_)
    go_ret
    exact ⟨(Below.refl _ _).alloc (Nat.le_refl _) _, _, rfl, _, rfl⟩

set_option maxRecDepth 100000 in
set_option maxHeartbeats 1000000 in
theorem surr_any (r : Nat) (w : World) :
    Calls Tryd.prog 31 #[.int .i32 (r : Int)] w fun e w' => w' = w ∧ e = .returned (.bool (decide (55296 ≤ r ∧ r < 57344))) := by
  by_cases h1 : 55296 ≤ r
  · have e1 : (55296 : Int) ≤ (r : Int) := by omega
    by_cases h2 : r < 57344
    · have e2 : (r : Int) < 57344 := by omega
      go_enter Tryd.func31, Tryd.ntmps31
      go_wp2
      go_ret
      exact ⟨rfl, by simp [h1, h2]⟩
    · have e2 : ¬ (r : Int) < 57344 := by omega
      go_enter Tryd.func31, Tryd.ntmps31
      go_wp2
      go_ret
      exact ⟨rfl, by simp <;> omega⟩
  · have e1 : ¬ (55296 : Int) ≤ (r : Int) := by omega
    go_enter Tryd.func31, Tryd.ntmps31
    go_wp2
    go_ret
    exact ⟨rfl, by simp <;> omega⟩

set_option maxRecDepth 100000 in
theorem shl_or (x y : Nat) (hx : x < 1024) (hy : y < 1024) : bits .or .i32 ((x : Int) * 1024) (y : Int) = ((x * 1024 + y : Nat) : Int) := by
  have h : (BitVec.ofInt 32 ((x : Int) * 1024) ||| BitVec.ofInt 32 (y : Int)).toNat = x * 1024 + y := by
    rw [BitVec.toNat_or]
    have e1 : (BitVec.ofInt 32 ((x : Int) * 1024)).toNat = x <<< 10 := by rw [Nat.shiftLeft_eq, show ((x : Int) * 1024) = ((x * 1024 : Nat) : Int) by omega, BitVec.toNat_ofInt]; omega
    have e2 : (BitVec.ofInt 32 (y : Int)).toNat = y := by simp; omega
    rw [e1, e2, ← Nat.shiftLeft_add_eq_or_of_lt (by omega), Nat.shiftLeft_eq]
  show IntKind.i32.wrap (((BitVec.ofInt 32 ((x : Int) * 1024) ||| BitVec.ofInt 32 (y : Int)).toNat : Nat) : Int) = _
  rw [h]
  simp only [IntKind.wrap, IntKind.bits, IntKind.signed]
  simp
  omega

set_option maxRecDepth 100000 in
set_option maxHeartbeats 1000000 in
theorem dec16_any (a b : Nat) (ha : 55296 ≤ a) (ha2 : a < 57344) (hb : b < 65536) (w : World) :
    Calls Tryd.prog 32 #[.int .i32 (a : Int), .int .i32 (b : Int)] w fun e w' => w' = w ∧ e = .returned (.int .i32 (((pairV a b).getD 65533 : Nat) : Int)) := by
  have e1 : (55296 : Int) ≤ (a : Int) := by omega
  unfold pairV
  by_cases h1 : a < 56320
  · have e2 : (a : Int) < 56320 := by omega
    by_cases h2 : 56320 ≤ b
    · have e3 : (56320 : Int) ≤ (b : Int) := by omega
      by_cases h3 : b < 57344
      · have e4 : (b : Int) < 57344 := by omega
        rw [if_pos ⟨ha, h1, h2, h3⟩]
        have ea : ((a - 55296 : Nat) : Int) = (a : Int) - 55296 := by omega
        have eb : ((b - 56320 : Nat) : Int) = (b : Int) - 56320 := Int.ofNat_sub h2
        have hs := shl_or (a - 55296) (b - 56320) (by omega) (by omega)
        rw [ea, eb] at hs
        have hv : ((((a - 55296) * 1024 + (b - 56320) + 65536 : Nat)) : Int) = ((a : Int) - 55296) * 1024 + ((b : Int) - 56320) + 65536 := by rw [← ea, ← eb]; rfl
        have hsum : ((((a - 55296) * 1024 + (b - 56320) : Nat)) : Int) = ((a : Int) - 55296) * 1024 + ((b : Int) - 56320) := by rw [← ea, ← eb]; rfl
        rw [hsum] at hs
        have HV := Lib.hid hv
        clear hv hsum ea eb
        go_enter Tryd.func32, Tryd.ntmps32
        go_wp2
        go_ret
        refine ⟨rfl, ?_⟩
        show _ = Ending.returned (Value.int .i32 (((a - 55296) * 1024 + (b - 56320) + 65536 : Nat) : Int))
        rw [HV.out]
        rfl
      · have e4 : ¬ (b : Int) < 57344 := by omega
        rw [if_neg (fun h => h3 h.2.2.2)]
        go_enter Tryd.func32, Tryd.ntmps32
        go_wp2
        go_ret
        exact ⟨rfl, rfl⟩
    · have e3 : ¬ (56320 : Int) ≤ (b : Int) := by omega
      rw [if_neg (fun h => h2 h.2.2.1)]
      go_enter Tryd.func32, Tryd.ntmps32
      go_wp2
      go_ret
      exact ⟨rfl, rfl⟩
  · have e2 : ¬ (a : Int) < 56320 := by omega
    rw [if_neg (fun h => h1 h.2.1)]
    go_enter Tryd.func32, Tryd.ntmps32
    go_wp2
    go_ret
    exact ⟨rfl, rfl⟩

/-- Four digits. -/
structure Hex4 (w : World) (l : List UInt8) (e : Ending) (w' : World) : Prop where
  world : w' = w
  what : e = .returned (.tuple #[.int .u16 (((hex4 l).getD 0 : Nat) : Int), .bool (hex4 l).isSome])

theorem hexFold_lt : ∀ (l : List UInt8) (v n : Nat), hexFold v l = some n → n < (v + 1) * 16 ^ l.length
  | [], v, n, h => by simp [hexFold] at h; simp; omega
  | c :: t, v, n, h => by
    unfold hexFold at h
    cases hd : hexd c.toNat with
    | none => rw [hd] at h; cases h
    | some d =>
      rw [hd] at h
      have := hexFold_lt t _ n h
      have hd16 : d < 16 := by
        unfold hexd at hd
        split at hd
        · cases hd; omega
        · split at hd
          · cases hd; omega
          · split at hd
            · cases hd; omega
            · cases hd
      rw [List.length_cons, Nat.pow_succ]
      have : (v * 16 + d + 1) * 16 ^ t.length ≤ (v + 1) * (16 ^ t.length * 16) := by
        rw [← Nat.mul_assoc, Nat.mul_comm ((v + 1) * 16 ^ t.length) 16, ← Nat.mul_assoc]
        exact Nat.mul_le_mul_right _ (by omega)
      omega

theorem hexd_num {a : Nat} (h : 48 ≤ a ∧ a ≤ 57) : hexd a = some (a - 48) := by unfold hexd; rw [if_pos h]
theorem hexd_low {a : Nat} (h : 97 ≤ a ∧ a ≤ 102) : hexd a = some (a - 87) := by unfold hexd; rw [if_neg (by omega), if_pos h]
theorem hexd_up {a : Nat} (h : 65 ≤ a ∧ a ≤ 70) : hexd a = some (a - 55) := by unfold hexd; rw [if_neg (by omega), if_neg (by omega), if_pos h]
theorem hexd_no {a : Nat} (h1 : ¬(48 ≤ a ∧ a ≤ 57)) (h2 : ¬(97 ≤ a ∧ a ≤ 102)) (h3 : ¬(65 ≤ a ∧ a ≤ 70)) : hexd a = none := by unfold hexd; rw [if_neg h1, if_neg h2, if_neg h3]

set_option maxRecDepth 100000 in
set_option maxHeartbeats 4000000 in
theorem parse4_any (l : List UInt8) (hl : l.length = 4) (b off cap : Nat) (w : World) (hB : Bytes w b off l) :
    Calls Tryd.prog 30 #[.slice (some ⟨b, off, none⟩) 4 cap] w (Hex4 w l) := by
  have HB := Lib.hid hB
  have HL := Lib.hid hl
  clear hB
  have h4 : hex4 l = hexFold 0 l := by unfold hex4; rw [if_pos hl]
  have H4 := Lib.hid h4
  clear h4
  go_enter Tryd.func30, Tryd.ntmps30
  go_wp2_with fail
  go_loopw [2, 9] (fun v i wr => wr = w ∧ ∃ k x : Nat, i = .int .i64 k ∧ k ≤ 4 ∧ v = .int .u16 x ∧ hexFold 0 l = hexFold x (l.drop k) ∧ x < 16 ^ k) (fun _ i _ => 4 - (intOf i).toNat)
  case atStart => exact ⟨rfl, 0, 0, rfl, by omega, rfl, by simp, by simp⟩
  case round =>
    obtain ⟨rfl, k, x, rfl, hk, rfl, hf, hx⟩ := hrel
    have HF := Lib.hid hf
    clear hf
    by_cases hk4 : k < 4
    · have i1 : (k : Int) < 4 := by omega
      have i0 : (0 : Int) ≤ (k : Int) := by omega
      have hkl : k < l.length := by have := HL.out; omega
      have hc := HB.out.at k hkl
      have hd := List.drop_eq_getElem_cons hkl
      obtain ⟨c, hcc⟩ : ∃ c, c = l[k] := ⟨_, rfl⟩
      rw [← hcc] at hc hd
      obtain ⟨a, ha⟩ : ∃ a : Nat, a = c.toNat := ⟨_, rfl⟩
      have ha256 : a < 256 := by rw [ha]; exact c.toNat_lt
      rw [← ha] at hc
      have hfold : hexFold x (l.drop k) = (match hexd a with | some d => hexFold (x * 16 + d) (l.drop (k + 1)) | none => none) := by rw [hd, ha]; rfl
      have HFo := Lib.hid hfold
      have hx4 : x < 4096 := Nat.lt_of_lt_of_le hx (by have : k = 0 ∨ k = 1 ∨ k = 2 ∨ k = 3 := by omega
                                                       rcases this with rfl | rfl | rfl | rfl <;> decide)
      clear hfold hcc hd ha
      by_cases n1 : 48 ≤ a ∧ a ≤ 57
      · have e1 : (48 : Int) ≤ (a : Int) := by omega
        have e2 : (a : Int) ≤ 57 := by omega
        have hd := hexd_num n1
        go_wp2_with fail
        exact ⟨⟨trivial, k + 1, x * 16 + (a - 48), by simp, by omega, by congr 1; omega, by rw [HF.out, HFo.out, hd], by rw [Nat.pow_succ]; omega⟩, by simp only [intOf]; omega⟩
      · by_cases n2 : 97 ≤ a ∧ a ≤ 102
        · have e1 : (97 : Int) ≤ (a : Int) := by omega
          have e2 : (a : Int) ≤ 102 := by omega
          have e3 : ¬ (a : Int) ≤ 57 := by omega
          have e4 : (48 : Int) ≤ (a : Int) := by omega
          have hd := hexd_low n2
          go_wp2_with fail
          exact ⟨⟨trivial, k + 1, x * 16 + (a - 87), by simp, by omega, by congr 1; omega, by rw [HF.out, HFo.out, hd], by rw [Nat.pow_succ]; omega⟩, by simp only [intOf]; omega⟩
        · by_cases n3 : 65 ≤ a ∧ a ≤ 70
          · have hd := hexd_up n3
            have e1 : (65 : Int) ≤ (a : Int) := by omega
            have e2 : (a : Int) ≤ 70 := by omega
            have e3 : ¬ (a : Int) ≤ 57 := by omega
            have e4 : (48 : Int) ≤ (a : Int) := by omega
            have e5 : ¬ (97 : Int) ≤ (a : Int) := by omega
            go_wp2_with fail
            exact ⟨⟨trivial, k + 1, x * 16 + (a - 55), by simp, by omega, by congr 1; omega, by rw [HF.out, HFo.out, hd], by rw [Nat.pow_succ]; omega⟩, by simp only [intOf]; omega⟩
          · have hd := hexd_no n1 n2 n3
            have hno : hex4 l = none := by rw [H4.out, HF.out, HFo.out, hd]
            have HNo := Lib.hid hno
            clear hno
            have q1 : ¬ (48 : Int) ≤ (a : Int) ∨ ((48 : Int) ≤ (a : Int) ∧ ¬ (a : Int) ≤ 57) := by omega
            have q2 : ¬ (97 : Int) ≤ (a : Int) ∨ ((97 : Int) ≤ (a : Int) ∧ ¬ (a : Int) ≤ 102) := by omega
            have q3 : ¬ (65 : Int) ≤ (a : Int) ∨ ((65 : Int) ≤ (a : Int) ∧ ¬ (a : Int) ≤ 70) := by omega
            clear n1 n2 n3 hd
            rcases q1 with q1 | ⟨q1, q1'⟩ <;> rcases q2 with q2 | ⟨q2, q2'⟩ <;> rcases q3 with q3 | ⟨q3, q3'⟩ <;> first
              | (exfalso; omega)
              | (go_wp2_with fail
                 go_ret2
                 exact ⟨rfl, by rw [HNo.out]; rfl⟩)
    · obtain rfl : k = 4 := by omega
      have hyes : hex4 l = some x := by rw [H4.out, HF.out, List.drop_of_length_le (by rw [HL.out]; exact Nat.le_refl _)]; rfl
      have HY := Lib.hid hyes
      clear hyes
      go_wp2_with fail
      go_ret2
      exact ⟨rfl, by rw [HY.out]; rfl⟩

end Go.Proofs.YtifemmjblamfkaaDoor.Wire
