/- The reference's reader: hexadecimal digits, units and escapes, exactly. -/
import Derived.Test.YtlgmdcaoogiooaaGreatDoorSpcW
namespace Go.Proofs.YtlgmdcaoogiooaaGreatDoor
open Go.RowKit

/-- A digit of base 16 (the reference's). -/
def hexD (a : Nat) : Option Nat := if 48 ≤ a ∧ a ≤ 57 then some (a - 48) else if 97 ≤ a ∧ a ≤ 102 then some (a - 87) else if 65 ≤ a ∧ a ≤ 70 then some (a - 55) else none

/-- Its number, or -1. -/
def hexI (a : Nat) : Int := match hexD a with
  | some d => (d : Int)
  | none => -1

theorem hexD_num {a : Nat} (h : 48 ≤ a ∧ a ≤ 57) : hexD a = some (a - 48) := by unfold hexD; rw [if_pos h]
theorem hexD_low {a : Nat} (h : 97 ≤ a ∧ a ≤ 102) : hexD a = some (a - 87) := by unfold hexD; rw [if_neg (by omega), if_pos h]
theorem hexD_up {a : Nat} (h : 65 ≤ a ∧ a ≤ 70) : hexD a = some (a - 55) := by unfold hexD; rw [if_neg (by omega), if_neg (by omega), if_pos h]
theorem hexD_no {a : Nat} (h1 : ¬(48 ≤ a ∧ a ≤ 57)) (h2 : ¬(97 ≤ a ∧ a ≤ 102)) (h3 : ¬(65 ≤ a ∧ a ≤ 70)) : hexD a = none := by unfold hexD; rw [if_neg h1, if_neg h2, if_neg h3]

theorem hexD_lt {a d : Nat} (h : hexD a = some d) : d < 16 := by
  unfold hexD at h
  split at h
  · cases h; omega
  · split at h
    · cases h; omega
    · split at h
      · cases h; omega
      · cases h

set_option maxRecDepth 100000 in
set_option maxHeartbeats 1000000 in
theorem Hex_any (a : Nat) (ha : a < 256) (w : World) :
    Calls Tryz.prog 83 #[.int .u8 (a : Int)] w fun e w' => w' = w ∧ e = .returned (.int .i64 (hexI a)) := by
  by_cases n1 : 48 ≤ a ∧ a ≤ 57
  · have e1 : (48 : Int) ≤ (a : Int) := by omega
    have e2 : (a : Int) ≤ 57 := by omega
    have hd : hexI a = (a : Int) - 48 := by unfold hexI; rw [hexD_num n1]; show ((a - 48 : Nat) : Int) = _; omega
    have HD := Lib.hid hd
    clear hd
    go_enter Tryz.func83, Tryz.ntmps83
    go_wp2
    go_ret
    exact ⟨rfl, by rw [HD.out]; first | rfl | (congr 1; go_num)⟩
  · by_cases n2 : 97 ≤ a ∧ a ≤ 102
    · have e1 : (97 : Int) ≤ (a : Int) := by omega
      have e2 : (a : Int) ≤ 102 := by omega
      have e3 : ¬ (a : Int) ≤ 57 := by omega
      have e4 : (48 : Int) ≤ (a : Int) := by omega
      have hd : hexI a = (a : Int) - 97 + 10 := by unfold hexI; rw [hexD_low n2]; show ((a - 87 : Nat) : Int) = _; omega
      have HD := Lib.hid hd
      clear hd
      go_enter Tryz.func83, Tryz.ntmps83
      go_wp2
      go_ret
      exact ⟨rfl, by rw [HD.out]; first | rfl | (congr 1; go_num)⟩
    · by_cases n3 : 65 ≤ a ∧ a ≤ 70
      · have e1 : (65 : Int) ≤ (a : Int) := by omega
        have e2 : (a : Int) ≤ 70 := by omega
        have e3 : ¬ (a : Int) ≤ 57 := by omega
        have e4 : (48 : Int) ≤ (a : Int) := by omega
        have e5 : ¬ (97 : Int) ≤ (a : Int) := by omega
        have hd : hexI a = (a : Int) - 65 + 10 := by unfold hexI; rw [hexD_up n3]; show ((a - 55 : Nat) : Int) = _; omega
        have HD := Lib.hid hd
        clear hd
        go_enter Tryz.func83, Tryz.ntmps83
        go_wp2
        go_ret
        exact ⟨rfl, by rw [HD.out]; first | rfl | (congr 1; go_num)⟩
      · have hd : hexI a = -1 := by unfold hexI; rw [hexD_no n1 n2 n3]
        have HD := Lib.hid hd
        have q1 : ¬ (48 : Int) ≤ (a : Int) ∨ ((48 : Int) ≤ (a : Int) ∧ ¬ (a : Int) ≤ 57) := by omega
        have q2 : ¬ (97 : Int) ≤ (a : Int) ∨ ((97 : Int) ≤ (a : Int) ∧ ¬ (a : Int) ≤ 102) := by omega
        have q3 : ¬ (65 : Int) ≤ (a : Int) ∨ ((65 : Int) ≤ (a : Int) ∧ ¬ (a : Int) ≤ 70) := by omega
        clear n1 n2 n3 hd
        rcases q1 with q1 | ⟨q1, q1'⟩ <;> rcases q2 with q2 | ⟨q2, q2'⟩ <;> rcases q3 with q3 | ⟨q3, q3'⟩ <;> first
          | (exfalso; omega)
          | (go_enter Tryz.func83, Tryz.ntmps83
             go_wp2
             go_ret
             exact ⟨rfl, by rw [HD.out]; rfl⟩)

/-- The digit at a place, or -1. -/
def hexAt (l : List UInt8) (k : Nat) : Int := match l[k]? with
  | some c => hexI c.toNat
  | none => -1

theorem hexAt_see (l : List UInt8) (k : Nat) : ∃ a : Nat, a < 256 ∧ seeB l k = (a : Int) ∧ hexI a = hexAt l k := by
  unfold seeB hexAt
  cases h : l[k]? with
  | none => exact ⟨0, by decide, rfl, by decide⟩
  | some c => exact ⟨c.toNat, c.toNat_lt, rfl, rfl⟩

/-- 'hex'. -/
def mHex (l : List UInt8) (lo hi : Int) (k : Nat) : Bool × Nat := if hexAt l k < lo ∨ hi < hexAt l k then (false, k) else (true, k + 1)

theorem hexAt_lt {l : List UInt8} {k : Nat} (h : 0 ≤ hexAt l k) : k < l.length := by
  rcases Nat.lt_or_ge k l.length with h1 | h1
  · exact h1
  · unfold hexAt at h
    rw [List.getElem?_eq_none h1] at h
    simp at h

set_option maxRecDepth 100000 in
set_option maxHeartbeats 1000000 in
theorem hex_any (b : Nat) (s : ByteArray) (k : Nat) (tw lo : Bool) (f : Int) (op : Bool) (c d : Int) (hc0 : 0 ≤ c) (w : World) (hs : s.size ≤ 100000000000) (h : Rd w b s k tw lo f op) :
    Calls Tryz.prog 109 #[.pointer (some ⟨b, 0, none⟩), .int .i64 c, .int .i64 d] w (Step w b s tw lo f op (mHex s.data.toList c d k)) := by
  obtain ⟨c0, c1, _, _, f1, _⟩ := h.cells
  have hlt := h.lt
  have H := Lib.hid h
  obtain ⟨a, ha, hsee, hhex⟩ := hexAt_see s.data.toList k
  obtain ⟨x, hx⟩ : ∃ x, hexAt s.data.toList k = x := ⟨_, rfl⟩
  rw [hx] at hhex
  have HX := Lib.hid hx
  have HSee := Lib.hid hsee
  have HHex := Lib.hid hhex
  clear h hx hsee hhex
  by_cases h1 : x < c
  · have hm : mHex s.data.toList c d k = (false, k) := by unfold mHex; rw [HX.out]; exact if_pos (.inl h1)
    have HM := Lib.hid hm
    clear hm
    go_enter Tryz.func109, Tryz.ntmps109
    go_wp2_with fail
    refine (see_any b s k tw lo f op _ H.out).mono ?_
    rintro e w1 ⟨rfl, n, rfl⟩
    rw [HSee.out]
    go_wp2_with fail
    refine (Hex_any a ha _).mono ?_
    rintro e w1 ⟨rfl, rfl⟩
    rw [HHex.out]
    go_wp2_with fail
    refine (fail_any b s k tw lo f op 4 (by decide) _ (H.out.drewN n)).mono ?_
    rintro e w2 ⟨rfl, hst⟩
    have X := Lib.hid hst
    clear hst
    go_wp2_with fail
    go_ret
    rw [HM.out]
    exact ⟨rfl, Stood.from (grown_drewN (grown_refl w _) n) rfl X.out⟩
  · by_cases h2 : d < x
    · have hm : mHex s.data.toList c d k = (false, k) := by unfold mHex; rw [HX.out]; exact if_pos (.inr h2)
      have HM := Lib.hid hm
      clear hm
      go_enter Tryz.func109, Tryz.ntmps109
      go_wp2_with fail
      refine (see_any b s k tw lo f op _ H.out).mono ?_
      rintro e w1 ⟨rfl, n, rfl⟩
      rw [HSee.out]
      go_wp2_with fail
      refine (Hex_any a ha _).mono ?_
      rintro e w1 ⟨rfl, rfl⟩
      rw [HHex.out]
      go_wp2_with fail
      refine (fail_any b s k tw lo f op 4 (by decide) _ (H.out.drewN n)).mono ?_
      rintro e w2 ⟨rfl, hst⟩
      have X := Lib.hid hst
      clear hst
      go_wp2_with fail
      go_ret
      rw [HM.out]
      exact ⟨rfl, Stood.from (grown_drewN (grown_refl w _) n) rfl X.out⟩
    · have hm : mHex s.data.toList c d k = (true, k + 1) := by unfold mHex; rw [HX.out]; exact if_neg (by omega)
      have hk : k < s.size := by rw [← size_eq]; exact hexAt_lt (by rw [HX.out]; omega)
      have HM := Lib.hid hm
      clear hm
      go_enter Tryz.func109, Tryz.ntmps109
      go_wp2_with fail
      refine (see_any b s k tw lo f op _ H.out).mono ?_
      rintro e w1 ⟨rfl, n, rfl⟩
      rw [HSee.out]
      go_wp2_with fail
      refine (Hex_any a ha _).mono ?_
      rintro e w1 ⟨rfl, rfl⟩
      rw [HHex.out]
      go_wp2_with fail
      go_ret
      rw [HM.out]
      exact ⟨rfl, grown_set (grown_drewN (grown_refl w _) n) _ _, f, by have := (H.out.drewN n).setAt (k + 1) hk; simpa using this, fun _ => rfl, (fun h => by cases h)⟩

/-- Some digits, one behind the other. -/
def mHexs (l : List UInt8) : List (Int × Int) → Nat → Bool × Nat
  | [], k => (true, k)
  | (a, b) :: t, k => if (mHex l a b k).1 = true then mHexs l t (mHex l a b k).2 else mHex l a b k

theorem mHex_true {l : List UInt8} {a b : Int} {k : Nat} (h : (mHex l a b k).1 = true) : (mHex l a b k).2 = k + 1 ∧ a ≤ hexAt l k ∧ hexAt l k ≤ b := by
  unfold mHex at h ⊢
  by_cases c : hexAt l k < a ∨ b < hexAt l k
  · rw [if_pos c] at h; cases h
  · rw [if_neg c]; exact ⟨rfl, by omega, by omega⟩

theorem mHex_false {l : List UInt8} {a b : Int} {k : Nat} (h : (mHex l a b k).1 = false) : mHex l a b k = (false, k) := by
  unfold mHex at h ⊢
  by_cases c : hexAt l k < a ∨ b < hexAt l k
  · rw [if_pos c]
  · rw [if_neg c] at h; cases h

theorem mHexs_true {l : List UInt8} {a b : Int} {t : List (Int × Int)} {k : Nat} (h : (mHex l a b k).1 = true) : mHexs l ((a, b) :: t) k = mHexs l t (k + 1) := by
  show (if (mHex l a b k).1 = true then mHexs l t (mHex l a b k).2 else mHex l a b k) = _
  rw [if_pos h, (mHex_true h).1]

theorem mHexs_false {l : List UInt8} {a b : Int} {t : List (Int × Int)} {k : Nat} (h : (mHex l a b k).1 = false) : mHexs l ((a, b) :: t) k = (false, k) := by
  show (if (mHex l a b k).1 = true then mHexs l t (mHex l a b k).2 else mHex l a b k) = _
  rw [if_neg (by rw [h]; decide), mHex_false h]

/-- 'unit': what it answers, where it stands, and whether it is a first half. -/
def mUnit (lo low : Bool) (l : List UInt8) (k : Nat) : Bool × Nat × Bool :=
  if lo = true then ((mHexs l [(0, 15), (0, 15), (0, 15), (0, 15)] k).1, (mHexs l [(0, 15), (0, 15), (0, 15), (0, 15)] k).2, false)
  else if low = true then ((mHexs l [(13, 13), (12, 15), (0, 15), (0, 15)] k).1, (mHexs l [(13, 13), (12, 15), (0, 15), (0, 15)] k).2, false)
  else if hexAt l k = 13 then ((mHexs l [(0, 15), (0, 11), (0, 15), (0, 15)] k).1, (mHexs l [(0, 15), (0, 11), (0, 15), (0, 15)] k).2, (mHexs l [(0, 15), (0, 11), (0, 15), (0, 15)] k).1 && decide (8 ≤ hexAt l (k + 1)))
  else ((mHexs l [(0, 15), (0, 15), (0, 15), (0, 15)] k).1, (mHexs l [(0, 15), (0, 15), (0, 15), (0, 15)] k).2, false)

/-- How 'unit' ends. -/
def UStep (w : World) (b : Nat) (s : ByteArray) (tw lo : Bool) (f : Int) (op : Bool) (r : Bool × Nat × Bool) (e : Ending) (w' : World) : Prop :=
  e = .returned (.tuple #[.bool r.1, .bool r.2.2]) ∧ Stood w b s tw lo f op r.1 r.2.1 w'

end Go.Proofs.YtlgmdcaoogiooaaGreatDoor
