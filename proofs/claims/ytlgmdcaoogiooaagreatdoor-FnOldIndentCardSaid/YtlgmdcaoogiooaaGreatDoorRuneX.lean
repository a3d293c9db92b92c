/- The reference's reader: one character of more than one byte, exactly. -/
import Derived.Test.YtlgmdcaoogiooaaGreatDoorRdRune
import Derived.Test.YtlgmdcaoogiooaaGreatDoorUnitR
namespace Go.Proofs.YtlgmdcaoogiooaaGreatDoor
open Go.RowKit

/-- Some bytes within bounds, one behind the other. -/
def mNeeds (l : List UInt8) : List (Int × Int) → Nat → Bool × Nat
  | [], k => (true, k)
  | (a, b) :: t, k => if (mNeed l a b k).1 = true then mNeeds l t (k + 1) else (false, k)

theorem mNeeds_true {l : List UInt8} {a b : Int} {t : List (Int × Int)} {k : Nat} (h : (mNeed l a b k).1 = true) : mNeeds l ((a, b) :: t) k = mNeeds l t (k + 1) := if_pos h

theorem mNeeds_false {l : List UInt8} {a b : Int} {t : List (Int × Int)} {k : Nat} (h : (mNeed l a b k).1 = false) : mNeeds l ((a, b) :: t) k = (false, k) := if_neg (by rw [h]; decide)

/-- The bounds of the bytes behind the first one. -/
def runeSpec (c : Int) : Option (List (Int × Int)) :=
  if c < 194 ∨ 244 < c then none
  else if c ≤ 223 then some [(128, 191)]
  else if c = 224 then some [(160, 191), (128, 191)]
  else if c = 237 then some [(128, 159), (128, 191)]
  else if c ≤ 239 then some [(128, 191), (128, 191)]
  else if c = 240 then some [(144, 191), (128, 191), (128, 191)]
  else if c = 244 then some [(128, 143), (128, 191), (128, 191)]
  else some [(128, 191), (128, 191), (128, 191)]

/-- 'rune'. -/
def mRune (l : List UInt8) (k : Nat) : Bool × Nat := match runeSpec (seeB l k) with
  | some rs => mNeeds l rs (k + 1)
  | none => (false, k)

theorem mRune_some {l : List UInt8} {k : Nat} {rs : List (Int × Int)} (h : runeSpec (seeB l k) = some rs) : mRune l k = mNeeds l rs (k + 1) := by unfold mRune; rw [h]

set_option maxHeartbeats 1000000 in
theorem rx_two (b : Nat) (s : ByteArray) (k : Nat) (tw lo : Bool) (f : Int) (op : Bool) (w : World) (hs : s.size ≤ 100000000000) (h : Rd w b s k tw lo f op) (c : Int) (hc : seeB s.data.toList k = c) (h1 : 194 ≤ c) (h2 : c ≤ 223) :
    Calls Tryz.prog 69 #[.pointer (some ⟨b, 0, none⟩)] w (Step w b s tw lo f op (mNeeds s.data.toList [(128, 191)] (k + 1))) := by
  have H := Lib.hid h
  have HC := Lib.hid hc
  obtain ⟨c0, c1, _, _, f1, _⟩ := h.cells
  have hlt := h.lt
  have hk : k < s.size := see_lt hc (by omega)
  clear h hc
  go_enter Tryz.func69, Tryz.ntmps69
  go_wp2_with fail
  refine (see_any b s k tw lo f op _ H.out).mono ?_
  rintro e w1 ⟨rfl, n, rfl⟩
  rw [HC.out]
  go_wp2_with fail
  have hrd : Rd ((w.drewN n).setCell ⟨b, 1, none⟩ (.int .i64 ((k : Int) + 1))) b s (k + 1) tw lo f op := by
    have := (H.out.drewN n).setAt (k + 1) hk
    simpa using this
  have HRD0 := Lib.hid hrd
  have T0 := Lib.hid (show Stood w b s tw lo f op true (k + 1) ((w.drewN n).setCell ⟨b, 1, none⟩ (.int .i64 ((k : Int) + 1))) from ⟨grown_set (grown_drewN (grown_refl w _) n) _ _, f, hrd, fun _ => rfl, fun h => by cases h⟩)
  clear hrd
  obtain ⟨r0, hr0⟩ : ∃ r, (mNeed s.data.toList 128 191 (k + 1)).1 = r := ⟨_, rfl⟩
  refine (need_any b s (k + 1) tw lo f op 128 191 _ (by omega) HRD0.out).mono ?_
  cases r0 with
  | false =>
    rw [mNeed_no hr0]
    rintro e v0 ⟨rfl, hst⟩
    have X := Lib.hid (T0.out.thru hst)
    have HM := Lib.hid (show mNeeds s.data.toList [(128, 191)] (k + 1) = (false, k + 1) by rw [ mNeeds_false hr0])
    clear hst hr0
    go_wp2_with fail
    go_ret
    rw [HM.out]
    exact ⟨rfl, X.out⟩
  | true =>
    rw [mNeed_yes hr0]
    rintro e v0 ⟨rfl, hst⟩
    have HY0 := Lib.hid hr0
    have T1 := Lib.hid (T0.out.thru hst)
    have HRD1 := Lib.hid hst.yes
    clear hst hr0
    go_wp2_with fail
    have HM := Lib.hid (show mNeeds s.data.toList [(128, 191)] (k + 1) = (true, k + 1 + 1) by rw [mNeeds_true HY0.out]; rfl)
    go_ret
    rw [HM.out]
    exact ⟨rfl, T1.out⟩

set_option maxHeartbeats 1000000 in
theorem rx_three_mid (b : Nat) (s : ByteArray) (k : Nat) (tw lo : Bool) (f : Int) (op : Bool) (w : World) (hs : s.size ≤ 100000000000) (h : Rd w b s k tw lo f op) (c : Int) (hc : seeB s.data.toList k = c) (h1 : 225 ≤ c) (h2 : c ≤ 239) (h3 : c ≠ 237) :
    Calls Tryz.prog 69 #[.pointer (some ⟨b, 0, none⟩)] w (Step w b s tw lo f op (mNeeds s.data.toList [(128, 191), (128, 191)] (k + 1))) := by
  have H := Lib.hid h
  have HC := Lib.hid hc
  obtain ⟨c0, c1, _, _, f1, _⟩ := h.cells
  have hlt := h.lt
  have hk : k < s.size := see_lt hc (by omega)
  clear h hc
  have n224 : (c == 224) = false := by rw [beq_eq_false_iff_ne]; omega
  have n237 : (c == 237) = false := by rw [beq_eq_false_iff_ne]; omega
  have n223 : ¬ c ≤ 223 := by omega
  have n194 : 194 ≤ c := by omega
  have n224' : 224 ≤ c := by omega
  go_enter Tryz.func69, Tryz.ntmps69
  go_wp2_with fail
  refine (see_any b s k tw lo f op _ H.out).mono ?_
  rintro e w1 ⟨rfl, n, rfl⟩
  rw [HC.out]
  go_wp2_with fail
  have hrd : Rd ((w.drewN n).setCell ⟨b, 1, none⟩ (.int .i64 ((k : Int) + 1))) b s (k + 1) tw lo f op := by
    have := (H.out.drewN n).setAt (k + 1) hk
    simpa using this
  have HRD0 := Lib.hid hrd
  have T0 := Lib.hid (show Stood w b s tw lo f op true (k + 1) ((w.drewN n).setCell ⟨b, 1, none⟩ (.int .i64 ((k : Int) + 1))) from ⟨grown_set (grown_drewN (grown_refl w _) n) _ _, f, hrd, fun _ => rfl, fun h => by cases h⟩)
  clear hrd
  obtain ⟨r0, hr0⟩ : ∃ r, (mNeed s.data.toList 128 191 (k + 1)).1 = r := ⟨_, rfl⟩
  refine (need_any b s (k + 1) tw lo f op 128 191 _ (by omega) HRD0.out).mono ?_
  cases r0 with
  | false =>
    rw [mNeed_no hr0]
    rintro e v0 ⟨rfl, hst⟩
    have X := Lib.hid (T0.out.thru hst)
    have HM := Lib.hid (show mNeeds s.data.toList [(128, 191), (128, 191)] (k + 1) = (false, k + 1) by rw [ mNeeds_false hr0])
    clear hst hr0
    go_wp2_with fail
    go_ret
    rw [HM.out]
    exact ⟨rfl, X.out⟩
  | true =>
    rw [mNeed_yes hr0]
    rintro e v0 ⟨rfl, hst⟩
    have HY0 := Lib.hid hr0
    have T1 := Lib.hid (T0.out.thru hst)
    have HRD1 := Lib.hid hst.yes
    clear hst hr0
    go_wp2_with fail
    obtain ⟨r1, hr1⟩ : ∃ r, (mNeed s.data.toList 128 191 (k + 1 + 1)).1 = r := ⟨_, rfl⟩
    refine (need_any b s (k + 1 + 1) tw lo f op 128 191 _ (by omega) HRD1.out).mono ?_
    cases r1 with
    | false =>
      rw [mNeed_no hr1]
      rintro e v1 ⟨rfl, hst⟩
      have X := Lib.hid (T1.out.thru hst)
      have HM := Lib.hid (show mNeeds s.data.toList [(128, 191), (128, 191)] (k + 1) = (false, k + 1 + 1) by rw [mNeeds_true HY0.out, mNeeds_false hr1])
      clear hst hr1
      go_wp2_with fail
      go_ret
      rw [HM.out]
      exact ⟨rfl, X.out⟩
    | true =>
      rw [mNeed_yes hr1]
      rintro e v1 ⟨rfl, hst⟩
      have HY1 := Lib.hid hr1
      have T2 := Lib.hid (T1.out.thru hst)
      have HRD2 := Lib.hid hst.yes
      clear hst hr1
      go_wp2_with fail
      have HM := Lib.hid (show mNeeds s.data.toList [(128, 191), (128, 191)] (k + 1) = (true, k + 1 + 1 + 1) by rw [mNeeds_true HY0.out, mNeeds_true HY1.out]; rfl)
      go_ret
      rw [HM.out]
      exact ⟨rfl, T2.out⟩

set_option maxHeartbeats 1000000 in
theorem rx_three_low (b : Nat) (s : ByteArray) (k : Nat) (tw lo : Bool) (f : Int) (op : Bool) (w : World) (hs : s.size ≤ 100000000000) (h : Rd w b s k tw lo f op) (c : Int) (hc : seeB s.data.toList k = c) (h1 : c = 224) :
    Calls Tryz.prog 69 #[.pointer (some ⟨b, 0, none⟩)] w (Step w b s tw lo f op (mNeeds s.data.toList [(160, 191), (128, 191)] (k + 1))) := by
  have H := Lib.hid h
  have HC := Lib.hid hc
  obtain ⟨c0, c1, _, _, f1, _⟩ := h.cells
  have hlt := h.lt
  have hk : k < s.size := see_lt hc (by omega)
  clear h hc
  subst h1
  go_enter Tryz.func69, Tryz.ntmps69
  go_wp2_with fail
  refine (see_any b s k tw lo f op _ H.out).mono ?_
  rintro e w1 ⟨rfl, n, rfl⟩
  rw [HC.out]
  go_wp2_with fail
  have hrd : Rd ((w.drewN n).setCell ⟨b, 1, none⟩ (.int .i64 ((k : Int) + 1))) b s (k + 1) tw lo f op := by
    have := (H.out.drewN n).setAt (k + 1) hk
    simpa using this
  have HRD0 := Lib.hid hrd
  have T0 := Lib.hid (show Stood w b s tw lo f op true (k + 1) ((w.drewN n).setCell ⟨b, 1, none⟩ (.int .i64 ((k : Int) + 1))) from ⟨grown_set (grown_drewN (grown_refl w _) n) _ _, f, hrd, fun _ => rfl, fun h => by cases h⟩)
  clear hrd
  obtain ⟨r0, hr0⟩ : ∃ r, (mNeed s.data.toList 160 191 (k + 1)).1 = r := ⟨_, rfl⟩
  refine (need_any b s (k + 1) tw lo f op 160 191 _ (by omega) HRD0.out).mono ?_
  cases r0 with
  | false =>
    rw [mNeed_no hr0]
    rintro e v0 ⟨rfl, hst⟩
    have X := Lib.hid (T0.out.thru hst)
    have HM := Lib.hid (show mNeeds s.data.toList [(160, 191), (128, 191)] (k + 1) = (false, k + 1) by rw [ mNeeds_false hr0])
    clear hst hr0
    go_wp2_with fail
    go_ret
    rw [HM.out]
    exact ⟨rfl, X.out⟩
  | true =>
    rw [mNeed_yes hr0]
    rintro e v0 ⟨rfl, hst⟩
    have HY0 := Lib.hid hr0
    have T1 := Lib.hid (T0.out.thru hst)
    have HRD1 := Lib.hid hst.yes
    clear hst hr0
    go_wp2_with fail
    obtain ⟨r1, hr1⟩ : ∃ r, (mNeed s.data.toList 128 191 (k + 1 + 1)).1 = r := ⟨_, rfl⟩
    refine (need_any b s (k + 1 + 1) tw lo f op 128 191 _ (by omega) HRD1.out).mono ?_
    cases r1 with
    | false =>
      rw [mNeed_no hr1]
      rintro e v1 ⟨rfl, hst⟩
      have X := Lib.hid (T1.out.thru hst)
      have HM := Lib.hid (show mNeeds s.data.toList [(160, 191), (128, 191)] (k + 1) = (false, k + 1 + 1) by rw [mNeeds_true HY0.out, mNeeds_false hr1])
      clear hst hr1
      go_wp2_with fail
      go_ret
      rw [HM.out]
      exact ⟨rfl, X.out⟩
    | true =>
      rw [mNeed_yes hr1]
      rintro e v1 ⟨rfl, hst⟩
      have HY1 := Lib.hid hr1
      have T2 := Lib.hid (T1.out.thru hst)
      have HRD2 := Lib.hid hst.yes
      clear hst hr1
      go_wp2_with fail
      have HM := Lib.hid (show mNeeds s.data.toList [(160, 191), (128, 191)] (k + 1) = (true, k + 1 + 1 + 1) by rw [mNeeds_true HY0.out, mNeeds_true HY1.out]; rfl)
      go_ret
      rw [HM.out]
      exact ⟨rfl, T2.out⟩

set_option maxHeartbeats 1000000 in
theorem rx_three_high (b : Nat) (s : ByteArray) (k : Nat) (tw lo : Bool) (f : Int) (op : Bool) (w : World) (hs : s.size ≤ 100000000000) (h : Rd w b s k tw lo f op) (c : Int) (hc : seeB s.data.toList k = c) (h1 : c = 237) :
    Calls Tryz.prog 69 #[.pointer (some ⟨b, 0, none⟩)] w (Step w b s tw lo f op (mNeeds s.data.toList [(128, 159), (128, 191)] (k + 1))) := by
  have H := Lib.hid h
  have HC := Lib.hid hc
  obtain ⟨c0, c1, _, _, f1, _⟩ := h.cells
  have hlt := h.lt
  have hk : k < s.size := see_lt hc (by omega)
  clear h hc
  subst h1
  go_enter Tryz.func69, Tryz.ntmps69
  go_wp2_with fail
  refine (see_any b s k tw lo f op _ H.out).mono ?_
  rintro e w1 ⟨rfl, n, rfl⟩
  rw [HC.out]
  go_wp2_with fail
  have hrd : Rd ((w.drewN n).setCell ⟨b, 1, none⟩ (.int .i64 ((k : Int) + 1))) b s (k + 1) tw lo f op := by
    have := (H.out.drewN n).setAt (k + 1) hk
    simpa using this
  have HRD0 := Lib.hid hrd
  have T0 := Lib.hid (show Stood w b s tw lo f op true (k + 1) ((w.drewN n).setCell ⟨b, 1, none⟩ (.int .i64 ((k : Int) + 1))) from ⟨grown_set (grown_drewN (grown_refl w _) n) _ _, f, hrd, fun _ => rfl, fun h => by cases h⟩)
  clear hrd
  obtain ⟨r0, hr0⟩ : ∃ r, (mNeed s.data.toList 128 159 (k + 1)).1 = r := ⟨_, rfl⟩
  refine (need_any b s (k + 1) tw lo f op 128 159 _ (by omega) HRD0.out).mono ?_
  cases r0 with
  | false =>
    rw [mNeed_no hr0]
    rintro e v0 ⟨rfl, hst⟩
    have X := Lib.hid (T0.out.thru hst)
    have HM := Lib.hid (show mNeeds s.data.toList [(128, 159), (128, 191)] (k + 1) = (false, k + 1) by rw [ mNeeds_false hr0])
    clear hst hr0
    go_wp2_with fail
    go_ret
    rw [HM.out]
    exact ⟨rfl, X.out⟩
  | true =>
    rw [mNeed_yes hr0]
    rintro e v0 ⟨rfl, hst⟩
    have HY0 := Lib.hid hr0
    have T1 := Lib.hid (T0.out.thru hst)
    have HRD1 := Lib.hid hst.yes
    clear hst hr0
    go_wp2_with fail
    obtain ⟨r1, hr1⟩ : ∃ r, (mNeed s.data.toList 128 191 (k + 1 + 1)).1 = r := ⟨_, rfl⟩
    refine (need_any b s (k + 1 + 1) tw lo f op 128 191 _ (by omega) HRD1.out).mono ?_
    cases r1 with
    | false =>
      rw [mNeed_no hr1]
      rintro e v1 ⟨rfl, hst⟩
      have X := Lib.hid (T1.out.thru hst)
      have HM := Lib.hid (show mNeeds s.data.toList [(128, 159), (128, 191)] (k + 1) = (false, k + 1 + 1) by rw [mNeeds_true HY0.out, mNeeds_false hr1])
      clear hst hr1
      go_wp2_with fail
      go_ret
      rw [HM.out]
      exact ⟨rfl, X.out⟩
    | true =>
      rw [mNeed_yes hr1]
      rintro e v1 ⟨rfl, hst⟩
      have HY1 := Lib.hid hr1
      have T2 := Lib.hid (T1.out.thru hst)
      have HRD2 := Lib.hid hst.yes
      clear hst hr1
      go_wp2_with fail
      have HM := Lib.hid (show mNeeds s.data.toList [(128, 159), (128, 191)] (k + 1) = (true, k + 1 + 1 + 1) by rw [mNeeds_true HY0.out, mNeeds_true HY1.out]; rfl)
      go_ret
      rw [HM.out]
      exact ⟨rfl, T2.out⟩

set_option maxHeartbeats 1000000 in
theorem rx_four_mid (b : Nat) (s : ByteArray) (k : Nat) (tw lo : Bool) (f : Int) (op : Bool) (w : World) (hs : s.size ≤ 100000000000) (h : Rd w b s k tw lo f op) (c : Int) (hc : seeB s.data.toList k = c) (h1 : 241 ≤ c) (h2 : c ≤ 243) :
    Calls Tryz.prog 69 #[.pointer (some ⟨b, 0, none⟩)] w (Step w b s tw lo f op (mNeeds s.data.toList [(128, 191), (128, 191), (128, 191)] (k + 1))) := by
  have H := Lib.hid h
  have HC := Lib.hid hc
  obtain ⟨c0, c1, _, _, f1, _⟩ := h.cells
  have hlt := h.lt
  have hk : k < s.size := see_lt hc (by omega)
  clear h hc
  have n240 : (c == 240) = false := by rw [beq_eq_false_iff_ne]; omega
  have n244 : (c == 244) = false := by rw [beq_eq_false_iff_ne]; omega
  have m1 : 194 ≤ c := by omega
  have m2 : ¬ c ≤ 223 := by omega
  have m3 : 224 ≤ c := by omega
  have m4 : ¬ c ≤ 239 := by omega
  have m5 : 240 ≤ c := by omega
  have m6 : c ≤ 244 := by omega
  go_enter Tryz.func69, Tryz.ntmps69
  go_wp2_with fail
  refine (see_any b s k tw lo f op _ H.out).mono ?_
  rintro e w1 ⟨rfl, n, rfl⟩
  rw [HC.out]
  go_wp2_with fail
  have hrd : Rd ((w.drewN n).setCell ⟨b, 1, none⟩ (.int .i64 ((k : Int) + 1))) b s (k + 1) tw lo f op := by
    have := (H.out.drewN n).setAt (k + 1) hk
    simpa using this
  have HRD0 := Lib.hid hrd
  have T0 := Lib.hid (show Stood w b s tw lo f op true (k + 1) ((w.drewN n).setCell ⟨b, 1, none⟩ (.int .i64 ((k : Int) + 1))) from ⟨grown_set (grown_drewN (grown_refl w _) n) _ _, f, hrd, fun _ => rfl, fun h => by cases h⟩)
  clear hrd
  obtain ⟨r0, hr0⟩ : ∃ r, (mNeed s.data.toList 128 191 (k + 1)).1 = r := ⟨_, rfl⟩
  refine (need_any b s (k + 1) tw lo f op 128 191 _ (by omega) HRD0.out).mono ?_
  cases r0 with
  | false =>
    rw [mNeed_no hr0]
    rintro e v0 ⟨rfl, hst⟩
    have X := Lib.hid (T0.out.thru hst)
    have HM := Lib.hid (show mNeeds s.data.toList [(128, 191), (128, 191), (128, 191)] (k + 1) = (false, k + 1) by rw [ mNeeds_false hr0])
    clear hst hr0
    go_wp2_with fail
    go_ret
    rw [HM.out]
    exact ⟨rfl, X.out⟩
  | true =>
    rw [mNeed_yes hr0]
    rintro e v0 ⟨rfl, hst⟩
    have HY0 := Lib.hid hr0
    have T1 := Lib.hid (T0.out.thru hst)
    have HRD1 := Lib.hid hst.yes
    clear hst hr0
    go_wp2_with fail
    obtain ⟨r1, hr1⟩ : ∃ r, (mNeed s.data.toList 128 191 (k + 1 + 1)).1 = r := ⟨_, rfl⟩
    refine (need_any b s (k + 1 + 1) tw lo f op 128 191 _ (by omega) HRD1.out).mono ?_
    cases r1 with
    | false =>
      rw [mNeed_no hr1]
      rintro e v1 ⟨rfl, hst⟩
      have X := Lib.hid (T1.out.thru hst)
      have HM := Lib.hid (show mNeeds s.data.toList [(128, 191), (128, 191), (128, 191)] (k + 1) = (false, k + 1 + 1) by rw [mNeeds_true HY0.out, mNeeds_false hr1])
      clear hst hr1
      go_wp2_with fail
      go_ret
      rw [HM.out]
      exact ⟨rfl, X.out⟩
    | true =>
      rw [mNeed_yes hr1]
      rintro e v1 ⟨rfl, hst⟩
      have HY1 := Lib.hid hr1
      have T2 := Lib.hid (T1.out.thru hst)
      have HRD2 := Lib.hid hst.yes
      clear hst hr1
      go_wp2_with fail
      obtain ⟨r2, hr2⟩ : ∃ r, (mNeed s.data.toList 128 191 (k + 1 + 1 + 1)).1 = r := ⟨_, rfl⟩
      refine (need_any b s (k + 1 + 1 + 1) tw lo f op 128 191 _ (by omega) HRD2.out).mono ?_
      cases r2 with
      | false =>
        rw [mNeed_no hr2]
        rintro e v2 ⟨rfl, hst⟩
        have X := Lib.hid (T2.out.thru hst)
        have HM := Lib.hid (show mNeeds s.data.toList [(128, 191), (128, 191), (128, 191)] (k + 1) = (false, k + 1 + 1 + 1) by rw [mNeeds_true HY0.out, mNeeds_true HY1.out, mNeeds_false hr2])
        clear hst hr2
        go_wp2_with fail
        go_ret
        rw [HM.out]
        exact ⟨rfl, X.out⟩
      | true =>
        rw [mNeed_yes hr2]
        rintro e v2 ⟨rfl, hst⟩
        have HY2 := Lib.hid hr2
        have T3 := Lib.hid (T2.out.thru hst)
        have HRD3 := Lib.hid hst.yes
        clear hst hr2
        go_wp2_with fail
        have HM := Lib.hid (show mNeeds s.data.toList [(128, 191), (128, 191), (128, 191)] (k + 1) = (true, k + 1 + 1 + 1 + 1) by rw [mNeeds_true HY0.out, mNeeds_true HY1.out, mNeeds_true HY2.out]; rfl)
        go_ret
        rw [HM.out]
        exact ⟨rfl, T3.out⟩

set_option maxHeartbeats 1000000 in
theorem rx_four_low (b : Nat) (s : ByteArray) (k : Nat) (tw lo : Bool) (f : Int) (op : Bool) (w : World) (hs : s.size ≤ 100000000000) (h : Rd w b s k tw lo f op) (c : Int) (hc : seeB s.data.toList k = c) (h1 : c = 240) :
    Calls Tryz.prog 69 #[.pointer (some ⟨b, 0, none⟩)] w (Step w b s tw lo f op (mNeeds s.data.toList [(144, 191), (128, 191), (128, 191)] (k + 1))) := by
  have H := Lib.hid h
  have HC := Lib.hid hc
  obtain ⟨c0, c1, _, _, f1, _⟩ := h.cells
  have hlt := h.lt
  have hk : k < s.size := see_lt hc (by omega)
  clear h hc
  subst h1
  go_enter Tryz.func69, Tryz.ntmps69
  go_wp2_with fail
  refine (see_any b s k tw lo f op _ H.out).mono ?_
  rintro e w1 ⟨rfl, n, rfl⟩
  rw [HC.out]
  go_wp2_with fail
  have hrd : Rd ((w.drewN n).setCell ⟨b, 1, none⟩ (.int .i64 ((k : Int) + 1))) b s (k + 1) tw lo f op := by
    have := (H.out.drewN n).setAt (k + 1) hk
    simpa using this
  have HRD0 := Lib.hid hrd
  have T0 := Lib.hid (show Stood w b s tw lo f op true (k + 1) ((w.drewN n).setCell ⟨b, 1, none⟩ (.int .i64 ((k : Int) + 1))) from ⟨grown_set (grown_drewN (grown_refl w _) n) _ _, f, hrd, fun _ => rfl, fun h => by cases h⟩)
  clear hrd
  obtain ⟨r0, hr0⟩ : ∃ r, (mNeed s.data.toList 144 191 (k + 1)).1 = r := ⟨_, rfl⟩
  refine (need_any b s (k + 1) tw lo f op 144 191 _ (by omega) HRD0.out).mono ?_
  cases r0 with
  | false =>
    rw [mNeed_no hr0]
    rintro e v0 ⟨rfl, hst⟩
    have X := Lib.hid (T0.out.thru hst)
    have HM := Lib.hid (show mNeeds s.data.toList [(144, 191), (128, 191), (128, 191)] (k + 1) = (false, k + 1) by rw [ mNeeds_false hr0])
    clear hst hr0
    go_wp2_with fail
    go_ret
    rw [HM.out]
    exact ⟨rfl, X.out⟩
  | true =>
    rw [mNeed_yes hr0]
    rintro e v0 ⟨rfl, hst⟩
    have HY0 := Lib.hid hr0
    have T1 := Lib.hid (T0.out.thru hst)
    have HRD1 := Lib.hid hst.yes
    clear hst hr0
    go_wp2_with fail
    obtain ⟨r1, hr1⟩ : ∃ r, (mNeed s.data.toList 128 191 (k + 1 + 1)).1 = r := ⟨_, rfl⟩
    refine (need_any b s (k + 1 + 1) tw lo f op 128 191 _ (by omega) HRD1.out).mono ?_
    cases r1 with
    | false =>
      rw [mNeed_no hr1]
      rintro e v1 ⟨rfl, hst⟩
      have X := Lib.hid (T1.out.thru hst)
      have HM := Lib.hid (show mNeeds s.data.toList [(144, 191), (128, 191), (128, 191)] (k + 1) = (false, k + 1 + 1) by rw [mNeeds_true HY0.out, mNeeds_false hr1])
      clear hst hr1
      go_wp2_with fail
      go_ret
      rw [HM.out]
      exact ⟨rfl, X.out⟩
    | true =>
      rw [mNeed_yes hr1]
      rintro e v1 ⟨rfl, hst⟩
      have HY1 := Lib.hid hr1
      have T2 := Lib.hid (T1.out.thru hst)
      have HRD2 := Lib.hid hst.yes
      clear hst hr1
      go_wp2_with fail
      obtain ⟨r2, hr2⟩ : ∃ r, (mNeed s.data.toList 128 191 (k + 1 + 1 + 1)).1 = r := ⟨_, rfl⟩
      refine (need_any b s (k + 1 + 1 + 1) tw lo f op 128 191 _ (by omega) HRD2.out).mono ?_
      cases r2 with
      | false =>
        rw [mNeed_no hr2]
        rintro e v2 ⟨rfl, hst⟩
        have X := Lib.hid (T2.out.thru hst)
        have HM := Lib.hid (show mNeeds s.data.toList [(144, 191), (128, 191), (128, 191)] (k + 1) = (false, k + 1 + 1 + 1) by rw [mNeeds_true HY0.out, mNeeds_true HY1.out, mNeeds_false hr2])
        clear hst hr2
        go_wp2_with fail
        go_ret
        rw [HM.out]
        exact ⟨rfl, X.out⟩
      | true =>
        rw [mNeed_yes hr2]
        rintro e v2 ⟨rfl, hst⟩
        have HY2 := Lib.hid hr2
        have T3 := Lib.hid (T2.out.thru hst)
        have HRD3 := Lib.hid hst.yes
        clear hst hr2
        go_wp2_with fail
        have HM := Lib.hid (show mNeeds s.data.toList [(144, 191), (128, 191), (128, 191)] (k + 1) = (true, k + 1 + 1 + 1 + 1) by rw [mNeeds_true HY0.out, mNeeds_true HY1.out, mNeeds_true HY2.out]; rfl)
        go_ret
        rw [HM.out]
        exact ⟨rfl, T3.out⟩

set_option maxHeartbeats 1000000 in
theorem rx_four_high (b : Nat) (s : ByteArray) (k : Nat) (tw lo : Bool) (f : Int) (op : Bool) (w : World) (hs : s.size ≤ 100000000000) (h : Rd w b s k tw lo f op) (c : Int) (hc : seeB s.data.toList k = c) (h1 : c = 244) :
    Calls Tryz.prog 69 #[.pointer (some ⟨b, 0, none⟩)] w (Step w b s tw lo f op (mNeeds s.data.toList [(128, 143), (128, 191), (128, 191)] (k + 1))) := by
  have H := Lib.hid h
  have HC := Lib.hid hc
  obtain ⟨c0, c1, _, _, f1, _⟩ := h.cells
  have hlt := h.lt
  have hk : k < s.size := see_lt hc (by omega)
  clear h hc
  subst h1
  go_enter Tryz.func69, Tryz.ntmps69
  go_wp2_with fail
  refine (see_any b s k tw lo f op _ H.out).mono ?_
  rintro e w1 ⟨rfl, n, rfl⟩
  rw [HC.out]
  go_wp2_with fail
  have hrd : Rd ((w.drewN n).setCell ⟨b, 1, none⟩ (.int .i64 ((k : Int) + 1))) b s (k + 1) tw lo f op := by
    have := (H.out.drewN n).setAt (k + 1) hk
    simpa using this
  have HRD0 := Lib.hid hrd
  have T0 := Lib.hid (show Stood w b s tw lo f op true (k + 1) ((w.drewN n).setCell ⟨b, 1, none⟩ (.int .i64 ((k : Int) + 1))) from ⟨grown_set (grown_drewN (grown_refl w _) n) _ _, f, hrd, fun _ => rfl, fun h => by cases h⟩)
  clear hrd
  obtain ⟨r0, hr0⟩ : ∃ r, (mNeed s.data.toList 128 143 (k + 1)).1 = r := ⟨_, rfl⟩
  refine (need_any b s (k + 1) tw lo f op 128 143 _ (by omega) HRD0.out).mono ?_
  cases r0 with
  | false =>
    rw [mNeed_no hr0]
    rintro e v0 ⟨rfl, hst⟩
    have X := Lib.hid (T0.out.thru hst)
    have HM := Lib.hid (show mNeeds s.data.toList [(128, 143), (128, 191), (128, 191)] (k + 1) = (false, k + 1) by rw [ mNeeds_false hr0])
    clear hst hr0
    go_wp2_with fail
    go_ret
    rw [HM.out]
    exact ⟨rfl, X.out⟩
  | true =>
    rw [mNeed_yes hr0]
    rintro e v0 ⟨rfl, hst⟩
    have HY0 := Lib.hid hr0
    have T1 := Lib.hid (T0.out.thru hst)
    have HRD1 := Lib.hid hst.yes
    clear hst hr0
    go_wp2_with fail
    obtain ⟨r1, hr1⟩ : ∃ r, (mNeed s.data.toList 128 191 (k + 1 + 1)).1 = r := ⟨_, rfl⟩
    refine (need_any b s (k + 1 + 1) tw lo f op 128 191 _ (by omega) HRD1.out).mono ?_
    cases r1 with
    | false =>
      rw [mNeed_no hr1]
      rintro e v1 ⟨rfl, hst⟩
      have X := Lib.hid (T1.out.thru hst)
      have HM := Lib.hid (show mNeeds s.data.toList [(128, 143), (128, 191), (128, 191)] (k + 1) = (false, k + 1 + 1) by rw [mNeeds_true HY0.out, mNeeds_false hr1])
      clear hst hr1
      go_wp2_with fail
      go_ret
      rw [HM.out]
      exact ⟨rfl, X.out⟩
    | true =>
      rw [mNeed_yes hr1]
      rintro e v1 ⟨rfl, hst⟩
      have HY1 := Lib.hid hr1
      have T2 := Lib.hid (T1.out.thru hst)
      have HRD2 := Lib.hid hst.yes
      clear hst hr1
      go_wp2_with fail
      obtain ⟨r2, hr2⟩ : ∃ r, (mNeed s.data.toList 128 191 (k + 1 + 1 + 1)).1 = r := ⟨_, rfl⟩
      refine (need_any b s (k + 1 + 1 + 1) tw lo f op 128 191 _ (by omega) HRD2.out).mono ?_
      cases r2 with
      | false =>
        rw [mNeed_no hr2]
        rintro e v2 ⟨rfl, hst⟩
        have X := Lib.hid (T2.out.thru hst)
        have HM := Lib.hid (show mNeeds s.data.toList [(128, 143), (128, 191), (128, 191)] (k + 1) = (false, k + 1 + 1 + 1) by rw [mNeeds_true HY0.out, mNeeds_true HY1.out, mNeeds_false hr2])
        clear hst hr2
        go_wp2_with fail
        go_ret
        rw [HM.out]
        exact ⟨rfl, X.out⟩
      | true =>
        rw [mNeed_yes hr2]
        rintro e v2 ⟨rfl, hst⟩
        have HY2 := Lib.hid hr2
        have T3 := Lib.hid (T2.out.thru hst)
        have HRD3 := Lib.hid hst.yes
        clear hst hr2
        go_wp2_with fail
        have HM := Lib.hid (show mNeeds s.data.toList [(128, 143), (128, 191), (128, 191)] (k + 1) = (true, k + 1 + 1 + 1 + 1) by rw [mNeeds_true HY0.out, mNeeds_true HY1.out, mNeeds_true HY2.out]; rfl)
        go_ret
        rw [HM.out]
        exact ⟨rfl, T3.out⟩

theorem rx_none (b : Nat) (s : ByteArray) (k : Nat) (tw lo : Bool) (f : Int) (op : Bool) (w : World) (h : Rd w b s k tw lo f op) (c : Int) (hc : seeB s.data.toList k = c) (h1 : c < 194 ∨ 244 < c) :
    Calls Tryz.prog 69 #[.pointer (some ⟨b, 0, none⟩)] w (Step w b s tw lo f op (false, k)) := by
  have H := Lib.hid h
  have HC := Lib.hid hc
  have hlt := h.lt
  clear h hc
  rcases h1 with h1 | h1
  · have q1 : ¬ 194 ≤ c := by omega
    have q2 : ¬ 224 ≤ c := by omega
    have q3 : ¬ 240 ≤ c := by omega
    go_enter Tryz.func69, Tryz.ntmps69
    go_wp2_with fail
    refine (see_any b s k tw lo f op _ H.out).mono ?_
    rintro e w1 ⟨rfl, n, rfl⟩
    rw [HC.out]
    go_wp2_with fail
    refine (fail_any b s k tw lo f op _ (by decide) _ (H.out.drewN n)).mono ?_
    rintro e w2 ⟨rfl, hst⟩
    have HS := Lib.hid hst
    clear hst
    go_wp2_with fail
    go_ret
    exact ⟨rfl, Stood.from (grown_drewN (grown_refl w _) n) rfl HS.out⟩
  · have q1 : 194 ≤ c := by omega
    have q1' : ¬ c ≤ 223 := by omega
    have q2 : 224 ≤ c := by omega
    have q2' : ¬ c ≤ 239 := by omega
    have q3 : 240 ≤ c := by omega
    have q3' : ¬ c ≤ 244 := by omega
    go_enter Tryz.func69, Tryz.ntmps69
    go_wp2_with fail
    refine (see_any b s k tw lo f op _ H.out).mono ?_
    rintro e w1 ⟨rfl, n, rfl⟩
    rw [HC.out]
    go_wp2_with fail
    refine (fail_any b s k tw lo f op _ (by decide) _ (H.out.drewN n)).mono ?_
    rintro e w2 ⟨rfl, hst⟩
    have HS := Lib.hid hst
    clear hst
    go_wp2_with fail
    go_ret
    exact ⟨rfl, Stood.from (grown_drewN (grown_refl w _) n) rfl HS.out⟩

theorem runeX_any (b : Nat) (s : ByteArray) (k : Nat) (tw lo : Bool) (f : Int) (op : Bool) (w : World) (hs : s.size ≤ 100000000000) (h : Rd w b s k tw lo f op) :
    Calls Tryz.prog 69 #[.pointer (some ⟨b, 0, none⟩)] w (Step w b s tw lo f op (mRune s.data.toList k)) := by
  obtain ⟨c, hc⟩ : ∃ c, seeB s.data.toList k = c := ⟨_, rfl⟩
  by_cases a1 : c < 194 ∨ 244 < c
  · have e : mRune s.data.toList k = (false, k) := by unfold mRune runeSpec; rw [hc, if_pos a1]
    rw [e]; exact rx_none b s k tw lo f op w h c hc a1
  by_cases a2 : c ≤ 223
  · rw [mRune_some (rs := [(128, 191)]) (by unfold runeSpec; rw [hc, if_neg a1, if_pos a2])]; exact rx_two b s k tw lo f op w hs h c hc (by omega) a2
  by_cases a3 : c = 224
  · rw [mRune_some (rs := [(160, 191), (128, 191)]) (by unfold runeSpec; rw [hc, if_neg a1, if_neg a2, if_pos a3])]; exact rx_three_low b s k tw lo f op w hs h c hc a3
  by_cases a4 : c = 237
  · rw [mRune_some (rs := [(128, 159), (128, 191)]) (by unfold runeSpec; rw [hc, if_neg a1, if_neg a2, if_neg a3, if_pos a4])]; exact rx_three_high b s k tw lo f op w hs h c hc a4
  by_cases a5 : c ≤ 239
  · rw [mRune_some (rs := [(128, 191), (128, 191)]) (by unfold runeSpec; rw [hc, if_neg a1, if_neg a2, if_neg a3, if_neg a4, if_pos a5])]; exact rx_three_mid b s k tw lo f op w hs h c hc (by omega) a5 a4
  by_cases a6 : c = 240
  · rw [mRune_some (rs := [(144, 191), (128, 191), (128, 191)]) (by unfold runeSpec; rw [hc, if_neg a1, if_neg a2, if_neg a3, if_neg a4, if_neg a5, if_pos a6])]; exact rx_four_low b s k tw lo f op w hs h c hc a6
  by_cases a7 : c = 244
  · rw [mRune_some (rs := [(128, 143), (128, 191), (128, 191)]) (by unfold runeSpec; rw [hc, if_neg a1, if_neg a2, if_neg a3, if_neg a4, if_neg a5, if_neg a6, if_pos a7])]; exact rx_four_high b s k tw lo f op w hs h c hc a7
  · rw [mRune_some (rs := [(128, 191), (128, 191), (128, 191)]) (by unfold runeSpec; rw [hc, if_neg a1, if_neg a2, if_neg a3, if_neg a4, if_neg a5, if_neg a6, if_neg a7])]; exact rx_four_mid b s k tw lo f op w hs h c hc (by omega) (by omega)

theorem mNeeds_yes {l : List UInt8} : ∀ (rs : List (Int × Int)) (k : Nat), (mNeeds l rs k).1 = true → (mNeeds l rs k).2 = k + rs.length
  | [], _, _ => rfl
  | (a, b) :: t, k, h => by
    cases hr : (mNeed l a b k).1 with
    | true => rw [mNeeds_true hr] at h ⊢; rw [mNeeds_yes t (k + 1) h, List.length_cons]; omega
    | false => rw [mNeeds_false hr] at h; cases h

theorem mNeeds_head {l : List UInt8} {a b : Int} {t : List (Int × Int)} {k : Nat} (h : (mNeeds l ((a, b) :: t) k).1 = true) : (mNeed l a b k).1 = true ∧ (mNeeds l t (k + 1)).1 = true := by
  cases hr : (mNeed l a b k).1 with
  | true => rw [mNeeds_true hr] at h; exact ⟨rfl, h⟩
  | false => rw [mNeeds_false hr] at h; cases h

theorem two_char {l : List UInt8} {k : Nat} {c : Int} (hc : seeB l k = c) (h1 : 194 ≤ c) (h2 : c ≤ 223) (g : (mNeed l 128 191 (k + 1)).1 = true) : CharAt (l.drop k) 2 := by
  obtain ⟨d, hd, hd1, hd2, hk2⟩ := need_true g
  have e0 : (l.drop k)[0]? = l[k]? := by simp
  have e1 : (l.drop k)[1]? = l[k + 1]? := by simp
  rw [hd] at e1
  unfold seeB at hc
  cases hx : l[k]? with
  | none => rw [hx] at hc; simp at hc; omega
  | some x =>
    rw [hx] at hc e0
    match hl : l.drop k with
    | [] => rw [hl] at e0; simp at e0
    | [_] => rw [hl] at e1; simp at e1
    | y :: z :: t =>
      rw [hl] at e0 e1
      simp at e0 e1
      subst e0 e1
      simp only at hc
      exact .inr (.inl ⟨rfl, _, _, t, rfl, by omega, by omega, by unfold cont; omega⟩)

/-- Where 'rune' says yes stands a character; where it says no, none. -/
theorem mRune_yes {l : List UInt8} {k : Nat} (h : (mRune l k).1 = true) : ∃ n, 2 ≤ n ∧ CharAt (l.drop k) n ∧ mRune l k = (true, k + n) := by
  obtain ⟨c, hc⟩ : ∃ c, seeB l k = c := ⟨_, rfl⟩
  have key : ∀ rs : List (Int × Int), runeSpec (seeB l k) = some rs → ∀ n, n = rs.length + 1 → 2 ≤ n → CharAt (l.drop k) n → ∃ n, 2 ≤ n ∧ CharAt (l.drop k) n ∧ mRune l k = (true, k + n) := fun rs hrs n hn h2 hch => by
    refine ⟨n, h2, hch, Prod.ext h ?_⟩
    rw [mRune_some hrs] at h ⊢
    rw [mNeeds_yes rs _ h, hn]
    show k + 1 + rs.length = k + (rs.length + 1)
    omega
  have hit : ∀ rs : List (Int × Int), runeSpec (seeB l k) = some rs → (mNeeds l rs (k + 1)).1 = true := fun rs hrs => by rw [mRune_some hrs] at h; exact h
  by_cases a1 : c < 194 ∨ 244 < c
  · unfold mRune runeSpec at h
    rw [hc, if_pos a1] at h
    cases h
  by_cases a2 : c ≤ 223
  · have hrs : runeSpec (seeB l k) = some [(128, 191)] := by unfold runeSpec; rw [hc, if_neg a1, if_pos a2]
    exact key _ hrs 2 rfl (by omega) (two_char hc (by omega) a2 (mNeeds_head (hit _ hrs)).1)
  by_cases a3 : c = 224
  · have hrs : runeSpec (seeB l k) = some [(160, 191), (128, 191)] := by unfold runeSpec; rw [hc, if_neg a1, if_neg a2, if_pos a3]
    have g := mNeeds_head (hit _ hrs)
    exact key _ hrs 3 rfl (by omega) (three_char hc (by omega) (by omega) (.inl ⟨a3, rfl, rfl⟩) g.1 (mNeeds_head g.2).1).1
  by_cases a4 : c = 237
  · have hrs : runeSpec (seeB l k) = some [(128, 159), (128, 191)] := by unfold runeSpec; rw [hc, if_neg a1, if_neg a2, if_neg a3, if_pos a4]
    have g := mNeeds_head (hit _ hrs)
    exact key _ hrs 3 rfl (by omega) (three_char hc (by omega) (by omega) (.inr (.inl ⟨a4, rfl, rfl⟩)) g.1 (mNeeds_head g.2).1).1
  by_cases a5 : c ≤ 239
  · have hrs : runeSpec (seeB l k) = some [(128, 191), (128, 191)] := by unfold runeSpec; rw [hc, if_neg a1, if_neg a2, if_neg a3, if_neg a4, if_pos a5]
    have g := mNeeds_head (hit _ hrs)
    exact key _ hrs 3 rfl (by omega) (three_char hc (by omega) (by omega) (.inr (.inr ⟨a3, a4, rfl, rfl⟩)) g.1 (mNeeds_head g.2).1).1
  by_cases a6 : c = 240
  · have hrs : runeSpec (seeB l k) = some [(144, 191), (128, 191), (128, 191)] := by unfold runeSpec; rw [hc, if_neg a1, if_neg a2, if_neg a3, if_neg a4, if_neg a5, if_pos a6]
    have g := mNeeds_head (hit _ hrs)
    have g2 := mNeeds_head g.2
    exact key _ hrs 4 rfl (by omega) (four_char hc (by omega) (by omega) (.inl ⟨a6, rfl, rfl⟩) g.1 g2.1 (mNeeds_head g2.2).1).1
  by_cases a7 : c = 244
  · have hrs : runeSpec (seeB l k) = some [(128, 143), (128, 191), (128, 191)] := by unfold runeSpec; rw [hc, if_neg a1, if_neg a2, if_neg a3, if_neg a4, if_neg a5, if_neg a6, if_pos a7]
    have g := mNeeds_head (hit _ hrs)
    have g2 := mNeeds_head g.2
    exact key _ hrs 4 rfl (by omega) (four_char hc (by omega) (by omega) (.inr (.inl ⟨a7, rfl, rfl⟩)) g.1 g2.1 (mNeeds_head g2.2).1).1
  · have hrs : runeSpec (seeB l k) = some [(128, 191), (128, 191), (128, 191)] := by unfold runeSpec; rw [hc, if_neg a1, if_neg a2, if_neg a3, if_neg a4, if_neg a5, if_neg a6, if_neg a7]
    have g := mNeeds_head (hit _ hrs)
    have g2 := mNeeds_head g.2
    exact key _ hrs 4 rfl (by omega) (four_char hc (by omega) (by omega) (.inr (.inr ⟨a6, a7, rfl, rfl⟩)) g.1 g2.1 (mNeeds_head g2.2).1).1

end Go.Proofs.YtlgmdcaoogiooaaGreatDoor
