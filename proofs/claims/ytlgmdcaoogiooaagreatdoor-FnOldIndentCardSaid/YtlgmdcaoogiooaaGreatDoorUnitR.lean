/- The reference's reader: 'unit' and 'escape', exactly. -/
import Derived.Test.YtlgmdcaoogiooaaGreatDoorHexR
namespace Go.Proofs.YtlgmdcaoogiooaaGreatDoor
open Go.RowKit

theorem Stood.yes {w w' : World} {b : Nat} {s : ByteArray} {tw lo : Bool} {f : Int} {op : Bool} {k : Nat} (h : Stood w b s tw lo f op true k w') : Rd w' b s k tw lo f op := by
  obtain ⟨f', hr, hf, _⟩ := h.rd
  rw [hf rfl] at hr
  exact hr

theorem Stood.thru {w w1 w2 : World} {b : Nat} {s : ByteArray} {tw lo : Bool} {f : Int} {op ok : Bool} {k k2 : Nat} (h : Stood w b s tw lo f op true k w1) (h2 : Stood w1 b s tw lo f op ok k2 w2) : Stood w b s tw lo f op ok k2 w2 :=
  Stood.from h.grown rfl h2

theorem Stood.drewN {w w1 : World} {b : Nat} {s : ByteArray} {tw lo : Bool} {f : Int} {op ok : Bool} {k : Nat} (h : Stood w b s tw lo f op ok k w1) (n : Nat) : Stood w b s tw lo f op ok k (w1.drewN n) := by
  obtain ⟨f', hr, h1, h2⟩ := h.rd
  exact ⟨grown_drewN h.grown n, f', hr.drewN n, h1, h2⟩

theorem Stood.start {w : World} {b : Nat} {s : ByteArray} {tw lo : Bool} {f : Int} {op : Bool} {k : Nat} (h : Rd w b s k tw lo f op) : Stood w b s tw lo f op true k w :=
  ⟨grown_refl w _, f, h, fun _ => rfl, fun h => by cases h⟩

theorem mHex_yes {l : List UInt8} {a b : Int} {k : Nat} (h : (mHex l a b k).1 = true) : mHex l a b k = (true, k + 1) := Prod.ext h (mHex_true h).1

set_option maxRecDepth 100000 in
set_option maxHeartbeats 2000000 in
theorem unit_loose (b : Nat) (s : ByteArray) (k : Nat) (tw : Bool) (f : Int) (op : Bool) (low : Bool) (w : World) (hs : s.size ≤ 100000000000) (h : Rd w b s k tw true f op) :
    Calls Tryz.prog 82 #[.pointer (some ⟨b, 0, none⟩), .bool low] w (UStep w b s tw true f op (mUnit true low s.data.toList k)) := by
  obtain ⟨c0, c1, c3, c4, f1, f4⟩ := h.cells
  have hlt := h.lt
  have HR0 := Lib.hid h
  clear h
  have hu : mUnit true low s.data.toList k = ((mHexs s.data.toList [(0, 15), (0, 15), (0, 15), (0, 15)] k).1, (mHexs s.data.toList [(0, 15), (0, 15), (0, 15), (0, 15)] k).2, false) := by unfold mUnit; exact if_pos rfl
  have HU := Lib.hid hu
  clear hu
  go_enter Tryz.func82, Tryz.ntmps82
  go_wp2_with fail
  obtain ⟨r0, hr0⟩ : ∃ r, (mHex s.data.toList 0 15 (k)).1 = r := ⟨_, rfl⟩
  refine (hex_any b s (k) tw true f op 0 15 (by decide) _ hs HR0.out).mono ?_
  cases r0 with
  | false =>
    rw [mHex_false hr0]
    rintro e w1 ⟨rfl, hst⟩
    have X := Lib.hid hst
    have HM := Lib.hid (show mHexs s.data.toList [(0, 15), (0, 15), (0, 15), (0, 15)] k = (false, k) by rw [ mHexs_false hr0])
    clear hst hr0
    go_wp2_with fail
    go_ret2
    rw [HU.out, HM.out]
    exact ⟨rfl, X.out⟩
  | true =>
    rw [mHex_yes hr0]
    rintro e w1 ⟨rfl, hst⟩
    have HY0 := Lib.hid hr0
    have T1 := Lib.hid hst
    have HR1 := Lib.hid hst.yes
    clear hst hr0
    go_wp2_with fail
    obtain ⟨r1, hr1⟩ : ∃ r, (mHex s.data.toList 0 15 (k + 1)).1 = r := ⟨_, rfl⟩
    refine (hex_any b s (k + 1) tw true f op 0 15 (by decide) _ hs HR1.out).mono ?_
    cases r1 with
    | false =>
      rw [mHex_false hr1]
      rintro e w2 ⟨rfl, hst⟩
      have X := Lib.hid (Stood.thru T1.out hst)
      have HM := Lib.hid (show mHexs s.data.toList [(0, 15), (0, 15), (0, 15), (0, 15)] k = (false, k + 1) by rw [mHexs_true HY0.out, mHexs_false hr1])
      clear hst hr1
      go_wp2_with fail
      go_ret2
      rw [HU.out, HM.out]
      exact ⟨rfl, X.out⟩
    | true =>
      rw [mHex_yes hr1]
      rintro e w2 ⟨rfl, hst⟩
      have HY1 := Lib.hid hr1
      have T2 := Lib.hid (Stood.thru T1.out hst)
      have HR2 := Lib.hid hst.yes
      clear hst hr1
      go_wp2_with fail
      obtain ⟨r2, hr2⟩ : ∃ r, (mHex s.data.toList 0 15 (k + 1 + 1)).1 = r := ⟨_, rfl⟩
      refine (hex_any b s (k + 1 + 1) tw true f op 0 15 (by decide) _ hs HR2.out).mono ?_
      cases r2 with
      | false =>
        rw [mHex_false hr2]
        rintro e w3 ⟨rfl, hst⟩
        have X := Lib.hid (Stood.thru T2.out hst)
        have HM := Lib.hid (show mHexs s.data.toList [(0, 15), (0, 15), (0, 15), (0, 15)] k = (false, k + 1 + 1) by rw [mHexs_true HY0.out, mHexs_true HY1.out, mHexs_false hr2])
        clear hst hr2
        go_wp2_with fail
        go_ret2
        rw [HU.out, HM.out]
        exact ⟨rfl, X.out⟩
      | true =>
        rw [mHex_yes hr2]
        rintro e w3 ⟨rfl, hst⟩
        have HY2 := Lib.hid hr2
        have T3 := Lib.hid (Stood.thru T2.out hst)
        have HR3 := Lib.hid hst.yes
        clear hst hr2
        go_wp2_with fail
        obtain ⟨r3, hr3⟩ : ∃ r, (mHex s.data.toList 0 15 (k + 1 + 1 + 1)).1 = r := ⟨_, rfl⟩
        refine (hex_any b s (k + 1 + 1 + 1) tw true f op 0 15 (by decide) _ hs HR3.out).mono ?_
        cases r3 with
        | false =>
          rw [mHex_false hr3]
          rintro e w4 ⟨rfl, hst⟩
          have X := Lib.hid (Stood.thru T3.out hst)
          have HM := Lib.hid (show mHexs s.data.toList [(0, 15), (0, 15), (0, 15), (0, 15)] k = (false, k + 1 + 1 + 1) by rw [mHexs_true HY0.out, mHexs_true HY1.out, mHexs_true HY2.out, mHexs_false hr3])
          clear hst hr3
          go_wp2_with fail
          go_ret2
          rw [HU.out, HM.out]
          exact ⟨rfl, X.out⟩
        | true =>
          rw [mHex_yes hr3]
          rintro e w4 ⟨rfl, hst⟩
          have HY3 := Lib.hid hr3
          have T4 := Lib.hid (Stood.thru T3.out hst)
          have HR4 := Lib.hid hst.yes
          clear hst hr3
          have HM := Lib.hid (show mHexs s.data.toList [(0, 15), (0, 15), (0, 15), (0, 15)] k = (true, k + 1 + 1 + 1 + 1) by rw [mHexs_true HY0.out, mHexs_true HY1.out, mHexs_true HY2.out, mHexs_true HY3.out]; rfl)
          go_wp2_with fail
          go_ret2
          rw [HU.out, HM.out]
          exact ⟨rfl, T4.out⟩

set_option maxRecDepth 100000 in
set_option maxHeartbeats 2000000 in
theorem unit_low (b : Nat) (s : ByteArray) (k : Nat) (tw : Bool) (f : Int) (op : Bool) (x y : Int) (hx : hexAt s.data.toList k = x) (hy : hexAt s.data.toList (k + 1) = y) (w : World) (hs : s.size ≤ 100000000000) (h : Rd w b s k tw false f op) :
    Calls Tryz.prog 82 #[.pointer (some ⟨b, 0, none⟩), .bool true] w (UStep w b s tw false f op (mUnit false true s.data.toList k)) := by
  obtain ⟨c0, c1, c3, c4, f1, f4⟩ := h.cells
  have hlt := h.lt
  have HR0 := Lib.hid h
  clear h
  have hu : mUnit false true s.data.toList k = ((mHexs s.data.toList [(13, 13), (12, 15), (0, 15), (0, 15)] k).1, (mHexs s.data.toList [(13, 13), (12, 15), (0, 15), (0, 15)] k).2, false) := by unfold mUnit; rw [if_neg (by decide)]; exact if_pos rfl
  have HU := Lib.hid hu
  clear hu
  have HXX := Lib.hid hx
  have HYY := Lib.hid hy
  clear hx hy
  go_enter Tryz.func82, Tryz.ntmps82
  go_wp2_with fail
  obtain ⟨a0, ha0, hsee0, hhex0⟩ := hexAt_see s.data.toList (k)
  rw [HXX.out] at hhex0
  have HSee0 := Lib.hid hsee0
  have HHex0 := Lib.hid hhex0
  clear hsee0 hhex0
  refine (see_any b s (k) tw false f op _ HR0.out).mono ?_
  rintro e v0 ⟨rfl, n0, rfl⟩
  rw [HSee0.out]
  go_wp2_with fail
  refine (Hex_any a0 ha0 _).mono ?_
  rintro e v0 ⟨rfl, rfl⟩
  rw [HHex0.out]
  have S0 := Lib.hid ((Stood.start HR0.out).drewN n0)
  replace HR0 := Lib.hid (HR0.out.drewN n0)
  go_wp2_with fail
  obtain ⟨r0, hr0⟩ : ∃ r, (mHex s.data.toList 13 13 (k)).1 = r := ⟨_, rfl⟩
  refine (hex_any b s (k) tw false f op 13 13 (by decide) _ hs HR0.out).mono ?_
  cases r0 with
  | false =>
    rw [mHex_false hr0]
    rintro e w1 ⟨rfl, hst⟩
    have X := Lib.hid (Stood.thru S0.out hst)
    have HM := Lib.hid (show mHexs s.data.toList [(13, 13), (12, 15), (0, 15), (0, 15)] k = (false, k) by rw [ mHexs_false hr0])
    clear hst hr0
    go_wp2_with fail
    go_ret2
    rw [HU.out, HM.out]
    exact ⟨rfl, X.out⟩
  | true =>
    rw [mHex_yes hr0]
    rintro e w1 ⟨rfl, hst⟩
    have HY0 := Lib.hid hr0
    have T1 := Lib.hid (Stood.thru S0.out hst)
    have HR1 := Lib.hid hst.yes
    clear hst hr0
    go_wp2_with fail
    obtain ⟨a1, ha1, hsee1, hhex1⟩ := hexAt_see s.data.toList (k + 1)
    rw [HYY.out] at hhex1
    have HSee1 := Lib.hid hsee1
    have HHex1 := Lib.hid hhex1
    clear hsee1 hhex1
    refine (see_any b s (k + 1) tw false f op _ HR1.out).mono ?_
    rintro e v1 ⟨rfl, n1, rfl⟩
    rw [HSee1.out]
    go_wp2_with fail
    refine (Hex_any a1 ha1 _).mono ?_
    rintro e v1 ⟨rfl, rfl⟩
    rw [HHex1.out]
    have S1 := Lib.hid (T1.out.drewN n1)
    replace HR1 := Lib.hid (HR1.out.drewN n1)
    go_wp2_with fail
    obtain ⟨r1, hr1⟩ : ∃ r, (mHex s.data.toList 12 15 (k + 1)).1 = r := ⟨_, rfl⟩
    refine (hex_any b s (k + 1) tw false f op 12 15 (by decide) _ hs HR1.out).mono ?_
    cases r1 with
    | false =>
      rw [mHex_false hr1]
      rintro e w2 ⟨rfl, hst⟩
      have X := Lib.hid (Stood.thru S1.out hst)
      have HM := Lib.hid (show mHexs s.data.toList [(13, 13), (12, 15), (0, 15), (0, 15)] k = (false, k + 1) by rw [mHexs_true HY0.out, mHexs_false hr1])
      clear hst hr1
      go_wp2_with fail
      go_ret2
      rw [HU.out, HM.out]
      exact ⟨rfl, X.out⟩
    | true =>
      rw [mHex_yes hr1]
      rintro e w2 ⟨rfl, hst⟩
      have HY1 := Lib.hid hr1
      have T2 := Lib.hid (Stood.thru S1.out hst)
      have HR2 := Lib.hid hst.yes
      clear hst hr1
      go_wp2_with fail
      obtain ⟨r2, hr2⟩ : ∃ r, (mHex s.data.toList 0 15 (k + 1 + 1)).1 = r := ⟨_, rfl⟩
      refine (hex_any b s (k + 1 + 1) tw false f op 0 15 (by decide) _ hs HR2.out).mono ?_
      cases r2 with
      | false =>
        rw [mHex_false hr2]
        rintro e w3 ⟨rfl, hst⟩
        have X := Lib.hid (Stood.thru T2.out hst)
        have HM := Lib.hid (show mHexs s.data.toList [(13, 13), (12, 15), (0, 15), (0, 15)] k = (false, k + 1 + 1) by rw [mHexs_true HY0.out, mHexs_true HY1.out, mHexs_false hr2])
        clear hst hr2
        go_wp2_with fail
        go_ret2
        rw [HU.out, HM.out]
        exact ⟨rfl, X.out⟩
      | true =>
        rw [mHex_yes hr2]
        rintro e w3 ⟨rfl, hst⟩
        have HY2 := Lib.hid hr2
        have T3 := Lib.hid (Stood.thru T2.out hst)
        have HR3 := Lib.hid hst.yes
        clear hst hr2
        go_wp2_with fail
        obtain ⟨r3, hr3⟩ : ∃ r, (mHex s.data.toList 0 15 (k + 1 + 1 + 1)).1 = r := ⟨_, rfl⟩
        refine (hex_any b s (k + 1 + 1 + 1) tw false f op 0 15 (by decide) _ hs HR3.out).mono ?_
        cases r3 with
        | false =>
          rw [mHex_false hr3]
          rintro e w4 ⟨rfl, hst⟩
          have X := Lib.hid (Stood.thru T3.out hst)
          have HM := Lib.hid (show mHexs s.data.toList [(13, 13), (12, 15), (0, 15), (0, 15)] k = (false, k + 1 + 1 + 1) by rw [mHexs_true HY0.out, mHexs_true HY1.out, mHexs_true HY2.out, mHexs_false hr3])
          clear hst hr3
          go_wp2_with fail
          go_ret2
          rw [HU.out, HM.out]
          exact ⟨rfl, X.out⟩
        | true =>
          rw [mHex_yes hr3]
          rintro e w4 ⟨rfl, hst⟩
          have HY3 := Lib.hid hr3
          have T4 := Lib.hid (Stood.thru T3.out hst)
          have HR4 := Lib.hid hst.yes
          clear hst hr3
          have HM := Lib.hid (show mHexs s.data.toList [(13, 13), (12, 15), (0, 15), (0, 15)] k = (true, k + 1 + 1 + 1 + 1) by rw [mHexs_true HY0.out, mHexs_true HY1.out, mHexs_true HY2.out, mHexs_true HY3.out]; rfl)
          go_wp2_with fail
          go_ret2
          rw [HU.out, HM.out]
          exact ⟨rfl, T4.out⟩

set_option maxRecDepth 100000 in
set_option maxHeartbeats 2000000 in
theorem unit_half (b : Nat) (s : ByteArray) (k : Nat) (tw : Bool) (f : Int) (op : Bool) (x y : Int) (hx : hexAt s.data.toList k = x) (hy : hexAt s.data.toList (k + 1) = y) (h13 : x = 13) (w : World) (hs : s.size ≤ 100000000000) (h : Rd w b s k tw false f op) :
    Calls Tryz.prog 82 #[.pointer (some ⟨b, 0, none⟩), .bool false] w (UStep w b s tw false f op (mUnit false false s.data.toList k)) := by
  obtain ⟨c0, c1, c3, c4, f1, f4⟩ := h.cells
  have hlt := h.lt
  have HR0 := Lib.hid h
  clear h
  subst h13
  have hu : mUnit false false s.data.toList k = ((mHexs s.data.toList [(0, 15), (0, 11), (0, 15), (0, 15)] k).1, (mHexs s.data.toList [(0, 15), (0, 11), (0, 15), (0, 15)] k).2, (mHexs s.data.toList [(0, 15), (0, 11), (0, 15), (0, 15)] k).1 && decide (8 ≤ hexAt s.data.toList (k + 1))) := by unfold mUnit; rw [if_neg (by decide), if_neg (by decide)]; exact if_pos hx
  have HU := Lib.hid hu
  clear hu
  have HXX := Lib.hid hx
  have HYY := Lib.hid hy
  clear hx hy
  go_enter Tryz.func82, Tryz.ntmps82
  go_wp2_with fail
  obtain ⟨a0, ha0, hsee0, hhex0⟩ := hexAt_see s.data.toList (k)
  rw [HXX.out] at hhex0
  have HSee0 := Lib.hid hsee0
  have HHex0 := Lib.hid hhex0
  clear hsee0 hhex0
  refine (see_any b s (k) tw false f op _ HR0.out).mono ?_
  rintro e v0 ⟨rfl, n0, rfl⟩
  rw [HSee0.out]
  go_wp2_with fail
  refine (Hex_any a0 ha0 _).mono ?_
  rintro e v0 ⟨rfl, rfl⟩
  rw [HHex0.out]
  have S0 := Lib.hid ((Stood.start HR0.out).drewN n0)
  replace HR0 := Lib.hid (HR0.out.drewN n0)
  go_wp2_with fail
  obtain ⟨r0, hr0⟩ : ∃ r, (mHex s.data.toList 0 15 (k)).1 = r := ⟨_, rfl⟩
  refine (hex_any b s (k) tw false f op 0 15 (by decide) _ hs HR0.out).mono ?_
  cases r0 with
  | false =>
    rw [mHex_false hr0]
    rintro e w1 ⟨rfl, hst⟩
    have X := Lib.hid (Stood.thru S0.out hst)
    have HM := Lib.hid (show mHexs s.data.toList [(0, 15), (0, 11), (0, 15), (0, 15)] k = (false, k) by rw [ mHexs_false hr0])
    clear hst hr0
    go_wp2_with fail
    go_ret2
    rw [HU.out, HM.out]
    exact ⟨rfl, X.out⟩
  | true =>
    rw [mHex_yes hr0]
    rintro e w1 ⟨rfl, hst⟩
    have HY0 := Lib.hid hr0
    have T1 := Lib.hid (Stood.thru S0.out hst)
    have HR1 := Lib.hid hst.yes
    clear hst hr0
    go_wp2_with fail
    obtain ⟨a1, ha1, hsee1, hhex1⟩ := hexAt_see s.data.toList (k + 1)
    rw [HYY.out] at hhex1
    have HSee1 := Lib.hid hsee1
    have HHex1 := Lib.hid hhex1
    clear hsee1 hhex1
    refine (see_any b s (k + 1) tw false f op _ HR1.out).mono ?_
    rintro e v1 ⟨rfl, n1, rfl⟩
    rw [HSee1.out]
    go_wp2_with fail
    refine (Hex_any a1 ha1 _).mono ?_
    rintro e v1 ⟨rfl, rfl⟩
    rw [HHex1.out]
    have S1 := Lib.hid (T1.out.drewN n1)
    replace HR1 := Lib.hid (HR1.out.drewN n1)
    go_wp2_with fail
    obtain ⟨r1, hr1⟩ : ∃ r, (mHex s.data.toList 0 11 (k + 1)).1 = r := ⟨_, rfl⟩
    refine (hex_any b s (k + 1) tw false f op 0 11 (by decide) _ hs HR1.out).mono ?_
    cases r1 with
    | false =>
      rw [mHex_false hr1]
      rintro e w2 ⟨rfl, hst⟩
      have X := Lib.hid (Stood.thru S1.out hst)
      have HM := Lib.hid (show mHexs s.data.toList [(0, 15), (0, 11), (0, 15), (0, 15)] k = (false, k + 1) by rw [mHexs_true HY0.out, mHexs_false hr1])
      clear hst hr1
      go_wp2_with fail
      go_ret2
      rw [HU.out, HM.out]
      exact ⟨rfl, X.out⟩
    | true =>
      rw [mHex_yes hr1]
      rintro e w2 ⟨rfl, hst⟩
      have HY1 := Lib.hid hr1
      have T2 := Lib.hid (Stood.thru S1.out hst)
      have HR2 := Lib.hid hst.yes
      clear hst hr1
      go_wp2_with fail
      obtain ⟨r2, hr2⟩ : ∃ r, (mHex s.data.toList 0 15 (k + 1 + 1)).1 = r := ⟨_, rfl⟩
      refine (hex_any b s (k + 1 + 1) tw false f op 0 15 (by decide) _ hs HR2.out).mono ?_
      cases r2 with
      | false =>
        rw [mHex_false hr2]
        rintro e w3 ⟨rfl, hst⟩
        have X := Lib.hid (Stood.thru T2.out hst)
        have HM := Lib.hid (show mHexs s.data.toList [(0, 15), (0, 11), (0, 15), (0, 15)] k = (false, k + 1 + 1) by rw [mHexs_true HY0.out, mHexs_true HY1.out, mHexs_false hr2])
        clear hst hr2
        go_wp2_with fail
        go_ret2
        rw [HU.out, HM.out]
        exact ⟨rfl, X.out⟩
      | true =>
        rw [mHex_yes hr2]
        rintro e w3 ⟨rfl, hst⟩
        have HY2 := Lib.hid hr2
        have T3 := Lib.hid (Stood.thru T2.out hst)
        have HR3 := Lib.hid hst.yes
        clear hst hr2
        go_wp2_with fail
        obtain ⟨r3, hr3⟩ : ∃ r, (mHex s.data.toList 0 15 (k + 1 + 1 + 1)).1 = r := ⟨_, rfl⟩
        refine (hex_any b s (k + 1 + 1 + 1) tw false f op 0 15 (by decide) _ hs HR3.out).mono ?_
        cases r3 with
        | false =>
          rw [mHex_false hr3]
          rintro e w4 ⟨rfl, hst⟩
          have X := Lib.hid (Stood.thru T3.out hst)
          have HM := Lib.hid (show mHexs s.data.toList [(0, 15), (0, 11), (0, 15), (0, 15)] k = (false, k + 1 + 1 + 1) by rw [mHexs_true HY0.out, mHexs_true HY1.out, mHexs_true HY2.out, mHexs_false hr3])
          clear hst hr3
          go_wp2_with fail
          go_ret2
          rw [HU.out, HM.out]
          exact ⟨rfl, X.out⟩
        | true =>
          rw [mHex_yes hr3]
          rintro e w4 ⟨rfl, hst⟩
          have HY3 := Lib.hid hr3
          have T4 := Lib.hid (Stood.thru T3.out hst)
          have HR4 := Lib.hid hst.yes
          clear hst hr3
          have HM := Lib.hid (show mHexs s.data.toList [(0, 15), (0, 11), (0, 15), (0, 15)] k = (true, k + 1 + 1 + 1 + 1) by rw [mHexs_true HY0.out, mHexs_true HY1.out, mHexs_true HY2.out, mHexs_true HY3.out]; rfl)
          by_cases h8 : 8 ≤ y
          · have e8 : decide (8 ≤ y) = true := decide_eq_true h8
            have H8 := Lib.hid e8
            clear e8
            go_wp2_with fail
            go_ret2
            rw [HU.out, HM.out, HYY.out, H8.out]
            exact ⟨rfl, T4.out⟩
          · have e8 : decide (8 ≤ y) = false := decide_eq_false h8
            have H8 := Lib.hid e8
            clear e8
            go_wp2_with fail
            go_ret2
            rw [HU.out, HM.out, HYY.out, H8.out]
            exact ⟨rfl, T4.out⟩

set_option maxRecDepth 100000 in
set_option maxHeartbeats 2000000 in
theorem unit_plain (b : Nat) (s : ByteArray) (k : Nat) (tw : Bool) (f : Int) (op : Bool) (x y : Int) (hx : hexAt s.data.toList k = x) (hy : hexAt s.data.toList (k + 1) = y) (h13 : x ≠ 13) (w : World) (hs : s.size ≤ 100000000000) (h : Rd w b s k tw false f op) :
    Calls Tryz.prog 82 #[.pointer (some ⟨b, 0, none⟩), .bool false] w (UStep w b s tw false f op (mUnit false false s.data.toList k)) := by
  obtain ⟨c0, c1, c3, c4, f1, f4⟩ := h.cells
  have hlt := h.lt
  have HR0 := Lib.hid h
  clear h
  have hu : mUnit false false s.data.toList k = ((mHexs s.data.toList [(0, 15), (0, 15), (0, 15), (0, 15)] k).1, (mHexs s.data.toList [(0, 15), (0, 15), (0, 15), (0, 15)] k).2, false) := by unfold mUnit; rw [if_neg (by decide), if_neg (by decide)]; exact if_neg (by rw [hx]; exact h13)
  have HU := Lib.hid hu
  clear hu
  have HXX := Lib.hid hx
  have HYY := Lib.hid hy
  clear hx hy
  have e13 : (x == 13) = false := by rw [beq_eq_false_iff_ne]; exact h13
  clear h13
  go_enter Tryz.func82, Tryz.ntmps82
  go_wp2_with fail
  obtain ⟨a0, ha0, hsee0, hhex0⟩ := hexAt_see s.data.toList (k)
  rw [HXX.out] at hhex0
  have HSee0 := Lib.hid hsee0
  have HHex0 := Lib.hid hhex0
  clear hsee0 hhex0
  refine (see_any b s (k) tw false f op _ HR0.out).mono ?_
  rintro e v0 ⟨rfl, n0, rfl⟩
  rw [HSee0.out]
  go_wp2_with fail
  refine (Hex_any a0 ha0 _).mono ?_
  rintro e v0 ⟨rfl, rfl⟩
  rw [HHex0.out]
  have S0 := Lib.hid ((Stood.start HR0.out).drewN n0)
  replace HR0 := Lib.hid (HR0.out.drewN n0)
  go_wp2_with fail
  obtain ⟨r0, hr0⟩ : ∃ r, (mHex s.data.toList 0 15 (k)).1 = r := ⟨_, rfl⟩
  refine (hex_any b s (k) tw false f op 0 15 (by decide) _ hs HR0.out).mono ?_
  cases r0 with
  | false =>
    rw [mHex_false hr0]
    rintro e w1 ⟨rfl, hst⟩
    have X := Lib.hid (Stood.thru S0.out hst)
    have HM := Lib.hid (show mHexs s.data.toList [(0, 15), (0, 15), (0, 15), (0, 15)] k = (false, k) by rw [ mHexs_false hr0])
    clear hst hr0
    go_wp2_with fail
    go_ret2
    rw [HU.out, HM.out]
    exact ⟨rfl, X.out⟩
  | true =>
    rw [mHex_yes hr0]
    rintro e w1 ⟨rfl, hst⟩
    have HY0 := Lib.hid hr0
    have T1 := Lib.hid (Stood.thru S0.out hst)
    have HR1 := Lib.hid hst.yes
    clear hst hr0
    go_wp2_with fail
    obtain ⟨a1, ha1, hsee1, hhex1⟩ := hexAt_see s.data.toList (k + 1)
    rw [HYY.out] at hhex1
    have HSee1 := Lib.hid hsee1
    have HHex1 := Lib.hid hhex1
    clear hsee1 hhex1
    refine (see_any b s (k + 1) tw false f op _ HR1.out).mono ?_
    rintro e v1 ⟨rfl, n1, rfl⟩
    rw [HSee1.out]
    go_wp2_with fail
    refine (Hex_any a1 ha1 _).mono ?_
    rintro e v1 ⟨rfl, rfl⟩
    rw [HHex1.out]
    have S1 := Lib.hid (T1.out.drewN n1)
    replace HR1 := Lib.hid (HR1.out.drewN n1)
    go_wp2_with fail
    obtain ⟨r1, hr1⟩ : ∃ r, (mHex s.data.toList 0 15 (k + 1)).1 = r := ⟨_, rfl⟩
    refine (hex_any b s (k + 1) tw false f op 0 15 (by decide) _ hs HR1.out).mono ?_
    cases r1 with
    | false =>
      rw [mHex_false hr1]
      rintro e w2 ⟨rfl, hst⟩
      have X := Lib.hid (Stood.thru S1.out hst)
      have HM := Lib.hid (show mHexs s.data.toList [(0, 15), (0, 15), (0, 15), (0, 15)] k = (false, k + 1) by rw [mHexs_true HY0.out, mHexs_false hr1])
      clear hst hr1
      go_wp2_with fail
      go_ret2
      rw [HU.out, HM.out]
      exact ⟨rfl, X.out⟩
    | true =>
      rw [mHex_yes hr1]
      rintro e w2 ⟨rfl, hst⟩
      have HY1 := Lib.hid hr1
      have T2 := Lib.hid (Stood.thru S1.out hst)
      have HR2 := Lib.hid hst.yes
      clear hst hr1
      go_wp2_with fail
      obtain ⟨r2, hr2⟩ : ∃ r, (mHex s.data.toList 0 15 (k + 1 + 1)).1 = r := ⟨_, rfl⟩
      refine (hex_any b s (k + 1 + 1) tw false f op 0 15 (by decide) _ hs HR2.out).mono ?_
      cases r2 with
      | false =>
        rw [mHex_false hr2]
        rintro e w3 ⟨rfl, hst⟩
        have X := Lib.hid (Stood.thru T2.out hst)
        have HM := Lib.hid (show mHexs s.data.toList [(0, 15), (0, 15), (0, 15), (0, 15)] k = (false, k + 1 + 1) by rw [mHexs_true HY0.out, mHexs_true HY1.out, mHexs_false hr2])
        clear hst hr2
        go_wp2_with fail
        go_ret2
        rw [HU.out, HM.out]
        exact ⟨rfl, X.out⟩
      | true =>
        rw [mHex_yes hr2]
        rintro e w3 ⟨rfl, hst⟩
        have HY2 := Lib.hid hr2
        have T3 := Lib.hid (Stood.thru T2.out hst)
        have HR3 := Lib.hid hst.yes
        clear hst hr2
        go_wp2_with fail
        obtain ⟨r3, hr3⟩ : ∃ r, (mHex s.data.toList 0 15 (k + 1 + 1 + 1)).1 = r := ⟨_, rfl⟩
        refine (hex_any b s (k + 1 + 1 + 1) tw false f op 0 15 (by decide) _ hs HR3.out).mono ?_
        cases r3 with
        | false =>
          rw [mHex_false hr3]
          rintro e w4 ⟨rfl, hst⟩
          have X := Lib.hid (Stood.thru T3.out hst)
          have HM := Lib.hid (show mHexs s.data.toList [(0, 15), (0, 15), (0, 15), (0, 15)] k = (false, k + 1 + 1 + 1) by rw [mHexs_true HY0.out, mHexs_true HY1.out, mHexs_true HY2.out, mHexs_false hr3])
          clear hst hr3
          go_wp2_with fail
          go_ret2
          rw [HU.out, HM.out]
          exact ⟨rfl, X.out⟩
        | true =>
          rw [mHex_yes hr3]
          rintro e w4 ⟨rfl, hst⟩
          have HY3 := Lib.hid hr3
          have T4 := Lib.hid (Stood.thru T3.out hst)
          have HR4 := Lib.hid hst.yes
          clear hst hr3
          have HM := Lib.hid (show mHexs s.data.toList [(0, 15), (0, 15), (0, 15), (0, 15)] k = (true, k + 1 + 1 + 1 + 1) by rw [mHexs_true HY0.out, mHexs_true HY1.out, mHexs_true HY2.out, mHexs_true HY3.out]; rfl)
          go_wp2_with fail
          go_ret2
          rw [HU.out, HM.out]
          exact ⟨rfl, T4.out⟩

theorem unit_any (b : Nat) (s : ByteArray) (k : Nat) (tw lo low : Bool) (f : Int) (op : Bool) (w : World) (hs : s.size ≤ 100000000000) (h : Rd w b s k tw lo f op) :
    Calls Tryz.prog 82 #[.pointer (some ⟨b, 0, none⟩), .bool low] w (UStep w b s tw lo f op (mUnit lo low s.data.toList k)) := by
  cases lo with
  | true => exact unit_loose b s k tw f op low w hs h
  | false =>
    cases low with
    | true => exact unit_low b s k tw f op _ _ rfl rfl w hs h
    | false =>
      by_cases h13 : hexAt s.data.toList k = 13
      · exact unit_half b s k tw f op _ _ rfl rfl h13 w hs h
      · exact unit_plain b s k tw f op _ _ rfl rfl h13 w hs h

/-- A byte that may follow a backslash by itself. -/
def simpleE (c : Int) : Bool := c == 34 || c == 92 || c == 47 || c == 98 || c == 102 || c == 110 || c == 114 || c == 116

/-- 'escape', at the byte behind the backslash. -/
def mEscape (lo : Bool) (l : List UInt8) (k : Nat) : Bool × Nat :=
  if simpleE (seeB l k) = true then (true, k + 1)
  else if seeB l k = 117 then
    if (mUnit lo false l (k + 1)).1 = true ∧ (mUnit lo false l (k + 1)).2.2 = true then
      if (mNeed l 92 92 (mUnit lo false l (k + 1)).2.1).1 = true then
        if (mNeed l 117 117 ((mUnit lo false l (k + 1)).2.1 + 1)).1 = true then ((mUnit lo true l ((mUnit lo false l (k + 1)).2.1 + 1 + 1)).1, (mUnit lo true l ((mUnit lo false l (k + 1)).2.1 + 1 + 1)).2.1)
        else (false, (mUnit lo false l (k + 1)).2.1 + 1)
      else (false, (mUnit lo false l (k + 1)).2.1)
    else ((mUnit lo false l (k + 1)).1, (mUnit lo false l (k + 1)).2.1)
  else (false, k)

theorem see_lt' {l : List UInt8} {k : Nat} (h : seeB l k ≠ 0) : k < l.length := by
  rcases Nat.lt_or_ge k l.length with h1 | h1
  · exact h1
  · unfold seeB at h
    rw [List.getElem?_eq_none h1] at h
    simp at h

theorem mNeed_yes {l : List UInt8} {a b : Int} {k : Nat} (h : (mNeed l a b k).1 = true) : mNeed l a b k = (true, k + 1) := by
  unfold mNeed at h ⊢
  cases hl : l[k]? with
  | none => rw [hl] at h; cases h
  | some c =>
    rw [hl] at h
    simp only at h ⊢
    by_cases hc : a ≤ (c.toNat : Int) ∧ (c.toNat : Int) ≤ b
    · rw [if_pos hc]
    · rw [if_neg hc] at h; cases h

theorem mNeed_no {l : List UInt8} {a b : Int} {k : Nat} (h : (mNeed l a b k).1 = false) : mNeed l a b k = (false, k) := by
  unfold mNeed at h ⊢
  cases hl : l[k]? with
  | none => rfl
  | some c =>
    rw [hl] at h
    simp only at h ⊢
    by_cases hc : a ≤ (c.toNat : Int) ∧ (c.toNat : Int) ≤ b
    · rw [if_pos hc] at h; cases h
    · rw [if_neg hc]

set_option maxRecDepth 100000 in
set_option maxHeartbeats 4000000 in
theorem escape_simple (b : Nat) (s : ByteArray) (k : Nat) (tw lo : Bool) (f : Int) (op : Bool) (w : World) (hs : s.size ≤ 100000000000) (h : Rd w b s k tw lo f op) (hc : simpleE (seeB s.data.toList k) = true) :
    Calls Tryz.prog 68 #[.pointer (some ⟨b, 0, none⟩)] w (Step w b s tw lo f op (true, k + 1)) := by
  obtain ⟨c0, c1, c3, c4, f1, f4⟩ := h.cells
  have hlt := h.lt
  have H := Lib.hid h
  obtain ⟨c, hcc⟩ : ∃ c, seeB s.data.toList k = c := ⟨_, rfl⟩
  rw [hcc] at hc
  have HC := Lib.hid hcc
  simp only [simpleE, Bool.or_eq_true, beq_iff_eq] at hc
  have hk : k < s.size := by rw [← size_eq]; exact see_lt' (by rw [hcc]; omega)
  clear h hcc
  rcases hc with ((((((rfl | rfl) | rfl) | rfl) | rfl) | rfl) | rfl) | rfl
  all_goals
    go_enter Tryz.func68, Tryz.ntmps68
    go_wp2_with fail
    refine (see_any b s k tw lo f op _ H.out).mono ?_
    rintro e w1 ⟨rfl, n, rfl⟩
    rw [HC.out]
    go_wp2_with fail
    go_ret
    exact ⟨rfl, grown_set (grown_drewN (grown_refl w _) n) _ _, f, by have := (H.out.drewN n).setAt (k + 1) hk; simpa using this, fun _ => rfl, (fun h => by cases h)⟩

set_option maxRecDepth 100000 in
set_option maxHeartbeats 4000000 in
theorem escape_other (b : Nat) (s : ByteArray) (k : Nat) (tw lo : Bool) (f : Int) (op : Bool) (w : World) (h : Rd w b s k tw lo f op) (hc : simpleE (seeB s.data.toList k) = false) (hu : seeB s.data.toList k ≠ 117) :
    Calls Tryz.prog 68 #[.pointer (some ⟨b, 0, none⟩)] w (Step w b s tw lo f op (false, k)) := by
  have H := Lib.hid h
  obtain ⟨c, hcc⟩ : ∃ c, seeB s.data.toList k = c := ⟨_, rfl⟩
  rw [hcc] at hc hu
  have HC := Lib.hid hcc
  have hlt := h.lt
  simp only [simpleE, Bool.or_eq_false_iff] at hc
  obtain ⟨⟨⟨⟨⟨⟨⟨g1, g2⟩, g3⟩, g4⟩, g5⟩, g6⟩, g7⟩, g8⟩ := hc
  have g9 : (c == 117) = false := by rw [beq_eq_false_iff_ne]; exact hu
  clear h hcc hu
  go_enter Tryz.func68, Tryz.ntmps68
  go_wp2_with fail
  refine (see_any b s k tw lo f op _ H.out).mono ?_
  rintro e w1 ⟨rfl, n, rfl⟩
  rw [HC.out]
  go_wp2_with fail
  refine (fail_any b s k tw lo f op 4 (by decide) _ (H.out.drewN n)).mono ?_
  rintro e w2 ⟨rfl, hst⟩
  have X := Lib.hid hst
  clear hst
  go_wp2_with fail
  go_ret
  exact ⟨rfl, Stood.from (grown_drewN (grown_refl w _) n) rfl X.out⟩

set_option maxRecDepth 100000 in
set_option maxHeartbeats 4000000 in
theorem escape_unit (b : Nat) (s : ByteArray) (k : Nat) (tw lo : Bool) (f : Int) (op : Bool) (w : World) (hs : s.size ≤ 100000000000) (h : Rd w b s k tw lo f op) (hc : seeB s.data.toList k = 117) (r : Bool × Nat) (hr : mEscape lo s.data.toList k = r) :
    Calls Tryz.prog 68 #[.pointer (some ⟨b, 0, none⟩)] w (Step w b s tw lo f op r) := by
  obtain ⟨c0, c1, c3, c4, f1, f4⟩ := h.cells
  have hlt := h.lt
  have hk : k < s.size := by rw [← size_eq]; exact see_lt' (by rw [hc]; decide)
  unfold mEscape at hr
  rw [hc, if_neg (by decide), if_pos rfl] at hr
  obtain ⟨u, hu⟩ : ∃ u, mUnit lo false s.data.toList (k + 1) = u := ⟨_, rfl⟩
  rw [hu] at hr
  obtain ⟨ok, k1, half⟩ := u
  simp only at hr
  have H := Lib.hid h
  have HC := Lib.hid hc
  have HU := Lib.hid hu
  clear h hc hu
  have hpos : Rd ((w.drewN 0).setCell ⟨b, 1, none⟩ (.int .i64 ((k : Int) + 1))) b s (k + 1) tw lo f op := by
    have := (H.out.drewN 0).setAt (k + 1) hk
    simpa using this
  clear hpos
  cases ok with
  | false =>
    rw [if_neg (by simp)] at hr
    have HR := Lib.hid hr
    clear hr
    go_enter Tryz.func68, Tryz.ntmps68
    go_wp2_with fail
    refine (see_any b s k tw lo f op _ H.out).mono ?_
    rintro e w1 ⟨rfl, n, rfl⟩
    rw [HC.out]
    go_wp2_with fail
    have hrd : Rd ((w.drewN n).setCell ⟨b, 1, none⟩ (.int .i64 ((k : Int) + 1))) b s (k + 1) tw lo f op := by
      have := (H.out.drewN n).setAt (k + 1) hk
      simpa using this
    have HRD := Lib.hid hrd
    clear hrd
    refine (unit_any b s (k + 1) tw lo false f op _ hs HRD.out).mono ?_
    rw [HU.out]
    rintro e w2 ⟨rfl, hst⟩
    have X := Lib.hid hst
    clear hst
    go_wp2_with fail
    go_ret
    rw [← HR.out]
    exact ⟨rfl, Stood.from (grown_set (grown_drewN (grown_refl w _) n) _ _) rfl X.out⟩
  | true =>
    cases half with
    | false =>
      rw [if_neg (by simp)] at hr
      have HR := Lib.hid hr
      clear hr
      go_enter Tryz.func68, Tryz.ntmps68
      go_wp2_with fail
      refine (see_any b s k tw lo f op _ H.out).mono ?_
      rintro e w1 ⟨rfl, n, rfl⟩
      rw [HC.out]
      go_wp2_with fail
      have hrd : Rd ((w.drewN n).setCell ⟨b, 1, none⟩ (.int .i64 ((k : Int) + 1))) b s (k + 1) tw lo f op := by
        have := (H.out.drewN n).setAt (k + 1) hk
        simpa using this
      have HRD := Lib.hid hrd
      clear hrd
      refine (unit_any b s (k + 1) tw lo false f op _ hs HRD.out).mono ?_
      rw [HU.out]
      rintro e w2 ⟨rfl, hst⟩
      have X := Lib.hid hst
      clear hst
      go_wp2_with fail
      go_ret
      rw [← HR.out]
      exact ⟨rfl, Stood.from (grown_set (grown_drewN (grown_refl w _) n) _ _) rfl X.out⟩
    | true =>
      rw [if_pos ⟨rfl, rfl⟩] at hr
      go_enter Tryz.func68, Tryz.ntmps68
      have HR := Lib.hid hr
      clear hr
      go_wp2_with fail
      refine (see_any b s k tw lo f op _ H.out).mono ?_
      rintro e w1 ⟨rfl, n, rfl⟩
      rw [HC.out]
      go_wp2_with fail
      have hrd : Rd ((w.drewN n).setCell ⟨b, 1, none⟩ (.int .i64 ((k : Int) + 1))) b s (k + 1) tw lo f op := by
        have := (H.out.drewN n).setAt (k + 1) hk
        simpa using this
      have HRD := Lib.hid hrd
      clear hrd
      refine (unit_any b s (k + 1) tw lo false f op _ hs HRD.out).mono ?_
      rw [HU.out]
      rintro e w2 ⟨rfl, hst⟩
      have X := Lib.hid (Stood.from (grown_set (grown_drewN (grown_refl w _) n) _ _) rfl hst)
      have HR2 := Lib.hid hst.yes
      clear hst
      go_wp2_with fail
      obtain ⟨r1, hr1⟩ : ∃ r1, (mNeed s.data.toList 92 92 k1).1 = r1 := ⟨_, rfl⟩
      refine (need_any b s k1 tw lo f op 92 92 _ (by omega) HR2.out).mono ?_
      cases r1 with
      | false =>
        rw [mNeed_no hr1]
        rintro e w3 ⟨rfl, hst⟩
        have Y := Lib.hid (Stood.thru X.out hst)
        have hr := HR.out
        rw [hr1, if_neg (by decide)] at hr
        have HRR := Lib.hid hr
        clear hst hr hr1
        go_wp2_with fail
        go_ret
        rw [← HRR.out]
        exact ⟨rfl, Y.out⟩
      | true =>
        rw [mNeed_yes hr1]
        rintro e w3 ⟨rfl, hst⟩
        have Y := Lib.hid (Stood.thru X.out hst)
        have HR3 := Lib.hid hst.yes
        have hr := HR.out
        rw [hr1, if_pos rfl] at hr
        have HRR := Lib.hid hr
        clear hst hr hr1
        go_wp2_with fail
        obtain ⟨r2, hr2⟩ : ∃ r2, (mNeed s.data.toList 117 117 (k1 + 1)).1 = r2 := ⟨_, rfl⟩
        refine (need_any b s (k1 + 1) tw lo f op 117 117 _ (by omega) HR3.out).mono ?_
        cases r2 with
        | false =>
          rw [mNeed_no hr2]
          rintro e w4 ⟨rfl, hst⟩
          have Z := Lib.hid (Stood.thru Y.out hst)
          have hr := HRR.out
          rw [hr2, if_neg (by decide)] at hr
          have HRRR := Lib.hid hr
          clear hst hr hr2
          go_wp2_with fail
          go_ret
          rw [← HRRR.out]
          exact ⟨rfl, Z.out⟩
        | true =>
          rw [mNeed_yes hr2]
          rintro e w4 ⟨rfl, hst⟩
          have Z := Lib.hid (Stood.thru Y.out hst)
          have HR4 := Lib.hid hst.yes
          have hr := HRR.out
          rw [hr2, if_pos rfl] at hr
          have HRRR := Lib.hid hr
          clear hst hr hr2
          go_wp2_with fail
          refine (unit_any b s (k1 + 1 + 1) tw lo true f op _ hs HR4.out).mono ?_
          rintro e w5 ⟨rfl, hst⟩
          have V := Lib.hid (Stood.thru Z.out hst)
          clear hst
          go_wp2_with fail
          go_ret
          rw [← HRRR.out]
          exact ⟨rfl, V.out⟩

theorem escape_any (b : Nat) (s : ByteArray) (k : Nat) (tw lo : Bool) (f : Int) (op : Bool) (w : World) (hs : s.size ≤ 100000000000) (h : Rd w b s k tw lo f op) :
    Calls Tryz.prog 68 #[.pointer (some ⟨b, 0, none⟩)] w (Step w b s tw lo f op (mEscape lo s.data.toList k)) := by
  by_cases h1 : simpleE (seeB s.data.toList k) = true
  · have e : mEscape lo s.data.toList k = (true, k + 1) := if_pos h1
    rw [e]
    exact escape_simple b s k tw lo f op w hs h h1
  · by_cases h2 : seeB s.data.toList k = 117
    · exact escape_unit b s k tw lo f op w hs h h2 _ rfl
    · have e : mEscape lo s.data.toList k = (false, k) := by unfold mEscape; rw [if_neg h1, if_neg h2]
      rw [e]
      exact escape_other b s k tw lo f op w h (by simpa using h1) h2

end Go.Proofs.YtlgmdcaoogiooaaGreatDoor
