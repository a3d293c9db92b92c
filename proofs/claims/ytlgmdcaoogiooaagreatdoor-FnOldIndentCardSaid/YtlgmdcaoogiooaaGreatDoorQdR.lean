/- The reference's reader: a string, exactly. -/
import Derived.Test.YtlgmdcaoogiooaaGreatDoorRuneX
namespace Go.Proofs.YtlgmdcaoogiooaaGreatDoor
open Go.RowKit

/-- Reading on in a string, behind its first quotation mark. -/
inductive QRun (lo : Bool) (l : List UInt8) : Nat → Bool × Nat → Prop
  | eof {k : Nat} : l.length ≤ k → QRun lo l k (false, k)
  | done {k : Nat} : l[k]? = some 34 → QRun lo l k (true, k)
  | escNo {k k' : Nat} : l[k]? = some 92 → mEscape lo l (k + 1) = (false, k') → QRun lo l k (false, k')
  | esc {k k' : Nat} {r : Bool × Nat} : l[k]? = some 92 → mEscape lo l (k + 1) = (true, k') → QRun lo l k' r → QRun lo l k r
  | ctrl {k : Nat} {c : UInt8} : l[k]? = some c → c.toNat < 32 → QRun lo l k (false, k)
  | plain {k : Nat} {c : UInt8} {r : Bool × Nat} : l[k]? = some c → 32 ≤ c.toNat → c ≠ 34 → c ≠ 92 → (c.toNat < 128 ∨ lo = true) → QRun lo l (k + 1) r → QRun lo l k r
  | rune {k k' : Nat} {c : UInt8} {r : Bool × Nat} : l[k]? = some c → 128 ≤ c.toNat → lo = false → mRune l k = (true, k') → QRun lo l k' r → QRun lo l k r
  | runeNo {k k' : Nat} {c : UInt8} : l[k]? = some c → 128 ≤ c.toNat → lo = false → mRune l k = (false, k') → QRun lo l k (false, k')

/-- A string, from its first quotation mark to its last one, but not that. -/
def QRel (lo : Bool) (l : List UInt8) (k : Nat) (r : Bool × Nat) : Prop :=
  ((mNeed l 34 34 k).1 = true ∧ QRun lo l (k + 1) r) ∨ ((mNeed l 34 34 k).1 = false ∧ r = (false, k))

theorem mHexs_lt {l : List UInt8} : ∀ (rs : List (Int × Int)) (k k' : Nat), mHexs l rs k = (true, k') → k' = k + rs.length
  | [], k, k', h => by cases h; rfl
  | (a, b) :: t, k, k', h => by
    cases hr : (mHex l a b k).1 with
    | true => rw [mHexs_true hr] at h; have := mHexs_lt t _ _ h; rw [List.length_cons]; omega
    | false => rw [mHexs_false hr] at h; cases h

theorem mHexs_le {l : List UInt8} : ∀ (rs : List (Int × Int)) (k : Nat), k ≤ (mHexs l rs k).2
  | [], _ => Nat.le_refl _
  | (a, b) :: t, k => by
    cases hr : (mHex l a b k).1 with
    | true => rw [mHexs_true hr]; exact Nat.le_trans (Nat.le_succ _) (mHexs_le t (k + 1))
    | false => rw [mHexs_false hr]; exact Nat.le_refl _

theorem mUnit_le (lo low : Bool) (l : List UInt8) (k : Nat) : k ≤ (mUnit lo low l k).2.1 := by
  unfold mUnit
  split
  · exact mHexs_le _ _
  · split
    · exact mHexs_le _ _
    · split
      · exact mHexs_le _ _
      · exact mHexs_le _ _

theorem mEscape_le (lo : Bool) (l : List UInt8) (k : Nat) : k ≤ (mEscape lo l k).2 := by
  unfold mEscape
  have h1 := mUnit_le lo false l (k + 1)
  have h2 := mUnit_le lo true l ((mUnit lo false l (k + 1)).2.1 + 1 + 1)
  split
  · exact Nat.le_succ _
  · split
    · split
      · split
        · split
          · show k ≤ (mUnit lo true l ((mUnit lo false l (k + 1)).2.1 + 1 + 1)).2.1
            omega
          · show k ≤ (mUnit lo false l (k + 1)).2.1 + 1
            omega
        · show k ≤ (mUnit lo false l (k + 1)).2.1
          omega
      · show k ≤ (mUnit lo false l (k + 1)).2.1
        omega
    · exact Nat.le_refl _

/-- Where the reader in block b stands. -/
def atOf (w : World) (b : Nat) : Nat := match w.cell? ⟨b, 1, none⟩ with
  | some (.int _ k) => k.toNat
  | _ => 0

theorem Rd.atOf {w : World} {b : Nat} {s : ByteArray} {k : Nat} {tw lo : Bool} {f : Int} {op : Bool} (h : Rd w b s k tw lo f op) : atOf w b = k := by
  unfold Go.Proofs.YtlgmdcaoogiooaaGreatDoor.atOf
  rw [h.cells.2.1]
  rfl

/-- What 'quoted' leaves. -/
structure QRes (w : World) (b : Nat) (s : ByteArray) (k : Nat) (tw lo : Bool) (f : Int) (op : Bool) (e : Ending) (w' : World) : Prop where
  what : ∃ r : Bool × Nat, QRel lo s.data.toList k r ∧ Step w b s tw lo f op r e w'

theorem Stood.set {w w1 : World} {b : Nat} {s : ByteArray} {tw lo : Bool} {f : Int} {op : Bool} {k : Nat} (h : Stood w b s tw lo f op true k w1) (hk : k < s.size) : Stood w b s tw lo f op true (k + 1) (w1.setCell ⟨b, 1, none⟩ (.int .i64 ((k : Int) + 1))) := by
  refine ⟨grown_set h.grown _ _, f, ?_, fun _ => rfl, fun h => by cases h⟩
  have := h.yes.setAt (k + 1) hk
  simpa using this

theorem get_some {s : ByteArray} {k : Nat} (hk : k < s.size) : s.data.toList[k]? = some (s[k]'hk) := by simp [ByteArray.getElem_eq_getElem_data, hk]

set_option maxRecDepth 100000 in
set_option maxHeartbeats 4000000 in
theorem quoted_any (b : Nat) (s : ByteArray) (k : Nat) (tw lo : Bool) (f : Int) (op : Bool) (w : World) (hs : s.size ≤ 100000000000) (h : Rd w b s k tw lo f op) :
    Calls Tryz.prog 51 #[.pointer (some ⟨b, 0, none⟩)] w (QRes w b s k tw lo f op) := by
  have hlt := h.lt
  have H := Lib.hid h
  clear h
  obtain ⟨r0, hr0⟩ : ∃ r, (mNeed s.data.toList 34 34 k).1 = r := ⟨_, rfl⟩
  cases r0 with
  | false =>
    have HR0 := Lib.hid hr0
    clear hr0
    go_enter Tryz.func51, Tryz.ntmps51
    go_wp2_with fail
    refine (need_any b s k tw lo f op 34 34 _ (by omega) H.out).mono ?_
    rw [mNeed_no HR0.out]
    rintro e w1 ⟨rfl, hst⟩
    have X := Lib.hid hst
    clear hst
    go_wp2_with fail
    go_ret
    exact ⟨(false, k), .inr ⟨HR0.out, rfl⟩, rfl, X.out⟩
  | true =>
    have HR0 := Lib.hid hr0
    clear hr0
    go_enter Tryz.func51, Tryz.ntmps51
    go_wp2_with fail
    refine (need_any b s k tw lo f op 34 34 _ (by omega) H.out).mono ?_
    rw [mNeed_yes HR0.out]
    rintro e w1 ⟨rfl, hst⟩
    have X := Lib.hid hst
    clear hst
    go_wp2_with fail
    go_loopw [4] (fun _ wr => ∃ j : Nat, Stood w b s tw lo f op true j wr ∧ ∀ r, QRun lo s.data.toList j r → QRun lo s.data.toList (k + 1) r) (fun _ wr => s.size - atOf wr b)
    case atStart => exact ⟨k + 1, X.out, fun r h => h⟩
    case round =>
      obtain ⟨j, hst, hq⟩ := hrel
      have HST := Lib.hid hst
      have HQ := Lib.hid hq
      have HJ := Lib.hid hst.yes
      have hat := Lib.hid hst.yes.atOf
      have hle := hst.yes.le
      have hblt := hst.yes.lt
      obtain ⟨c0, c1, c3, c4, f1, f4⟩ := hst.yes.cells
      clear hst hq
      by_cases hj : j < s.size
      · have g0 : decide ((j : Int) < (s.size : Int)) = true := by simpa using hj
        have hi0 : (0 : Int) ≤ (j : Int) := by omega
        have hi1 : (j : Int) < (s.size : Int) := by omega
        obtain ⟨c, hc⟩ : ∃ c : UInt8, c = s[j]'hj := ⟨_, rfl⟩
        have hget : s.data.toList[j]? = some c := by rw [hc]; exact get_some hj
        obtain ⟨a, ha⟩ : ∃ a : Nat, (s[j]'hj).toNat = a := ⟨_, rfl⟩
        have hca : c.toNat = a := by rw [hc]; exact ha
        have HG := Lib.hid hget
        have HCA := Lib.hid hca
        clear hc hget hca
        have ceq : ∀ x : UInt8, a = x.toNat → c = x := fun x h => UInt8.toNat_inj.1 (by rw [HCA.out, h])
        have cne : ∀ x : UInt8, a ≠ x.toNat → c ≠ x := fun x h e => h (by rw [← HCA.out, e])
        have CEQ := Lib.hid ceq
        have CNE := Lib.hid cne
        clear ceq cne
        go_wp2_with fail
        go_big_quiet (fail)
        go_wp2_with fail
        go_big_quiet (fail)
        obtain ⟨W, hW⟩ : ∃ W : World, Stood w b s tw lo f op true j W ∧ W = (wr.drewN _).drewN _ := ⟨_, (HST.out.drewN _).drewN _, rfl⟩
        obtain ⟨hWS, hW⟩ := hW
        rw [← hW]
        have hWR := hWS.yes
        have hWlt := hWR.lt
        clear c0 c1 c3 c4 f1 f4 hblt
        obtain ⟨c0, c1, c3, c4, f1, f4⟩ := hWR.cells
        have WS := Lib.hid hWS
        have WR := Lib.hid hWR
        clear hW hWS hWR
        by_cases a34 : a = 34
        · have HQD := Lib.hid (HQ.out _ (.done (by rw [HG.out, CEQ.out 34 a34])))
          subst a34
          go_wp2_with fail
          go_ret
          exact ⟨(true, j), .inl ⟨HR0.out, HQD.out⟩, rfl, WS.out⟩
        have n34 : ((a : Int) == 34) = false := by rw [beq_eq_false_iff_ne]; omega
        by_cases a92 : a = 92
        · have hg92 := HG.out
          rw [CEQ.out 92 a92] at hg92
          have HG92 := Lib.hid hg92
          clear hg92
          subst a92
          have WS1 := Lib.hid (WS.out.set hj)
          have WR1 := Lib.hid WS1.out.yes
          obtain ⟨re, hre⟩ : ∃ r, mEscape lo s.data.toList (j + 1) = r := ⟨_, rfl⟩
          obtain ⟨ok, j'⟩ := re
          have hjj := mEscape_le lo s.data.toList (j + 1)
          rw [hre] at hjj
          have HRE := Lib.hid hre
          clear hre
          go_wp2_with fail
          refine (escape_any b s (j + 1) tw lo f op _ hs WR1.out).mono ?_
          rw [HRE.out]
          rintro e w2 ⟨rfl, hst⟩
          cases ok with
          | false =>
            have HQD := Lib.hid (HQ.out _ (.escNo HG92.out HRE.out))
            have Y := Lib.hid (WS1.out.thru hst)
            clear hst
            go_wp2_with fail
            go_ret
            exact ⟨(false, j'), .inl ⟨HR0.out, HQD.out⟩, rfl, Y.out⟩
          | true =>
            have Y := Lib.hid (WS1.out.thru hst)
            have hat2 := hst.yes.atOf
            have hle2 := hst.yes.le
            have HAT2 := Lib.hid hat2
            clear hst hat2
            go_wp2_with fail
            exact ⟨⟨j', Y.out, fun r h => HQ.out _ (.esc HG92.out HRE.out h)⟩, by rw [hat.out, HAT2.out]; omega⟩
        have n92 : ((a : Int) == 92) = false := by rw [beq_eq_false_iff_ne]; omega
        by_cases a32 : a < 32
        · have b32 : (a : Int) < 32 := by omega
          have HQD := Lib.hid (HQ.out _ (.ctrl HG.out (by rw [HCA.out]; exact a32)))
          go_wp2_with fail
          refine (fail_any b s j tw lo f op 4 (by decide) _ WR.out).mono ?_
          rintro e w2 ⟨rfl, hst⟩
          have Y := Lib.hid (WS.out.thru hst)
          clear hst
          go_wp2_with fail
          go_ret
          exact ⟨(false, j), .inl ⟨HR0.out, HQD.out⟩, rfl, Y.out⟩
        have b32 : ¬ (a : Int) < 32 := by omega
        by_cases a128 : a < 128
        · have b128 : decide ((a : Int) < 128) = true := decide_eq_true (by omega)
          have c128 : (a : Int) < 128 := by omega
          have HN := Lib.hid (fun r h => HQ.out r (.plain HG.out (by rw [HCA.out]; omega) (CNE.out 34 a34) (CNE.out 92 a92) (.inl (by rw [HCA.out]; exact a128)) h))
          have WS1 := Lib.hid (WS.out.set hj)
          have HAT2 := Lib.hid WS1.out.yes.atOf
          go_wp2_with fail
          exact ⟨⟨j + 1, WS1.out, HN.out⟩, by rw [hat.out, HAT2.out]; omega⟩
        have b128 : decide ((a : Int) < 128) = false := decide_eq_false (by omega)
        have c128 : ¬ (a : Int) < 128 := by omega
        cases lo with
        | true =>
          have HN := Lib.hid (fun r h => HQ.out r (.plain HG.out (by rw [HCA.out]; omega) (CNE.out 34 a34) (CNE.out 92 a92) (.inr rfl) h))
          have WS1 := Lib.hid (WS.out.set hj)
          have HAT2 := Lib.hid WS1.out.yes.atOf
          go_wp2_with fail
          exact ⟨⟨j + 1, WS1.out, HN.out⟩, by rw [hat.out, HAT2.out]; omega⟩
        | false =>
          obtain ⟨re, hre⟩ : ∃ r, mRune s.data.toList j = r := ⟨_, rfl⟩
          obtain ⟨ok, j'⟩ := re
          have HRE := Lib.hid hre
          clear hre
          go_wp2_with fail
          refine (runeX_any b s j tw false f op _ hs WR.out).mono ?_
          rw [HRE.out]
          rintro e w2 ⟨rfl, hst⟩
          cases ok with
          | false =>
            have HQD := Lib.hid (HQ.out _ (.runeNo HG.out (by rw [HCA.out]; omega) rfl HRE.out))
            have Y := Lib.hid (WS.out.thru hst)
            clear hst
            go_wp2_with fail
            go_ret
            exact ⟨(false, j'), .inl ⟨HR0.out, HQD.out⟩, rfl, Y.out⟩
          | true =>
            have Y := Lib.hid (WS.out.thru hst)
            have HAT2 := Lib.hid hst.yes.atOf
            have hle2 := hst.yes.le
            have hgt : j < j' := by
              obtain ⟨n, h2, _, e⟩ := mRune_yes (l := s.data.toList) (k := j) (by rw [HRE.out])
              rw [HRE.out] at e
              cases e
              omega
            clear hst
            go_wp2_with fail
            exact ⟨⟨j', Y.out, fun r h => HQ.out _ (.rune HG.out (by rw [HCA.out]; omega) rfl HRE.out h)⟩, by rw [hat.out, HAT2.out]; omega⟩
      · have g0 : decide ((j : Int) < (s.size : Int)) = false := by simpa using hj
        have HQD := Lib.hid (HQ.out _ (.eof (by rw [size_eq]; omega)))
        go_wp2_with fail
        go_big_quiet (fail)
        go_wp2_with fail
        refine (fail_any b s j tw lo f op 4 (by decide) _ (HJ.out.drewN _)).mono ?_
        rintro e w2 ⟨rfl, hst⟩
        have Y := Lib.hid ((HST.out.drewN _).thru hst)
        clear hst
        go_wp2_with fail
        go_ret
        exact ⟨(false, j), .inl ⟨HR0.out, HQD.out⟩, rfl, Y.out⟩

end Go.Proofs.YtlgmdcaoogiooaaGreatDoor
