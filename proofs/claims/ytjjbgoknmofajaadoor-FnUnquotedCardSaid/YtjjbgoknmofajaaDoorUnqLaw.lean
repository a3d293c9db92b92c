/- FnUnquoted: its walk. -/
import Derived.Test.YtjjbgoknmofajaaDoorDecD
import Derived.Test.YtjjbgoknmofajaaDoorOutW
namespace Go.Proofs.YtjjbgoknmofajaaDoor.Unquo
open Go.RowKit Go.Proofs.YtjjbgoknmofajaaDoor Go.Proofs.YtjjbgoknmofajaaDoor.Wire

/-- The string of a text, unquoted. -/
structure UStr1 (w : World) (l : List UInt8) (e : Ending) (w' : World) : Prop where
  below : Below w.heap.size w w'
  what : ∃ (q : List UInt8) (ok : Bool), UnqAll l q ok ∧ e = .returned (.string ⟨q.toArray⟩)

/-- What 'UnquoteMayCopy' leaves when it copies. -/
structure MayC (w : World) (l : List UInt8) (e : Ending) (w' : World) : Prop where
  below : Below w.heap.size w w'
  what : ∃ (q : List UInt8) (ok : Bool) (v : Value), UnqAll l q ok ∧ Own w' v q ∧ e = .returned v

set_option maxRecDepth 100000 in
set_option maxHeartbeats 2000000 in
theorem mayCopy_no (u1 u2 : TypeId) (x1 x2 : Value) (l : List UInt8) (b n cap : Nat) (w : World) (hW : W4 u1 u2 x1 x2 w) (hn : n = l.length) (hb : b < w.heap.size) (hbytes : Bytes w b 0 l) (hlen : n ≤ cap) (hl : l.length ≤ 90000) :
    Calls Tryd.prog 33 #[.slice (some ⟨b, 0, none⟩) n cap, .bool false] w (MayC w l) := by
  have HW := Lib.hid hW
  have HBY := Lib.hid hbytes
  have HN := Lib.hid hn
  clear hW hbytes hn
  go_enter Tryd.func33, Tryd.ntmps33
  go_wp2_with fail
  refine (appUnq_all u1 u2 x1 x2 (.slice none 0 0) [] l b n cap _ HN.out (.inl ⟨rfl, rfl⟩) (fun a h => by simp [baseOf] at h) HW.out hb (fun a h => by simp [baseOf] at h) HBY.out hlen (by simp) (by omega)).mono ?_
  rintro e w2 ⟨q, ok, v2, x, h1, h2, k2, hx, rfl⟩
  have hb2 := app_new k2 (Nat.le_refl _) (fun a h => by simp [baseOf] at h)
  have HB := Lib.hid hb2
  have H1 := Lib.hid h1
  have HO := Lib.hid k2.own
  clear hb2 h1 h2 k2 hx
  go_wp2_with fail
  go_ret
  exact ⟨HB.out, q, ok, v2, H1.out, by simpa using HO.out, rfl⟩

set_option maxRecDepth 100000 in
set_option maxHeartbeats 2000000 in
theorem unquoted_no (u1 u2 : TypeId) (x1 x2 : Value) (s : ByteArray) (w : World) (hW : W4 u1 u2 x1 x2 w) (hs : s.size ≤ 90000) :
    Calls Tryd.prog 18 #[.string s, .bool false] w (UStr1 w s.data.toList) := by
  have HW := Lib.hid hW
  clear hW
  go_enter Tryd.func18, Tryd.ntmps18
  go_wp2_with (first
    | (refine wpList_conv u8q rfl (.tmp 5) 9 rfl string9q rfl (by unfold maxLen; omega) ?_
       intro c1 w1 o1 b1 z1
       have O1 := Lib.hid o1
       have B1 := Lib.hid b1
       have Z1 := Lib.hid z1
       clear o1 b1 z1))
  have hsl := O1.out.slice
  have hz := Z1.out
  refine (mayCopy_no u1 u2 x1 x2 s.data.toList w.heap.size s.size c1 _ (HW.out.below B1.out) (by rw [size_eq]) (by omega) hsl.2.2.2.2 (by have := hsl.2.1; rw [size_eq] at this; exact this) (by rw [size_eq]; exact hs)).mono ?_
  rintro e w2 ⟨b2, q, ok, v2, h1, own2, rfl⟩
  have HB := Lib.hid (below_step B1.out b2)
  have H1 := Lib.hid h1
  have HO := Lib.hid own2
  clear hsl hz b2 h1 own2
  go_wp2_with (refine wpList_toString u8q rfl (.tmp 8) _ rfl string9q rfl HO.out ?_)
  go_ret
  exact ⟨HB.out, q, ok, H1.out, rfl⟩

/-- A part of bytes. -/
def MayV (w : World) (b m : Nat) (e : Ending) (w' : World) : Prop := w' = w ∧ ∃ cap, e = .returned (.slice (some ⟨b, 1, none⟩) m cap)

set_option maxRecDepth 100000 in
set_option maxHeartbeats 2000000 in
theorem mayCopy_yes (b n cap m : Nat) (w : World) (hn : n = m + 2) (hlen : n ≤ cap) (hc : cap ≤ maxLen) :
    Calls Tryd.prog 33 #[.slice (some ⟨b, 0, none⟩) n cap, .bool true] w (MayV w b m) := by
  unfold maxLen at hc
  have i0 : (0 : Int) ≤ 1 := by decide
  have i1 : (1 : Int) ≤ ((m + 1 : Nat) : Int) := by omega
  have i2 : ((m + 1 : Nat) : Int) ≤ (cap : Int) := by omega
  have i3 : (n : Int) - 1 = ((m + 1 : Nat) : Int) := by omega
  have i4 : ¬ cap = 1 := by omega
  have i5 : m + 1 - 1 = m := by omega
  have i6 : (1 : Nat) ≤ m + 1 := by omega
  clear hn
  go_enter Tryd.func33, Tryd.ntmps33
  go_wp2_with fail
  go_ret
  exact ⟨rfl, _, rfl⟩

set_option maxRecDepth 100000 in
set_option maxHeartbeats 2000000 in
theorem unquoted_yes (s : ByteArray) (w : World) (hs : s.size ≤ 90000) (h2 : 2 ≤ s.size) :
    Calls Tryd.prog 18 #[.string s, .bool true] w fun e w' => Below w.heap.size w w' ∧ e = .returned (.string ⟨((s.data.toList.drop 1).take (s.size - 2)).toArray⟩) := by
  obtain ⟨m, hm⟩ : ∃ m : Nat, m = s.size - 2 := ⟨_, rfl⟩
  have HM := Lib.hid hm
  have hlm : ((s.data.toList.drop 1).take m).length = m := by rw [List.length_take, List.length_drop, size_eq]; omega
  rw [← hm]
  have hsm : s.size = m + 2 := by omega
  have HSM := Lib.hid hsm
  obtain ⟨M, hM⟩ : ∃ M : List UInt8, M = (s.data.toList.drop 1).take m := ⟨_, rfl⟩
  rw [← hM]
  rw [← hM] at hlm
  have HMM := Lib.hid hM
  have HLM := Lib.hid hlm
  clear hm hlm hsm hM
  go_enter Tryd.func18, Tryd.ntmps18
  go_wp2_with (first
    | (refine wpList_conv u8q rfl (.tmp 5) 9 rfl string9q rfl (by unfold maxLen; omega) ?_
       intro c1 w1 o1 b1 z1
       have O1 := Lib.hid o1
       have B1 := Lib.hid b1
       clear o1 b1 z1))
  have hsl := O1.out.slice
  refine (mayCopy_yes w.heap.size s.size c1 m _ HSM.out (by have := hsl.2.1; rw [size_eq] at this; exact this) hsl.2.2.1).mono ?_
  rintro e w2 ⟨rfl, cap, rfl⟩
  have hby : Bytes w2 w.heap.size 1 M := by have := hsl.2.2.2.2.sub 1 m; rwa [Nat.zero_add, ← HMM.out] at this
  have HBY := Lib.hid hby
  clear hsl hby
  go_wp2_with (refine wpList_toStr (P := Tryd.prog) (t := 39) (e := 5) u8q rfl (.tmp 8) 9 rfl string9q rfl ⟨M.toArray⟩ HLM.out.symm HBY.out ?_)
  go_ret
  exact ⟨B1.out, rfl⟩

theorem strs1' {w : World} {b : Nat} {a : ByteArray} (h : w.cell? ⟨b, 0, none⟩ = some (.string a)) : Strs w b [a] := by
  intro j hj
  match j, hj with
  | 0, _ => exact h

theorem extract_full (s : ByteArray) : s.extract 0 s.size = s := bytes_ext (by
  have := extract_m s 0 s.size
  rw [Nat.zero_add] at this
  rw [this, List.drop_zero, List.take_of_length_le (by rw [size_eq]; exact Nat.le_refl _)])

theorem extract_size (s : ByteArray) (k : Nat) (hk : k ≤ s.size) : (s.extract 0 k).size = k := by
  have := extract_m s 0 k
  rw [Nat.zero_add] at this
  rw [← size_eq, this, List.length_take, List.drop_zero, size_eq]
  omega

set_option maxRecDepth 100000 in
set_option maxHeartbeats 8000000 in
theorem walk (u1 u2 : TypeId) (x1 x2 : Value) (s : ByteArray) (hs : s.size ≤ maxLen) (w : World) (hW : W4 u1 u2 x1 x2 w) :
    Calls Tryd.prog 5 #[.string s] w fun e w' => e = .returned (.bool true) ∧ Below w.heap.size w w' := by
  unfold maxLen at hs
  have HW := Lib.hid hW
  clear hW
  by_cases h1 : 2147483647 < s.size
  · go_enter Tryd.func5, Tryd.ntmps5
    go_wp2
    go_ret
    exact ⟨rfl, Below.refl _ _⟩
  have hsz : s.size ≤ 2147483647 := by omega
  go_enter Tryd.func5, Tryd.ntmps5
  go_wp2_with fail
  refine (stringPart_any s (by omega) false _).mono ?_
  rintro e w1 ⟨b1, r, k, ok, hrel, hk, rfl, hyes⟩
  have B1 := Lib.hid b1
  have HRel := Lib.hid hrel
  have HYes := Lib.hid hyes
  clear b1 hrel hyes
  go_wp2_with fail
  cases hfit : fitsB [s]
  · have H := Lib.hid hfit
    clear hfit
    refine (fits8_any [s] _ _ _ _ rfl (by simp) (strs1' (by simp)) (sizes1 (by omega))).mono ?_
    rintro e w2 ⟨rfl, rfl⟩
    rw [H.out]
    go_wp2_with fail
    go_ret
    exact ⟨rfl, below_step B1.out ((Below.refl _ _).alloc (Nat.le_refl _) _)⟩
  have hz : s.size ≤ 1000 := by simpa [fitsB] using hfit
  have H := Lib.hid hfit
  clear hfit
  refine (fits8_any [s] _ _ _ _ rfl (by simp) (strs1' (by simp)) (sizes1 (by omega))).mono ?_
  rintro e w2 ⟨rfl, rfl⟩
  rw [H.out]
  cases ok with
  | false =>
    go_wp2_with fail
    go_ret
    exact ⟨rfl, below_step B1.out ((Below.refl _ _).alloc (Nat.le_refl _) _)⟩
  | true =>
    by_cases hks : k = s.size
    · -- the whole text is a string
      obtain ⟨hr1, h34, hk1⟩ := HYes.out rfl
      have hext : s.extract 0 k = s := by rw [hks]; exact extract_full s
      have hlen : s.data.toList.length = r.2 + 1 := by rw [size_eq, ← hks, hk1]
      have hrun : s.data.toList[0]? = some 34 ∧ QRun false s.data.toList 1 r := by
        rcases HRel.out with ⟨hn, hq⟩ | ⟨_, rfl⟩
        · obtain ⟨d, hd, g1, g2, _⟩ := need_true hn
          refine ⟨?_, hq⟩
          rw [hd]
          congr 1
          exact UInt8.toNat_inj.1 (by show d.toNat = 34; omega)
        · cases hr1
      obtain ⟨D, hD, hU⟩ := run_dec hrun.2 hr1 hlen h34
      have hle := hrun.2.le
      have hs2 : 2 ≤ s.size := by omega
      rw [show r.2 - 1 = s.size - 2 by omega] at hD
      have hall : UnqAll s.data.toList D true := by
        have e : s.data.toList = 34 :: s.data.toList.drop 1 := by have := drop_of_get hrun.1; rwa [List.drop_zero] at this
        rw [e]
        exact .right hU
      have HD := Lib.hid hD
      have HAll := Lib.hid hall
      have HEXT := Lib.hid hext
      have hneq : ((s.extract 0 k).toList != s.toList) = false := by rw [hext]; simp
      have heq : ((s.extract 0 k).toList == s.toList) = true := by rw [hext]; simp
      obtain ⟨W, hWW⟩ : ∃ W, W = w1.alloc (.cells #[.string s] 9) := ⟨_, rfl⟩
      have hb0 : Below w.heap.size w W := by rw [hWW]; exact below_step B1.out ((Below.refl _ _).alloc (Nat.le_refl _) _)
      rw [← hWW]
      have HB0 := Lib.hid hb0
      clear hWW hb0 hr1 h34 hk1 hext hlen hrun hD hU hle hall hks
      go_wp2_with fail
      refine (decode_any s (by omega) hs2 D _ HD.out).mono ?_
      rintro e w2 ⟨b2, bb, rfl⟩
      have B2 := Lib.hid (below_step HB0.out b2)
      clear b2
      obtain ⟨t, ht⟩ : ∃ t : ByteArray, t = ⟨D.toArray⟩ := ⟨_, rfl⟩
      rw [← ht]
      have HT := Lib.hid ht
      clear ht
      go_wp2_with fail
      go_loopw [7, 37] (fun p i wr => ∃ (j : Nat) (pl : Bool), i = .int .i64 j ∧ j ≤ s.size ∧ p = .bool pl ∧ (pl = true → ∀ c ∈ s.data.toList.take j, c ≠ 92) ∧ wr = w2) (fun _ i _ => s.size - (intOf i).toNat)
      case atStart => exact ⟨0, true, rfl, Nat.zero_le _, rfl, fun _ c h => by simp at h, rfl⟩
      case round =>
        obtain ⟨j, pl, rfl, hj, rfl, hp, rfl⟩ := hrel
        have HP := Lib.hid hp
        clear hp
        by_cases hj2 : j < s.size
        · have hj0 : (0 : Int) ≤ (j : Int) := by omega
          have hj1 : (j : Int) < (s.size : Int) := by omega
          have hjl : j < s.data.toList.length := by rw [size_eq]; exact hj2
          have hlj : s.data.toList[j] = s[j]'hj2 := rfl
          obtain ⟨a, ha⟩ : ∃ a : Nat, (s[j]'hj2).toNat = a := ⟨_, rfl⟩
          cases pl with
          | false =>
            clear hlj ha
            go_wp2_with fail
            exact ⟨⟨j + 1, false, by simp, by omega, rfl, fun h => (by cases h), trivial⟩, by simp only [intOf]; omega⟩
          | true =>
            by_cases h92 : a = 92
            · subst h92
              clear hlj
              go_wp2_with fail
              exact ⟨⟨j + 1, false, by simp, by omega, rfl, fun h => (by cases h), trivial⟩, by simp only [intOf]; omega⟩
            · have z1 : ((a : Int) != 92) = true := by rw [bne_iff_ne]; omega
              have z2 : ((a : Int) == 92) = false := by rw [beq_eq_false_iff_ne]; omega
              have hnext : ∀ c ∈ s.data.toList.take (j + 1), c ≠ 92 := by
                intro c hc
                rw [List.take_succ_eq_append_getElem hjl, List.mem_append, List.mem_singleton] at hc
                rcases hc with h | h
                · exact HP.out rfl c h
                · intro e
                  apply h92
                  rw [← ha, ← hlj, ← h, e]
                  rfl
              have HN := Lib.hid hnext
              clear hnext hlj
              go_wp2_with fail
              exact ⟨⟨j + 1, true, by simp, by omega, rfl, fun _ => HN.out, trivial⟩, by simp only [intOf]; omega⟩
        · obtain rfl : j = s.size := by omega
          have hjs : ¬ (s.size : Int) < (s.size : Int) := by omega
          have heqt : (t.toList == t.toList) = true := by simp
          go_wp2_with fail
          refine (unquoted_no u1 u2 x1 x2 s _ (HW.out.below B2.out) (by omega)).mono ?_
          rintro e w3 ⟨b3, q, ok, hq, rfl⟩
          obtain ⟨rfl, rfl⟩ := HAll.out.one hq
          rw [← HT.out]
          have B3 := Lib.hid (below_step B2.out b3)
          clear b3 hq
          cases pl with
          | false =>
            go_wp2_with fail
            go_ret
            exact ⟨rfl, B3.out⟩
          | true =>
            have hno : ∀ c ∈ (s.data.toList.drop 1).take (s.size - 2), c ≠ 92 := fun c hc => HP.out rfl c (by
              rw [List.take_of_length_le (by rw [size_eq]; exact Nat.le_refl _)]
              exact List.mem_of_mem_drop (List.mem_of_mem_take hc))
            have hself : D = (s.data.toList.drop 1).take (s.size - 2) := dec_plain HD.out hno
            have hts : (⟨((s.data.toList.drop 1).take (s.size - 2)).toArray⟩ : ByteArray) = t := by rw [HT.out, hself]
            have HTS := Lib.hid hts
            clear hno hself hts
            go_wp2_with fail
            refine (unquoted_yes s _ (by omega) hs2).mono ?_
            rintro e w4 ⟨b4, rfl⟩
            rw [HTS.out]
            have B4 := Lib.hid (below_step B3.out b4)
            clear b4
            go_wp2_with fail
            go_ret
            exact ⟨rfl, B4.out⟩
    · have hne : s.extract 0 k ≠ s := fun e => hks (by rw [← extract_size s k hk, e])
      have hneq : ((s.extract 0 k).toList != s.toList) = true := by
        rw [bne_iff_ne]
        intro e
        exact hne (bytes_ext (by rw [← Lib.toList_data, ← Lib.toList_data, e]))
      have heq : ((s.extract 0 k).toList == s.toList) = false := by
        rw [beq_eq_false_iff_ne]
        intro e
        exact hne (bytes_ext (by rw [← Lib.toList_data, ← Lib.toList_data, e]))
      clear hne
      go_wp2_with fail
      go_ret
      exact ⟨rfl, below_step B1.out ((Below.refl _ _).alloc (Nat.le_refl _) _)⟩

end Go.Proofs.YtjjbgoknmofajaaDoor.Unquo
