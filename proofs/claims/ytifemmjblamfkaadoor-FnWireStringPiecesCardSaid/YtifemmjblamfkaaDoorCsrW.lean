/- jsonwire's ConsumeStringResumable, from where its loop begins. -/
import Derived.Test.YtifemmjblamfkaaDoorCsrR
import Derived.Deep.CutBlock
import Derived.Deep.DeepCutAuto
namespace Go.Proofs.YtifemmjblamfkaaDoor.Wire
open Go.RowKit Go.Proofs.YtifemmjblamfkaaDoor

/-- What is left: the place, the error. -/
structure SRes (F : Nat) (w : World) (eofV utfV : Value) (vf : Bool) (l : List UInt8) (k0 : Nat) (e : Ending) (w' : World) : Prop where
  what : ∃ (n c : Nat) (err : Value), SRun vf l k0 (n, c) ∧ e = .returned (.tuple #[.int .i64 (n : Int), err]) ∧ (c = 0 → err = .nilIface) ∧ (c = 1 → err = eofV) ∧ (c = 2 → Bad err ∨ err = utfV)
  fg : Fg F w w'

theorem hex4_lt {l : List UInt8} {v : Nat} (h : hex4 l = some v) : v < 65536 := by
  have hd : ∀ {a d}, hexd a = some d → d < 16 := fun {a d} h => by
    unfold hexd at h
    split at h
    · cases h; omega
    · split at h
      · cases h; omega
      · split at h
        · cases h; omega
        · cases h
  unfold hex4 at h
  split at h
  · rename_i h4
    match l, h4 with
    | [a, b, c, d], _ =>
      simp only [hexFold] at h
      cases ha : hexd a.toNat with
      | none => rw [ha] at h; cases h
      | some x =>
        rw [ha] at h
        simp only at h
        cases hb : hexd b.toNat with
        | none => rw [hb] at h; cases h
        | some y =>
          rw [hb] at h
          simp only at h
          cases hc : hexd c.toNat with
          | none => rw [hc] at h; cases h
          | some z =>
            rw [hc] at h
            simp only at h
            cases he : hexd d.toNat with
            | none => rw [he] at h; cases h
            | some u =>
              rw [he] at h
              simp only [Option.some.injEq] at h
              have := hd ha
              have := hd hb
              have := hd hc
              have := hd he
              omega
  · cases h

theorem pair_bound {a b r : Nat} (h : pairV a b = some r) : 65536 ≤ r ∧ r ≤ 1114111 := by
  unfold pairV at h
  split at h
  · cases h; omega
  · cases h

theorem newEsc' (l : List UInt8) (b off len cap : Nat) (w : World) (hlen : len = l.length) (hB : Bytes w b off l) :
    Calls Tryd.prog 29 #[.slice (some ⟨b, off, none⟩) len cap] w fun e w' => Below w.heap.size w w' ∧ ∃ err, e = .returned err ∧ Bad err := by
  subst hlen
  exact newEsc_any l b off cap w hB

theorem pref0_any (lower : Bool) (l : List UInt8) (hl : l.length < 6) (b off len cap : Nat) (w : World) (hlen : len = l.length) (hB : Bytes w b off l) :
    Calls Tryd.prog 28 #[.slice (some ⟨b, off, none⟩) len cap, .bool lower] w fun e w' => w' = w ∧ e = .returned (.bool (prefB lower l)) := by
  subst hlen
  exact prefix_any lower l hl b off cap w hB

theorem prefix0 (a : Option Addr) (len c : Nat) (lower : Bool) (w : World) (hl : len = 0) :
    Calls Tryd.prog 28 #[.slice a len c, .bool lower] w fun e w' => w' = w ∧ e = .returned (.bool true) := by
  subst hl
  go_enter Tryd.func28, Tryd.ntmps28
  go_wp2_with fail
  go_loopw [9] (fun i wr => wr = w ∧ i = .int .i64 0) (fun _ _ => 0)
  case atStart => exact ⟨rfl, rfl⟩
  case round =>
    obtain ⟨rfl, rfl⟩ := hrel
    go_wp2_with fail
    go_ret
    exact ⟨rfl, rfl⟩

theorem full' (l : List UInt8) (hne : l ≠ []) (b off len cap : Nat) (w : World) (hlen : len = l.length) (hB : Bytes w b off l) (hT : Lib.Utf8Tabs 2 3 w) (hb : b < w.heap.size) :
    Calls Tryd.prog 33 #[.slice (some ⟨b, off, none⟩) len cap] w fun e w' => e = .returned (.bool (fullB l)) ∧ Below w.heap.size w w' := by
  subst hlen
  exact fullRune_any l hne b off cap w hB hT hb

theorem parse4_none (l : List UInt8) (hl : l.length = 4) (hx : hex4 l = none) (b off len cap : Nat) (w : World) (hlen : len = 4) (hB : Bytes w b off l) :
    Calls Tryd.prog 30 #[.slice (some ⟨b, off, none⟩) len cap] w fun e w' => w' = w ∧ e = .returned (.tuple #[.int .u16 0, .bool false]) := by
  subst hlen
  refine (parse4_any l hl b off cap w hB).mono ?_
  rintro e w' ⟨rfl, rfl⟩
  exact ⟨rfl, by rw [hx]; rfl⟩

theorem parse4_some (l : List UInt8) {x : Nat} (hl : l.length = 4) (hx : hex4 l = some x) (b off len cap : Nat) (w : World) (hlen : len = 4) (hB : Bytes w b off l) :
    Calls Tryd.prog 30 #[.slice (some ⟨b, off, none⟩) len cap] w fun e w' => w' = w ∧ e = .returned (.tuple #[.int .u16 (x : Int), .bool true]) := by
  subst hlen
  refine (parse4_any l hl b off cap w hB).mono ?_
  rintro e w' ⟨rfl, rfl⟩
  exact ⟨rfl, by rw [hx]; rfl⟩

theorem parse4I (l : List UInt8) {x : Nat} (hl : l.length = 4) (hx : hex4 l = some x) (X : Int) (hX : (x : Int) = X) (b off len cap : Nat) (w : World) (hlen : len = 4) (hB : Bytes w b off l) :
    Calls Tryd.prog 30 #[.slice (some ⟨b, off, none⟩) len cap] w fun e w' => w' = w ∧ e = .returned (.tuple #[.int .u16 X, .bool true]) := by
  subst hX
  exact parse4_some l hl hx b off len cap w hlen hB

theorem surrI (X : Int) (w : World) (h1 : 55296 ≤ X) (h2 : X < 57344) :
    Calls Tryd.prog 31 #[.int .i32 X] w fun e w' => w' = w ∧ e = .returned (.bool true) := by
  obtain ⟨r, rfl⟩ := Int.eq_ofNat_of_zero_le (show 0 ≤ X by omega)
  have hd : decide (55296 ≤ r ∧ r < 57344) = true := decide_eq_true (by omega)
  refine (surr_any r w).mono ?_
  rintro e w' ⟨rfl, rfl⟩
  rw [hd]
  exact ⟨rfl, rfl⟩

theorem surrI_no (X : Int) (w : World) (h0 : 0 ≤ X) (h : ¬(55296 ≤ X ∧ X < 57344)) :
    Calls Tryd.prog 31 #[.int .i32 X] w fun e w' => w' = w ∧ e = .returned (.bool false) := by
  obtain ⟨r, rfl⟩ := Int.eq_ofNat_of_zero_le h0
  have hd : decide (55296 ≤ r ∧ r < 57344) = false := decide_eq_false (by omega)
  refine (surr_any r w).mono ?_
  rintro e w' ⟨rfl, rfl⟩
  rw [hd]
  exact ⟨rfl, rfl⟩

theorem dec16I (a b : Nat) (X Y : Int) (hX : (a : Int) = X) (hY : (b : Int) = Y) (ha : 55296 ≤ a ∧ a < 57344) (hb : b < 65536) (v : Nat) (V : Int) (hv : (pairV a b).getD 65533 = v) (hV : (v : Int) = V) (w : World) :
    Calls Tryd.prog 32 #[.int .i32 X, .int .i32 Y] w fun e w' => w' = w ∧ e = .returned (.int .i32 V) := by
  subst hX hY
  refine (dec16_any a b ha.1 ha.2 hb w).mono ?_
  rintro e w' ⟨rfl, rfl⟩
  rw [hv, hV]
  exact ⟨rfl, rfl⟩

set_option maxRecDepth 100000 in
set_option maxHeartbeats 60000000 in
theorem csr_any (vf : Bool) (l : List UInt8) (b n cap F res k1 : Nat) (eofV utfV : Value) (w : World) (hst : (0 < res ∧ k1 = res) ∨ (res = 0 ∧ k1 = 1 ∧ ∃ l1, l = 34 :: l1)) (hk1 : k1 ≤ n) (hn : n = l.length) (hlz : l.length ≤ 4000) (hlen : n ≤ cap)
    (hE0 : w.cell? ⟨0, 0, none⟩ = some eofV) (hE1 : w.cell? ⟨1, 0, none⟩ = some utfV) (hU : Lib.Utf8Tabs 2 3 w) (hF4 : 4 ≤ F) (hF : Fg F w w)
    (hb : b < w.heap.size) (hbF : b ≠ F) (hbytes : Bytes w b 0 l) :
    Calls Tryd.prog 16 #[.pointer (some ⟨F, 0, none⟩), .slice (some ⟨b, 0, none⟩) n cap, .int .i64 (res : Int), .bool vf] w (SRes F w eofV utfV vf l k1) := by
  have hFlt := hF.lt
  have h0lt : 0 < w.heap.size := by omega
  have h1lt : 1 < w.heap.size := by omega
  have h0ne : 0 ≠ F := by omega
  have h1ne : 1 ≠ F := by omega
  have HE0 := Lib.hid hE0
  have HE1 := Lib.hid hE1
  have HU := Lib.hid hU
  have HBY := Lib.hid hbytes
  have HN := Lib.hid hn
  have HFF := Lib.hid hF
  have hn1 : n ≤ 4000 := by omega
  clear hE0 hE1 hU hbytes hn hF
  go_enter Tryd.func16, Tryd.ntmps16
  go_upto_block 0 with fail
  go_cut [8] (fun s wx => w = wx ∧ s = .int .i64 (k1 : Int))
  case first =>
    as_aux_lemma =>
      rcases hst with ⟨h1, rfl⟩ | ⟨rfl, rfl, l1, hl⟩
      · have i0 : (0 : Int) < (k1 : Int) := by omega
        go_wp2_with fail
        go_meet
        exact ⟨rfl, rfl⟩
      · have hc0 := HBY.out.at0 0 (by have := HN.out; omega)
        have hg0 : l[0]'(by have := HN.out; omega) = 34 := by simp [hl]
        rw [hg0] at hc0
        have hn3 : (0 : Int) < (n : Int) := by omega
        have hn4 : ((n : Int) == 0) = false := by rw [beq_eq_false_iff_ne]; omega
        clear hl hg0
        go_wp2_with fail
        go_meet
        exact ⟨rfl, rfl⟩
  case rest =>
  obtain ⟨rfl, rfl⟩ := hcut
  clear hst
  as_aux_lemma =>
    go_wp2_with fail
    go_loopw [8] (fun t wr => ∃ k : Nat, t = .int .i64 (k : Int) ∧ k ≤ n ∧ k1 ≤ k ∧ SI vf l k1 k ∧ Fg F w wr) (fun t _ => n - (intOf t).toNat)
    case atStart => exact ⟨k1, rfl, hk1, Nat.le_refl _, SI.start _ _ _, HFF.out⟩
    case round =>
      obtain ⟨k0, rfl, hk0, hk10, hsi, hgw⟩ := hrel
      have HG := Lib.hid hgw
      have HSI0 := Lib.hid hsi
      clear hgw hsi
      have hE0 := HG.out.keep (b := 0) h0lt h0ne HE0.out
      have hE1 := HG.out.keep (b := 1) h1lt h1ne HE1.out
      have HBB := Lib.hid (HG.out.bytes hb hbF HBY.out)
      have HUw := Lib.hid (HG.out.utf hF4 hFlt HU.out)
      have hbw := HG.out.grown.size
      as_aux_lemma =>
        by_cases hk02 : k0 < n
        · have hk03 : (k0 : Int) < (n : Int) := by omega
          have hk04 : (0 : Int) ≤ (k0 : Int) := by omega
          go_wp2_with fail
          go_loopw [8] (fun t w2 => ∃ k : Nat, t = .int .i64 (k : Int) ∧ k0 ≤ k ∧ k ≤ n ∧ SI vf l k1 k ∧ w2 = wr) (fun t _ => n - (intOf t).toNat)
          case atStart => exact ⟨k0, rfl, Nat.le_refl _, hk0, HSI0.out, rfl⟩
          case round =>
            obtain ⟨k, rfl, hk1', hk, hsi, rfl⟩ := hrel
            have HSI := Lib.hid hsi
            clear hsi
            as_aux_lemma =>
              by_cases hk2 : k < n
              · have hkl : k < l.length := by have := HN.out; omega
                have hk3 : (0 : Int) ≤ (k : Int) := by omega
                have hk4 : (k : Int) < (n : Int) := by omega
                have hk5 : (k : Int) < (cap : Int) := by omega
                have hlt : decide ((k : Int) < (n : Int)) = true := decide_eq_true hk4
                have hc := HBB.out.at0 k hkl
                have hd := List.drop_eq_getElem_cons hkl
                obtain ⟨c, hcc⟩ : ∃ c, c = l[k] := ⟨_, rfl⟩
                rw [← hcc] at hc hd
                obtain ⟨a, ha⟩ : ∃ a : Nat, a = c.toNat := ⟨_, rfl⟩
                rw [← ha] at hc
                have HD := Lib.hid hd
                have HA := Lib.hid ha
                clear hcc hd ha
                cases hpl : plainB a with
                | true =>
                  have hp : a < 128 ∧ 32 ≤ a ∧ a ≠ 92 ∧ a ≠ 34 := by simpa [plainB, and_assoc] using hpl
                  have hstep : sStep vf (l.drop k) = .go 1 := ss_char HD.out (fun e => hp.2.2.2 (by rw [HA.out, e]; rfl)) (fun e => hp.2.2.1 (by rw [HA.out, e]; rfl)) (by rw [← HA.out]; exact hp.2.1) (.inl ⟨rfl, c, _, HD.out, by rw [← HA.out]; exact hp.1⟩)
                  have HNX := Lib.hid (HSI.out.go hstep)
                  have HPL := Lib.hid hpl
                  clear hp hstep hpl
                  go_wp2_with (first
                    | (go_at_call 25
                       refine (noEsc_any a _).mono ?_
                       rintro e w2 ⟨rfl, rfl⟩
                       rw [HPL.out]))
                  exact ⟨⟨k + 1, by simp, by omega, by omega, HNX.out, trivial⟩, by simp only [intOf]; omega⟩
                | false =>
                  have HPL := Lib.hid hpl
                  have hnp : ¬ (a < 128 ∧ 32 ≤ a ∧ a ≠ 92 ∧ a ≠ 34) := by simpa [plainB, and_assoc] using hpl
                  clear hpl
                  as_aux_lemma =>
                    by_cases h34 : a = 34
                    · subst h34
                      have hc34 : c = 34 := UInt8.toNat_inj.1 (by rw [← HA.out]; rfl)
                      have HRUN := Lib.hid (HSI.out.fine (ss_quote (by rw [HD.out, hc34])))
                      as_aux_lemma =>
                        go_wp2_with (first
                          | (go_at_call 25
                             refine (noEsc_any 34 _).mono ?_
                             rintro e w2 ⟨rfl, rfl⟩
                             rw [show plainB 34 = false by decide]))
                        go_ret2
                        exact ⟨⟨_, _, _, HRUN.out, (by first | rfl | (simp <;> omega) | (congr 4 <;> omega)), fun _ => rfl, fun e => (by cases e), fun e => (by cases e)⟩, HG.out⟩
                    · have n34 : ((a : Int) == 34) = false := by rw [beq_eq_false_iff_ne]; omega
                      have hsub : Bytes wr b k (l.drop k) := by
                        have := HBB.out.sub k (l.length - k)
                        rw [Nat.zero_add, List.take_of_length_le (by rw [List.length_drop]; omega)] at this
                        exact this
                      have HSub := Lib.hid hsub
                      clear hsub
                      have hdl : (l.drop k).length = n - k := by rw [List.length_drop, HN.out]
                      have HDL := Lib.hid hdl
                      clear hdl
                      by_cases h92 : a = 92
                      · subst h92
                        have hc92 : c = 92 := UInt8.toNat_inj.1 (by rw [← HA.out]; rfl)
                        rw [hc92] at HD
                        clear hc92 hnp
                        as_aux_lemma =>
                          by_cases hs2 : n < k + 2
                          · have i2 : (n : Int) < (k : Int) + 2 := by omega
                            have hone : l.drop k = [92] := by rw [HD.out, List.drop_of_length_le (by have := HN.out; omega)]
                            have HRUN := Lib.hid (HSI.out.short (ss_one hone))
                            clear hone
                            as_aux_lemma =>
                              go_wp2_with (first
                                | (go_at_call 25
                                   refine (noEsc_any 92 _).mono ?_
                                   rintro e w2 ⟨rfl, rfl⟩
                                   rw [show plainB 92 = false by decide])
                                | (go_at_call 26
                                   refine (decRune_any (l.drop k) (by rw [HD.out]; exact List.cons_ne_nil _ _) b k (n - k) (cap - k) _ (by rw [List.length_drop, HN.out]) HSub.out HUw.out).mono ?_
                                   rintro e w2 ⟨b2, r, rn, rfl, hread⟩
                                   have HG := Lib.hid (HG.out.below b2)
                                   have hE0 := HG.out.keep (b := 0) h0lt h0ne HE0.out
                                   have hE1 := HG.out.keep (b := 1) h1lt h1ne HE1.out
                                   have HBB := Lib.hid (HG.out.bytes hb hbF HBY.out)
                                   have HUw := Lib.hid (HG.out.utf hF4 hFlt HU.out)
                                   have hbw := HG.out.grown.size
                                   obtain ⟨q1, q2, q3⟩ := hread.back 1 (.inl ⟨rfl, 92, _, HD.out, by decide⟩)
                                   have q4 : r = 92 := by rw [q3, HD.out]; rfl
                                   subst q1
                                   subst q4
                                   clear b2 hread q2 q3)
                                | (go_at_call 27
                                   refine (join_any F _ _ HG.out.self).mono ?_
                                   rintro e w3 ⟨rfl, g3⟩
                                   have HG := Lib.hid (HG.out.trans g3)
                                   have hE0 := HG.out.keep (b := 0) h0lt h0ne HE0.out
                                   have hE1 := HG.out.keep (b := 1) h1lt h1ne HE1.out
                                   have HBB := Lib.hid (HG.out.bytes hb hbF HBY.out)
                                   have HUw := Lib.hid (HG.out.utf hF4 hFlt HU.out)
                                   have hbw := HG.out.grown.size
                                   clear g3))
                              go_big_quiet (fail)
                              go_wp2_with fail
                              go_ret2
                              exact ⟨⟨_, _, _, HRUN.out, (by first | rfl | (simp <;> omega) | (congr 4 <;> omega)), fun e => (by cases e), fun _ => rfl, fun e => (by cases e)⟩, HG.out.drewN _⟩
                          · have i2 : ¬ (n : Int) < (k : Int) + 2 := by omega
                            have hkl1 : k + 1 < l.length := by have := HN.out; omega
                            have hd2 := List.drop_eq_getElem_cons hkl1
                            obtain ⟨c2, hcc2⟩ : ∃ c2, c2 = l[k + 1] := ⟨_, rfl⟩
                            obtain ⟨a2, ha2⟩ : ∃ a2 : Nat, a2 = c2.toNat := ⟨_, rfl⟩
                            rw [← hcc2] at hd2
                            have hl2 : l.drop k = 92 :: c2 :: l.drop (k + 2) := by rw [HD.out, hd2]
                            have HL2 := Lib.hid hl2
                            have HA2 := Lib.hid ha2
                            have HC2 := Lib.hid hcc2
                            clear hd2 hcc2 ha2 hl2
                            have k11 : (k : Int) + 1 < (n : Int) := by omega
                            as_aux_lemma =>
                              by_cases s47 : a2 = 47
                              · subst s47
                                have hcv : c2 = 47 := UInt8.toNat_inj.1 (by rw [← HA2.out]; rfl)
                                rw [hcv] at HL2
                                have HNX := Lib.hid (HSI.out.go (ss_simple HL2.out (by decide)))
                                clear hcv
                                as_aux_lemma =>
                                  go_wp2_with (first
                                    | (go_at_call 25
                                       refine (noEsc_any 92 _).mono ?_
                                       rintro e w2 ⟨rfl, rfl⟩
                                       rw [show plainB 92 = false by decide])
                                    | (go_at_call 26
                                       refine (decRune_any (l.drop k) (by rw [HD.out]; exact List.cons_ne_nil _ _) b k (n - k) (cap - k) _ (by rw [List.length_drop, HN.out]) HSub.out HUw.out).mono ?_
                                       rintro e w2 ⟨b2, r, rn, rfl, hread⟩
                                       have HG := Lib.hid (HG.out.below b2)
                                       have hE0 := HG.out.keep (b := 0) h0lt h0ne HE0.out
                                       have hE1 := HG.out.keep (b := 1) h1lt h1ne HE1.out
                                       have HBB := Lib.hid (HG.out.bytes hb hbF HBY.out)
                                       have HUw := Lib.hid (HG.out.utf hF4 hFlt HU.out)
                                       have hbw := HG.out.grown.size
                                       obtain ⟨q1, q2, q3⟩ := hread.back 1 (.inl ⟨rfl, 92, _, HD.out, by decide⟩)
                                       have q4 : r = 92 := by rw [q3, HD.out]; rfl
                                       subst q1
                                       subst q4
                                       clear b2 hread q2 q3)
                                    | (go_at_call 27
                                       refine (join_any F _ _ HG.out.self).mono ?_
                                       rintro e w3 ⟨rfl, g3⟩
                                       have HG := Lib.hid (HG.out.trans g3)
                                       have hE0 := HG.out.keep (b := 0) h0lt h0ne HE0.out
                                       have hE1 := HG.out.keep (b := 1) h1lt h1ne HE1.out
                                       have HBB := Lib.hid (HG.out.bytes hb hbF HBY.out)
                                       have HUw := Lib.hid (HG.out.utf hF4 hFlt HU.out)
                                       have hbw := HG.out.grown.size
                                       clear g3
                                       have hc2 := HBB.out.at0 (k + 1) hkl1
                                       rw [← HC2.out, ← HA2.out] at hc2))
                                  exact ⟨⟨k + 2, (by first | rfl | (simp; done) | (simp; omega)), by have := HN.out; omega, by have := HN.out; omega, HNX.out, HG.out⟩, by simp only [intOf]; omega⟩
                              have m47 : ((a2 : Int) == 47) = false := by rw [beq_eq_false_iff_ne]; omega
                              by_cases s34 : a2 = 34
                              · subst s34
                                have hcv : c2 = 34 := UInt8.toNat_inj.1 (by rw [← HA2.out]; rfl)
                                rw [hcv] at HL2
                                have HNX := Lib.hid (HSI.out.go (ss_simple HL2.out (by decide)))
                                clear hcv
                                as_aux_lemma =>
                                  go_wp2_with (first
                                    | (go_at_call 25
                                       refine (noEsc_any 92 _).mono ?_
                                       rintro e w2 ⟨rfl, rfl⟩
                                       rw [show plainB 92 = false by decide])
                                    | (go_at_call 26
                                       refine (decRune_any (l.drop k) (by rw [HD.out]; exact List.cons_ne_nil _ _) b k (n - k) (cap - k) _ (by rw [List.length_drop, HN.out]) HSub.out HUw.out).mono ?_
                                       rintro e w2 ⟨b2, r, rn, rfl, hread⟩
                                       have HG := Lib.hid (HG.out.below b2)
                                       have hE0 := HG.out.keep (b := 0) h0lt h0ne HE0.out
                                       have hE1 := HG.out.keep (b := 1) h1lt h1ne HE1.out
                                       have HBB := Lib.hid (HG.out.bytes hb hbF HBY.out)
                                       have HUw := Lib.hid (HG.out.utf hF4 hFlt HU.out)
                                       have hbw := HG.out.grown.size
                                       obtain ⟨q1, q2, q3⟩ := hread.back 1 (.inl ⟨rfl, 92, _, HD.out, by decide⟩)
                                       have q4 : r = 92 := by rw [q3, HD.out]; rfl
                                       subst q1
                                       subst q4
                                       clear b2 hread q2 q3)
                                    | (go_at_call 27
                                       refine (join_any F _ _ HG.out.self).mono ?_
                                       rintro e w3 ⟨rfl, g3⟩
                                       have HG := Lib.hid (HG.out.trans g3)
                                       have hE0 := HG.out.keep (b := 0) h0lt h0ne HE0.out
                                       have hE1 := HG.out.keep (b := 1) h1lt h1ne HE1.out
                                       have HBB := Lib.hid (HG.out.bytes hb hbF HBY.out)
                                       have HUw := Lib.hid (HG.out.utf hF4 hFlt HU.out)
                                       have hbw := HG.out.grown.size
                                       clear g3
                                       have hc2 := HBB.out.at0 (k + 1) hkl1
                                       rw [← HC2.out, ← HA2.out] at hc2))
                                  exact ⟨⟨k + 2, (by first | rfl | (simp; done) | (simp; omega)), by have := HN.out; omega, by have := HN.out; omega, HNX.out, HG.out⟩, by simp only [intOf]; omega⟩
                              have m34 : ((a2 : Int) == 34) = false := by rw [beq_eq_false_iff_ne]; omega
                              by_cases s92 : a2 = 92
                              · subst s92
                                have hcv : c2 = 92 := UInt8.toNat_inj.1 (by rw [← HA2.out]; rfl)
                                rw [hcv] at HL2
                                have HNX := Lib.hid (HSI.out.go (ss_simple HL2.out (by decide)))
                                clear hcv
                                as_aux_lemma =>
                                  go_wp2_with (first
                                    | (go_at_call 25
                                       refine (noEsc_any 92 _).mono ?_
                                       rintro e w2 ⟨rfl, rfl⟩
                                       rw [show plainB 92 = false by decide])
                                    | (go_at_call 26
                                       refine (decRune_any (l.drop k) (by rw [HD.out]; exact List.cons_ne_nil _ _) b k (n - k) (cap - k) _ (by rw [List.length_drop, HN.out]) HSub.out HUw.out).mono ?_
                                       rintro e w2 ⟨b2, r, rn, rfl, hread⟩
                                       have HG := Lib.hid (HG.out.below b2)
                                       have hE0 := HG.out.keep (b := 0) h0lt h0ne HE0.out
                                       have hE1 := HG.out.keep (b := 1) h1lt h1ne HE1.out
                                       have HBB := Lib.hid (HG.out.bytes hb hbF HBY.out)
                                       have HUw := Lib.hid (HG.out.utf hF4 hFlt HU.out)
                                       have hbw := HG.out.grown.size
                                       obtain ⟨q1, q2, q3⟩ := hread.back 1 (.inl ⟨rfl, 92, _, HD.out, by decide⟩)
                                       have q4 : r = 92 := by rw [q3, HD.out]; rfl
                                       subst q1
                                       subst q4
                                       clear b2 hread q2 q3)
                                    | (go_at_call 27
                                       refine (join_any F _ _ HG.out.self).mono ?_
                                       rintro e w3 ⟨rfl, g3⟩
                                       have HG := Lib.hid (HG.out.trans g3)
                                       have hE0 := HG.out.keep (b := 0) h0lt h0ne HE0.out
                                       have hE1 := HG.out.keep (b := 1) h1lt h1ne HE1.out
                                       have HBB := Lib.hid (HG.out.bytes hb hbF HBY.out)
                                       have HUw := Lib.hid (HG.out.utf hF4 hFlt HU.out)
                                       have hbw := HG.out.grown.size
                                       clear g3
                                       have hc2 := HBB.out.at0 (k + 1) hkl1
                                       rw [← HC2.out, ← HA2.out] at hc2))
                                  exact ⟨⟨k + 2, (by first | rfl | (simp; done) | (simp; omega)), by have := HN.out; omega, by have := HN.out; omega, HNX.out, HG.out⟩, by simp only [intOf]; omega⟩
                              have m92 : ((a2 : Int) == 92) = false := by rw [beq_eq_false_iff_ne]; omega
                              by_cases s98 : a2 = 98
                              · subst s98
                                have hcv : c2 = 98 := UInt8.toNat_inj.1 (by rw [← HA2.out]; rfl)
                                rw [hcv] at HL2
                                have HNX := Lib.hid (HSI.out.go (ss_simple HL2.out (by decide)))
                                clear hcv
                                as_aux_lemma =>
                                  go_wp2_with (first
                                    | (go_at_call 25
                                       refine (noEsc_any 92 _).mono ?_
                                       rintro e w2 ⟨rfl, rfl⟩
                                       rw [show plainB 92 = false by decide])
                                    | (go_at_call 26
                                       refine (decRune_any (l.drop k) (by rw [HD.out]; exact List.cons_ne_nil _ _) b k (n - k) (cap - k) _ (by rw [List.length_drop, HN.out]) HSub.out HUw.out).mono ?_
                                       rintro e w2 ⟨b2, r, rn, rfl, hread⟩
                                       have HG := Lib.hid (HG.out.below b2)
                                       have hE0 := HG.out.keep (b := 0) h0lt h0ne HE0.out
                                       have hE1 := HG.out.keep (b := 1) h1lt h1ne HE1.out
                                       have HBB := Lib.hid (HG.out.bytes hb hbF HBY.out)
                                       have HUw := Lib.hid (HG.out.utf hF4 hFlt HU.out)
                                       have hbw := HG.out.grown.size
                                       obtain ⟨q1, q2, q3⟩ := hread.back 1 (.inl ⟨rfl, 92, _, HD.out, by decide⟩)
                                       have q4 : r = 92 := by rw [q3, HD.out]; rfl
                                       subst q1
                                       subst q4
                                       clear b2 hread q2 q3)
                                    | (go_at_call 27
                                       refine (join_any F _ _ HG.out.self).mono ?_
                                       rintro e w3 ⟨rfl, g3⟩
                                       have HG := Lib.hid (HG.out.trans g3)
                                       have hE0 := HG.out.keep (b := 0) h0lt h0ne HE0.out
                                       have hE1 := HG.out.keep (b := 1) h1lt h1ne HE1.out
                                       have HBB := Lib.hid (HG.out.bytes hb hbF HBY.out)
                                       have HUw := Lib.hid (HG.out.utf hF4 hFlt HU.out)
                                       have hbw := HG.out.grown.size
                                       clear g3
                                       have hc2 := HBB.out.at0 (k + 1) hkl1
                                       rw [← HC2.out, ← HA2.out] at hc2))
                                  exact ⟨⟨k + 2, (by first | rfl | (simp; done) | (simp; omega)), by have := HN.out; omega, by have := HN.out; omega, HNX.out, HG.out⟩, by simp only [intOf]; omega⟩
                              have m98 : ((a2 : Int) == 98) = false := by rw [beq_eq_false_iff_ne]; omega
                              by_cases s102 : a2 = 102
                              · subst s102
                                have hcv : c2 = 102 := UInt8.toNat_inj.1 (by rw [← HA2.out]; rfl)
                                rw [hcv] at HL2
                                have HNX := Lib.hid (HSI.out.go (ss_simple HL2.out (by decide)))
                                clear hcv
                                as_aux_lemma =>
                                  go_wp2_with (first
                                    | (go_at_call 25
                                       refine (noEsc_any 92 _).mono ?_
                                       rintro e w2 ⟨rfl, rfl⟩
                                       rw [show plainB 92 = false by decide])
                                    | (go_at_call 26
                                       refine (decRune_any (l.drop k) (by rw [HD.out]; exact List.cons_ne_nil _ _) b k (n - k) (cap - k) _ (by rw [List.length_drop, HN.out]) HSub.out HUw.out).mono ?_
                                       rintro e w2 ⟨b2, r, rn, rfl, hread⟩
                                       have HG := Lib.hid (HG.out.below b2)
                                       have hE0 := HG.out.keep (b := 0) h0lt h0ne HE0.out
                                       have hE1 := HG.out.keep (b := 1) h1lt h1ne HE1.out
                                       have HBB := Lib.hid (HG.out.bytes hb hbF HBY.out)
                                       have HUw := Lib.hid (HG.out.utf hF4 hFlt HU.out)
                                       have hbw := HG.out.grown.size
                                       obtain ⟨q1, q2, q3⟩ := hread.back 1 (.inl ⟨rfl, 92, _, HD.out, by decide⟩)
                                       have q4 : r = 92 := by rw [q3, HD.out]; rfl
                                       subst q1
                                       subst q4
                                       clear b2 hread q2 q3)
                                    | (go_at_call 27
                                       refine (join_any F _ _ HG.out.self).mono ?_
                                       rintro e w3 ⟨rfl, g3⟩
                                       have HG := Lib.hid (HG.out.trans g3)
                                       have hE0 := HG.out.keep (b := 0) h0lt h0ne HE0.out
                                       have hE1 := HG.out.keep (b := 1) h1lt h1ne HE1.out
                                       have HBB := Lib.hid (HG.out.bytes hb hbF HBY.out)
                                       have HUw := Lib.hid (HG.out.utf hF4 hFlt HU.out)
                                       have hbw := HG.out.grown.size
                                       clear g3
                                       have hc2 := HBB.out.at0 (k + 1) hkl1
                                       rw [← HC2.out, ← HA2.out] at hc2))
                                  exact ⟨⟨k + 2, (by first | rfl | (simp; done) | (simp; omega)), by have := HN.out; omega, by have := HN.out; omega, HNX.out, HG.out⟩, by simp only [intOf]; omega⟩
                              have m102 : ((a2 : Int) == 102) = false := by rw [beq_eq_false_iff_ne]; omega
                              by_cases s110 : a2 = 110
                              · subst s110
                                have hcv : c2 = 110 := UInt8.toNat_inj.1 (by rw [← HA2.out]; rfl)
                                rw [hcv] at HL2
                                have HNX := Lib.hid (HSI.out.go (ss_simple HL2.out (by decide)))
                                clear hcv
                                as_aux_lemma =>
                                  go_wp2_with (first
                                    | (go_at_call 25
                                       refine (noEsc_any 92 _).mono ?_
                                       rintro e w2 ⟨rfl, rfl⟩
                                       rw [show plainB 92 = false by decide])
                                    | (go_at_call 26
                                       refine (decRune_any (l.drop k) (by rw [HD.out]; exact List.cons_ne_nil _ _) b k (n - k) (cap - k) _ (by rw [List.length_drop, HN.out]) HSub.out HUw.out).mono ?_
                                       rintro e w2 ⟨b2, r, rn, rfl, hread⟩
                                       have HG := Lib.hid (HG.out.below b2)
                                       have hE0 := HG.out.keep (b := 0) h0lt h0ne HE0.out
                                       have hE1 := HG.out.keep (b := 1) h1lt h1ne HE1.out
                                       have HBB := Lib.hid (HG.out.bytes hb hbF HBY.out)
                                       have HUw := Lib.hid (HG.out.utf hF4 hFlt HU.out)
                                       have hbw := HG.out.grown.size
                                       obtain ⟨q1, q2, q3⟩ := hread.back 1 (.inl ⟨rfl, 92, _, HD.out, by decide⟩)
                                       have q4 : r = 92 := by rw [q3, HD.out]; rfl
                                       subst q1
                                       subst q4
                                       clear b2 hread q2 q3)
                                    | (go_at_call 27
                                       refine (join_any F _ _ HG.out.self).mono ?_
                                       rintro e w3 ⟨rfl, g3⟩
                                       have HG := Lib.hid (HG.out.trans g3)
                                       have hE0 := HG.out.keep (b := 0) h0lt h0ne HE0.out
                                       have hE1 := HG.out.keep (b := 1) h1lt h1ne HE1.out
                                       have HBB := Lib.hid (HG.out.bytes hb hbF HBY.out)
                                       have HUw := Lib.hid (HG.out.utf hF4 hFlt HU.out)
                                       have hbw := HG.out.grown.size
                                       clear g3
                                       have hc2 := HBB.out.at0 (k + 1) hkl1
                                       rw [← HC2.out, ← HA2.out] at hc2))
                                  exact ⟨⟨k + 2, (by first | rfl | (simp; done) | (simp; omega)), by have := HN.out; omega, by have := HN.out; omega, HNX.out, HG.out⟩, by simp only [intOf]; omega⟩
                              have m110 : ((a2 : Int) == 110) = false := by rw [beq_eq_false_iff_ne]; omega
                              by_cases s114 : a2 = 114
                              · subst s114
                                have hcv : c2 = 114 := UInt8.toNat_inj.1 (by rw [← HA2.out]; rfl)
                                rw [hcv] at HL2
                                have HNX := Lib.hid (HSI.out.go (ss_simple HL2.out (by decide)))
                                clear hcv
                                as_aux_lemma =>
                                  go_wp2_with (first
                                    | (go_at_call 25
                                       refine (noEsc_any 92 _).mono ?_
                                       rintro e w2 ⟨rfl, rfl⟩
                                       rw [show plainB 92 = false by decide])
                                    | (go_at_call 26
                                       refine (decRune_any (l.drop k) (by rw [HD.out]; exact List.cons_ne_nil _ _) b k (n - k) (cap - k) _ (by rw [List.length_drop, HN.out]) HSub.out HUw.out).mono ?_
                                       rintro e w2 ⟨b2, r, rn, rfl, hread⟩
                                       have HG := Lib.hid (HG.out.below b2)
                                       have hE0 := HG.out.keep (b := 0) h0lt h0ne HE0.out
                                       have hE1 := HG.out.keep (b := 1) h1lt h1ne HE1.out
                                       have HBB := Lib.hid (HG.out.bytes hb hbF HBY.out)
                                       have HUw := Lib.hid (HG.out.utf hF4 hFlt HU.out)
                                       have hbw := HG.out.grown.size
                                       obtain ⟨q1, q2, q3⟩ := hread.back 1 (.inl ⟨rfl, 92, _, HD.out, by decide⟩)
                                       have q4 : r = 92 := by rw [q3, HD.out]; rfl
                                       subst q1
                                       subst q4
                                       clear b2 hread q2 q3)
                                    | (go_at_call 27
                                       refine (join_any F _ _ HG.out.self).mono ?_
                                       rintro e w3 ⟨rfl, g3⟩
                                       have HG := Lib.hid (HG.out.trans g3)
                                       have hE0 := HG.out.keep (b := 0) h0lt h0ne HE0.out
                                       have hE1 := HG.out.keep (b := 1) h1lt h1ne HE1.out
                                       have HBB := Lib.hid (HG.out.bytes hb hbF HBY.out)
                                       have HUw := Lib.hid (HG.out.utf hF4 hFlt HU.out)
                                       have hbw := HG.out.grown.size
                                       clear g3
                                       have hc2 := HBB.out.at0 (k + 1) hkl1
                                       rw [← HC2.out, ← HA2.out] at hc2))
                                  exact ⟨⟨k + 2, (by first | rfl | (simp; done) | (simp; omega)), by have := HN.out; omega, by have := HN.out; omega, HNX.out, HG.out⟩, by simp only [intOf]; omega⟩
                              have m114 : ((a2 : Int) == 114) = false := by rw [beq_eq_false_iff_ne]; omega
                              by_cases s116 : a2 = 116
                              · subst s116
                                have hcv : c2 = 116 := UInt8.toNat_inj.1 (by rw [← HA2.out]; rfl)
                                rw [hcv] at HL2
                                have HNX := Lib.hid (HSI.out.go (ss_simple HL2.out (by decide)))
                                clear hcv
                                as_aux_lemma =>
                                  go_wp2_with (first
                                    | (go_at_call 25
                                       refine (noEsc_any 92 _).mono ?_
                                       rintro e w2 ⟨rfl, rfl⟩
                                       rw [show plainB 92 = false by decide])
                                    | (go_at_call 26
                                       refine (decRune_any (l.drop k) (by rw [HD.out]; exact List.cons_ne_nil _ _) b k (n - k) (cap - k) _ (by rw [List.length_drop, HN.out]) HSub.out HUw.out).mono ?_
                                       rintro e w2 ⟨b2, r, rn, rfl, hread⟩
                                       have HG := Lib.hid (HG.out.below b2)
                                       have hE0 := HG.out.keep (b := 0) h0lt h0ne HE0.out
                                       have hE1 := HG.out.keep (b := 1) h1lt h1ne HE1.out
                                       have HBB := Lib.hid (HG.out.bytes hb hbF HBY.out)
                                       have HUw := Lib.hid (HG.out.utf hF4 hFlt HU.out)
                                       have hbw := HG.out.grown.size
                                       obtain ⟨q1, q2, q3⟩ := hread.back 1 (.inl ⟨rfl, 92, _, HD.out, by decide⟩)
                                       have q4 : r = 92 := by rw [q3, HD.out]; rfl
                                       subst q1
                                       subst q4
                                       clear b2 hread q2 q3)
                                    | (go_at_call 27
                                       refine (join_any F _ _ HG.out.self).mono ?_
                                       rintro e w3 ⟨rfl, g3⟩
                                       have HG := Lib.hid (HG.out.trans g3)
                                       have hE0 := HG.out.keep (b := 0) h0lt h0ne HE0.out
                                       have hE1 := HG.out.keep (b := 1) h1lt h1ne HE1.out
                                       have HBB := Lib.hid (HG.out.bytes hb hbF HBY.out)
                                       have HUw := Lib.hid (HG.out.utf hF4 hFlt HU.out)
                                       have hbw := HG.out.grown.size
                                       clear g3
                                       have hc2 := HBB.out.at0 (k + 1) hkl1
                                       rw [← HC2.out, ← HA2.out] at hc2))
                                  exact ⟨⟨k + 2, (by first | rfl | (simp; done) | (simp; omega)), by have := HN.out; omega, by have := HN.out; omega, HNX.out, HG.out⟩, by simp only [intOf]; omega⟩
                              have m116 : ((a2 : Int) == 116) = false := by rw [beq_eq_false_iff_ne]; omega
                              by_cases s117 : a2 = 117
                              · subst s117
                                have hcv : c2 = 117 := UInt8.toNat_inj.1 (by rw [← HA2.out]; rfl)
                                rw [hcv] at HL2
                                clear hcv
                                as_aux_lemma =>
                                  by_cases hs6 : n < k + 6
                                  · have i6 : (n : Int) < (k : Int) + 6 := by omega
                                    cases hpf : prefB false (l.drop k) with
                                    | true =>
                                      have HRUN := Lib.hid (HSI.out.short (ss_u_short HL2.out (by rw [HDL.out]; omega) hpf))
                                      have HPF := Lib.hid hpf
                                      clear hpf
                                      as_aux_lemma =>
                                        go_wp2_with (first
                                          | (go_at_call 25
                                             refine (noEsc_any 92 _).mono ?_
                                             rintro e w2 ⟨rfl, rfl⟩
                                             rw [show plainB 92 = false by decide])
                                          | (go_at_call 26
                                             refine (decRune_any (l.drop k) (by rw [HD.out]; exact List.cons_ne_nil _ _) b k (n - k) (cap - k) _ (by rw [List.length_drop, HN.out]) HSub.out HUw.out).mono ?_
                                             rintro e w2 ⟨b2, r, rn, rfl, hread⟩
                                             have HG := Lib.hid (HG.out.below b2)
                                             have hE0 := HG.out.keep (b := 0) h0lt h0ne HE0.out
                                             have hE1 := HG.out.keep (b := 1) h1lt h1ne HE1.out
                                             have HBB := Lib.hid (HG.out.bytes hb hbF HBY.out)
                                             have HUw := Lib.hid (HG.out.utf hF4 hFlt HU.out)
                                             have hbw := HG.out.grown.size
                                             obtain ⟨q1, q2, q3⟩ := hread.back 1 (.inl ⟨rfl, 92, _, HD.out, by decide⟩)
                                             have q4 : r = 92 := by rw [q3, HD.out]; rfl
                                             subst q1
                                             subst q4
                                             clear b2 hread q2 q3)
                                          | (go_at_call 27
                                             refine (join_any F _ _ HG.out.self).mono ?_
                                             rintro e w3 ⟨rfl, g3⟩
                                             have HG := Lib.hid (HG.out.trans g3)
                                             have hE0 := HG.out.keep (b := 0) h0lt h0ne HE0.out
                                             have hE1 := HG.out.keep (b := 1) h1lt h1ne HE1.out
                                             have HBB := Lib.hid (HG.out.bytes hb hbF HBY.out)
                                             have HUw := Lib.hid (HG.out.utf hF4 hFlt HU.out)
                                             have hbw := HG.out.grown.size
                                             clear g3
                                             have hc2 := HBB.out.at0 (k + 1) hkl1
                                             rw [← HC2.out, ← HA2.out] at hc2))
                                        refine (pref0_any false (l.drop k) (by rw [HDL.out]; omega) b k _ _ _ HDL.out.symm (by have := HBB.out.sub k (l.length - k); rw [Nat.zero_add, List.take_of_length_le (by rw [List.length_drop]; omega)] at this; exact this)).mono ?_
                                        rintro e w4 ⟨rfl, rfl⟩
                                        rw [HPF.out]
                                        go_wp2_with fail
                                        go_big_quiet (fail)
                                        go_wp2_with fail
                                        go_ret2
                                        exact ⟨⟨_, _, _, HRUN.out, (by first | rfl | (simp <;> omega) | (congr 4 <;> omega)), fun e => (by cases e), fun _ => rfl, fun e => (by cases e)⟩, HG.out.drewN _⟩
                                    | false =>
                                      have HRUN := Lib.hid (HSI.out.bad (ss_u_not HL2.out (by rw [HDL.out]; omega) hpf))
                                      have HPF := Lib.hid hpf
                                      clear hpf
                                      as_aux_lemma =>
                                        go_wp2_with (first
                                          | (go_at_call 25
                                             refine (noEsc_any 92 _).mono ?_
                                             rintro e w2 ⟨rfl, rfl⟩
                                             rw [show plainB 92 = false by decide])
                                          | (go_at_call 26
                                             refine (decRune_any (l.drop k) (by rw [HD.out]; exact List.cons_ne_nil _ _) b k (n - k) (cap - k) _ (by rw [List.length_drop, HN.out]) HSub.out HUw.out).mono ?_
                                             rintro e w2 ⟨b2, r, rn, rfl, hread⟩
                                             have HG := Lib.hid (HG.out.below b2)
                                             have hE0 := HG.out.keep (b := 0) h0lt h0ne HE0.out
                                             have hE1 := HG.out.keep (b := 1) h1lt h1ne HE1.out
                                             have HBB := Lib.hid (HG.out.bytes hb hbF HBY.out)
                                             have HUw := Lib.hid (HG.out.utf hF4 hFlt HU.out)
                                             have hbw := HG.out.grown.size
                                             obtain ⟨q1, q2, q3⟩ := hread.back 1 (.inl ⟨rfl, 92, _, HD.out, by decide⟩)
                                             have q4 : r = 92 := by rw [q3, HD.out]; rfl
                                             subst q1
                                             subst q4
                                             clear b2 hread q2 q3)
                                          | (go_at_call 27
                                             refine (join_any F _ _ HG.out.self).mono ?_
                                             rintro e w3 ⟨rfl, g3⟩
                                             have HG := Lib.hid (HG.out.trans g3)
                                             have hE0 := HG.out.keep (b := 0) h0lt h0ne HE0.out
                                             have hE1 := HG.out.keep (b := 1) h1lt h1ne HE1.out
                                             have HBB := Lib.hid (HG.out.bytes hb hbF HBY.out)
                                             have HUw := Lib.hid (HG.out.utf hF4 hFlt HU.out)
                                             have hbw := HG.out.grown.size
                                             clear g3
                                             have hc2 := HBB.out.at0 (k + 1) hkl1
                                             rw [← HC2.out, ← HA2.out] at hc2))
                                        refine (pref0_any false (l.drop k) (by rw [HDL.out]; omega) b k _ _ _ HDL.out.symm (by have := HBB.out.sub k (l.length - k); rw [Nat.zero_add, List.take_of_length_le (by rw [List.length_drop]; omega)] at this; exact this)).mono ?_
                                        rintro e w4 ⟨rfl, rfl⟩
                                        rw [HPF.out]
                                        go_wp2_with (first
                                          | (go_at_call 27
                                             refine (join_any F _ _ HG.out.self).mono ?_
                                             rintro e w3 ⟨rfl, g3⟩
                                             have HG := Lib.hid (HG.out.trans g3)
                                             have hE0 := HG.out.keep (b := 0) h0lt h0ne HE0.out
                                             have hE1 := HG.out.keep (b := 1) h1lt h1ne HE1.out
                                             have HBB := Lib.hid (HG.out.bytes hb hbF HBY.out)
                                             have HUw := Lib.hid (HG.out.utf hF4 hFlt HU.out)
                                             have hbw := HG.out.grown.size
                                             clear g3))
                                        go_wp2_with fail
                                        refine (newEsc' (l.drop k) b k _ _ _ HDL.out.symm (by have := HBB.out.sub k (l.length - k); rw [Nat.zero_add, List.take_of_length_le (by rw [List.length_drop]; omega)] at this; exact this)).mono ?_
                                        rintro e w5 ⟨b5, err, rfl, hbad⟩
                                        have HG := Lib.hid (HG.out.below b5)
                                        have HBAD := Lib.hid hbad
                                        clear b5 hbad
                                        go_wp2_with fail
                                        go_ret2
                                        exact ⟨⟨_, _, _, HRUN.out, (by first | rfl | (simp <;> omega) | (congr 4 <;> omega)), fun e => (by cases e), fun e => (by cases e), fun _ => .inl HBAD.out⟩, HG.out⟩
                                  · have i6 : ¬ (n : Int) < (k : Int) + 6 := by omega
                                    have hl4 : ((l.drop (k + 2)).take 4).length = 4 := by rw [List.length_take, List.length_drop]; have := HN.out; omega
                                    have HL4 := Lib.hid hl4
                                    clear hl4
                                    as_aux_lemma =>
                                      cases hx1 : hex4 ((l.drop (k + 2)).take 4) with
                                      | none =>
                                        have HX1 := Lib.hid hx1
                                        clear hx1
                                        have HRUN := Lib.hid (HSI.out.bad (ss_u_bad HL2.out (by rw [HDL.out]; omega) (by rw [List.drop_drop]; exact HX1.out)))
                                        as_aux_lemma =>
                                          go_wp2_with (first
                                            | (go_at_call 25
                                               refine (noEsc_any 92 _).mono ?_
                                               rintro e w2 ⟨rfl, rfl⟩
                                               rw [show plainB 92 = false by decide])
                                            | (go_at_call 26
                                               refine (decRune_any (l.drop k) (by rw [HD.out]; exact List.cons_ne_nil _ _) b k (n - k) (cap - k) _ (by rw [List.length_drop, HN.out]) HSub.out HUw.out).mono ?_
                                               rintro e w2 ⟨b2, r, rn, rfl, hread⟩
                                               have HG := Lib.hid (HG.out.below b2)
                                               have hE0 := HG.out.keep (b := 0) h0lt h0ne HE0.out
                                               have hE1 := HG.out.keep (b := 1) h1lt h1ne HE1.out
                                               have HBB := Lib.hid (HG.out.bytes hb hbF HBY.out)
                                               have HUw := Lib.hid (HG.out.utf hF4 hFlt HU.out)
                                               have hbw := HG.out.grown.size
                                               obtain ⟨q1, q2, q3⟩ := hread.back 1 (.inl ⟨rfl, 92, _, HD.out, by decide⟩)
                                               have q4 : r = 92 := by rw [q3, HD.out]; rfl
                                               subst q1
                                               subst q4
                                               clear b2 hread q2 q3)
                                            | (go_at_call 27
                                               refine (join_any F _ _ HG.out.self).mono ?_
                                               rintro e w3 ⟨rfl, g3⟩
                                               have HG := Lib.hid (HG.out.trans g3)
                                               have hE0 := HG.out.keep (b := 0) h0lt h0ne HE0.out
                                               have hE1 := HG.out.keep (b := 1) h1lt h1ne HE1.out
                                               have HBB := Lib.hid (HG.out.bytes hb hbF HBY.out)
                                               have HUw := Lib.hid (HG.out.utf hF4 hFlt HU.out)
                                               have hbw := HG.out.grown.size
                                               clear g3
                                               have hc2 := HBB.out.at0 (k + 1) hkl1
                                               rw [← HC2.out, ← HA2.out] at hc2))
                                          refine (parse4_none ((l.drop (k + 2)).take 4) HL4.out HX1.out b (k + 2) _ _ _ (by omega) (by have := HBB.out.sub (k + 2) 4; rwa [Nat.zero_add] at this)).mono ?_
                                          rintro e w4 ⟨rfl, rfl⟩
                                          go_wp2_with (first
                                            | (go_at_call 27
                                               refine (join_any F _ _ HG.out.self).mono ?_
                                               rintro e w3 ⟨rfl, g3⟩
                                               have HG := Lib.hid (HG.out.trans g3)
                                               have hE0 := HG.out.keep (b := 0) h0lt h0ne HE0.out
                                               have hE1 := HG.out.keep (b := 1) h1lt h1ne HE1.out
                                               have HBB := Lib.hid (HG.out.bytes hb hbF HBY.out)
                                               have HUw := Lib.hid (HG.out.utf hF4 hFlt HU.out)
                                               have hbw := HG.out.grown.size
                                               clear g3))
                                          go_wp2_with fail
                                          refine (newEsc' ((l.drop k).take 6) b k _ _ _ (by rw [List.length_take, HDL.out]; omega) (by have := HBB.out.sub k 6; rwa [Nat.zero_add] at this)).mono ?_
                                          rintro e w5 ⟨b5, err, rfl, hbad⟩
                                          have HG := Lib.hid (HG.out.below b5)
                                          have HBAD := Lib.hid hbad
                                          clear b5 hbad
                                          go_wp2_with fail
                                          go_ret2
                                          exact ⟨⟨_, _, _, HRUN.out, (by first | rfl | (simp <;> omega) | (congr 4 <;> omega)), fun e => (by cases e), fun e => (by cases e), fun _ => .inl HBAD.out⟩, HG.out⟩
                                      | some x1 =>
                                        have HX1 := Lib.hid hx1
                                        have HB1 := Lib.hid (hex4_lt hx1)
                                        obtain ⟨X, hX⟩ : ∃ X : Int, (x1 : Int) = X := ⟨_, rfl⟩
                                        have hX0 : 0 ≤ X := by omega
                                        have hX1 : X < 65536 := by have := HB1.out; omega
                                        have HXI := Lib.hid hX
                                        clear hx1 hX
                                        as_aux_lemma =>
                                          go_wp2_with (first
                                            | (go_at_call 25
                                               refine (noEsc_any 92 _).mono ?_
                                               rintro e w2 ⟨rfl, rfl⟩
                                               rw [show plainB 92 = false by decide])
                                            | (go_at_call 26
                                               refine (decRune_any (l.drop k) (by rw [HD.out]; exact List.cons_ne_nil _ _) b k (n - k) (cap - k) _ (by rw [List.length_drop, HN.out]) HSub.out HUw.out).mono ?_
                                               rintro e w2 ⟨b2, r, rn, rfl, hread⟩
                                               have HG := Lib.hid (HG.out.below b2)
                                               have hE0 := HG.out.keep (b := 0) h0lt h0ne HE0.out
                                               have hE1 := HG.out.keep (b := 1) h1lt h1ne HE1.out
                                               have HBB := Lib.hid (HG.out.bytes hb hbF HBY.out)
                                               have HUw := Lib.hid (HG.out.utf hF4 hFlt HU.out)
                                               have hbw := HG.out.grown.size
                                               obtain ⟨q1, q2, q3⟩ := hread.back 1 (.inl ⟨rfl, 92, _, HD.out, by decide⟩)
                                               have q4 : r = 92 := by rw [q3, HD.out]; rfl
                                               subst q1
                                               subst q4
                                               clear b2 hread q2 q3)
                                            | (go_at_call 27
                                               refine (join_any F _ _ HG.out.self).mono ?_
                                               rintro e w3 ⟨rfl, g3⟩
                                               have HG := Lib.hid (HG.out.trans g3)
                                               have hE0 := HG.out.keep (b := 0) h0lt h0ne HE0.out
                                               have hE1 := HG.out.keep (b := 1) h1lt h1ne HE1.out
                                               have HBB := Lib.hid (HG.out.bytes hb hbF HBY.out)
                                               have HUw := Lib.hid (HG.out.utf hF4 hFlt HU.out)
                                               have hbw := HG.out.grown.size
                                               clear g3
                                               have hc2 := HBB.out.at0 (k + 1) hkl1
                                               rw [← HC2.out, ← HA2.out] at hc2))
                                          refine (parse4I ((l.drop (k + 2)).take 4) HL4.out HX1.out X HXI.out b (k + 2) _ _ _ (by omega) (by have := HBB.out.sub (k + 2) 4; rwa [Nat.zero_add] at this)).mono ?_
                                          rintro e w4 ⟨rfl, rfl⟩
                                          go_upto_block 7 with fail
                                          go_cut [8] (fun s wx => s = .int .i64 (k : Int) ∧ Fg F w wx)
                                          case first =>
                                            by_cases x8 : X = 8
                                            · subst x8
                                              as_aux_lemma =>
                                                go_wp2_with (first
                                                  | (go_at_call 27
                                                     refine (join_any F _ _ HG.out.self).mono ?_
                                                     rintro e w3 ⟨rfl, g3⟩
                                                     have HG := Lib.hid (HG.out.trans g3)
                                                     have hE0 := HG.out.keep (b := 0) h0lt h0ne HE0.out
                                                     have hE1 := HG.out.keep (b := 1) h1lt h1ne HE1.out
                                                     have HBB := Lib.hid (HG.out.bytes hb hbF HBY.out)
                                                     have HUw := Lib.hid (HG.out.utf hF4 hFlt HU.out)
                                                     have hbw := HG.out.grown.size
                                                     clear g3))
                                                go_meet
                                                exact ⟨rfl, HG.out⟩
                                            have nx8 : (X == 8) = false := by rw [beq_eq_false_iff_ne]; exact x8
                                            by_cases x12 : X = 12
                                            · subst x12
                                              as_aux_lemma =>
                                                go_wp2_with (first
                                                  | (go_at_call 27
                                                     refine (join_any F _ _ HG.out.self).mono ?_
                                                     rintro e w3 ⟨rfl, g3⟩
                                                     have HG := Lib.hid (HG.out.trans g3)
                                                     have hE0 := HG.out.keep (b := 0) h0lt h0ne HE0.out
                                                     have hE1 := HG.out.keep (b := 1) h1lt h1ne HE1.out
                                                     have HBB := Lib.hid (HG.out.bytes hb hbF HBY.out)
                                                     have HUw := Lib.hid (HG.out.utf hF4 hFlt HU.out)
                                                     have hbw := HG.out.grown.size
                                                     clear g3))
                                                go_meet
                                                exact ⟨rfl, HG.out⟩
                                            have nx12 : (X == 12) = false := by rw [beq_eq_false_iff_ne]; exact x12
                                            by_cases x10 : X = 10
                                            · subst x10
                                              as_aux_lemma =>
                                                go_wp2_with (first
                                                  | (go_at_call 27
                                                     refine (join_any F _ _ HG.out.self).mono ?_
                                                     rintro e w3 ⟨rfl, g3⟩
                                                     have HG := Lib.hid (HG.out.trans g3)
                                                     have hE0 := HG.out.keep (b := 0) h0lt h0ne HE0.out
                                                     have hE1 := HG.out.keep (b := 1) h1lt h1ne HE1.out
                                                     have HBB := Lib.hid (HG.out.bytes hb hbF HBY.out)
                                                     have HUw := Lib.hid (HG.out.utf hF4 hFlt HU.out)
                                                     have hbw := HG.out.grown.size
                                                     clear g3))
                                                go_meet
                                                exact ⟨rfl, HG.out⟩
                                            have nx10 : (X == 10) = false := by rw [beq_eq_false_iff_ne]; exact x10
                                            by_cases x13 : X = 13
                                            · subst x13
                                              as_aux_lemma =>
                                                go_wp2_with (first
                                                  | (go_at_call 27
                                                     refine (join_any F _ _ HG.out.self).mono ?_
                                                     rintro e w3 ⟨rfl, g3⟩
                                                     have HG := Lib.hid (HG.out.trans g3)
                                                     have hE0 := HG.out.keep (b := 0) h0lt h0ne HE0.out
                                                     have hE1 := HG.out.keep (b := 1) h1lt h1ne HE1.out
                                                     have HBB := Lib.hid (HG.out.bytes hb hbF HBY.out)
                                                     have HUw := Lib.hid (HG.out.utf hF4 hFlt HU.out)
                                                     have hbw := HG.out.grown.size
                                                     clear g3))
                                                go_meet
                                                exact ⟨rfl, HG.out⟩
                                            have nx13 : (X == 13) = false := by rw [beq_eq_false_iff_ne]; exact x13
                                            by_cases x9 : X = 9
                                            · subst x9
                                              as_aux_lemma =>
                                                go_wp2_with (first
                                                  | (go_at_call 27
                                                     refine (join_any F _ _ HG.out.self).mono ?_
                                                     rintro e w3 ⟨rfl, g3⟩
                                                     have HG := Lib.hid (HG.out.trans g3)
                                                     have hE0 := HG.out.keep (b := 0) h0lt h0ne HE0.out
                                                     have hE1 := HG.out.keep (b := 1) h1lt h1ne HE1.out
                                                     have HBB := Lib.hid (HG.out.bytes hb hbF HBY.out)
                                                     have HUw := Lib.hid (HG.out.utf hF4 hFlt HU.out)
                                                     have hbw := HG.out.grown.size
                                                     clear g3))
                                                go_meet
                                                exact ⟨rfl, HG.out⟩
                                            have nx9 : (X == 9) = false := by rw [beq_eq_false_iff_ne]; exact x9
                                            by_cases x32 : 32 ≤ X
                                            · as_aux_lemma =>
                                                go_wp2_with (first
                                                  | (go_at_call 27
                                                     refine (join_any F _ _ HG.out.self).mono ?_
                                                     rintro e w3 ⟨rfl, g3⟩
                                                     have HG := Lib.hid (HG.out.trans g3)
                                                     have hE0 := HG.out.keep (b := 0) h0lt h0ne HE0.out
                                                     have hE1 := HG.out.keep (b := 1) h1lt h1ne HE1.out
                                                     have HBB := Lib.hid (HG.out.bytes hb hbF HBY.out)
                                                     have HUw := Lib.hid (HG.out.utf hF4 hFlt HU.out)
                                                     have hbw := HG.out.grown.size
                                                     clear g3))
                                                go_meet
                                                exact ⟨rfl, HG.out⟩
                                            go_wp2_with fail
                                            go_loopw [197] (fun i wx => ∃ j : Nat, i = .int .i64 j ∧ j ≤ 4 ∧ Fg F w wx) (fun i _ => 4 - (intOf i).toNat)
                                            case atStart => exact ⟨0, rfl, by omega, HG.out⟩
                                            case round =>
                                              obtain ⟨j, rfl, hj, hgj⟩ := hrel
                                              have HG := Lib.hid hgj
                                              clear hgj
                                              have hE0 := HG.out.keep (b := 0) h0lt h0ne HE0.out
                                              have hE1 := HG.out.keep (b := 1) h1lt h1ne HE1.out
                                              have HBB := Lib.hid (HG.out.bytes hb hbF HBY.out)
                                              have HUw := Lib.hid (HG.out.utf hF4 hFlt HU.out)
                                              have hbw := HG.out.grown.size
                                              by_cases hj4 : j < 4
                                              · have j0 : (0 : Int) ≤ (j : Int) := by omega
                                                have j1 : (j : Int) < 4 := by omega
                                                have hb4 := HBB.out.at0 (k + 2 + j) (by have := HN.out; omega)
                                                obtain ⟨y, hy⟩ : ∃ y : Nat, (l[k + 2 + j]'(by have := HN.out; omega)).toNat = y := ⟨_, rfl⟩
                                                rw [hy] at hb4
                                                by_cases y1 : (65 : Int) ≤ (y : Int)
                                                · by_cases y2 : (y : Int) ≤ 70
                                                  · go_wp2_with (first | (go_at_call 27; refine (join_any F _ _ HG.out.self).mono ?_; rintro e w3 ⟨rfl, g3⟩; have HG := Lib.hid (HG.out.trans g3); have hE0 := HG.out.keep (b := 0) h0lt h0ne HE0.out; have hE1 := HG.out.keep (b := 1) h1lt h1ne HE1.out; have HBB := Lib.hid (HG.out.bytes hb hbF HBY.out); have HUw := Lib.hid (HG.out.utf hF4 hFlt HU.out); have hbw := HG.out.grown.size; clear g3))
                                                    exact ⟨⟨j + 1, by simp, by omega, HG.out⟩, by simp only [intOf]; omega⟩
                                                  · go_wp2_with fail
                                                    exact ⟨⟨j + 1, by simp, by omega, HG.out⟩, by simp only [intOf]; omega⟩
                                                · go_wp2_with fail
                                                  exact ⟨⟨j + 1, by simp, by omega, HG.out⟩, by simp only [intOf]; omega⟩
                                              · obtain rfl : j = 4 := by omega
                                                go_wp2_with fail
                                                go_meet
                                                exact ⟨rfl, HG.out⟩
                                          case rest =>
                                          obtain ⟨rfl, hgx⟩ := hcut
                                          have HG := Lib.hid hgx
                                          clear hgx
                                          have hE0 := HG.out.keep (b := 0) h0lt h0ne HE0.out
                                          have hE1 := HG.out.keep (b := 1) h1lt h1ne HE1.out
                                          have HBB := Lib.hid (HG.out.bytes hb hbF HBY.out)
                                          have HUw := Lib.hid (HG.out.utf hF4 hFlt HU.out)
                                          have hbw := HG.out.grown.size
                                          as_aux_lemma =>
                                            by_cases hsr : vf = true ∧ 55296 ≤ x1 ∧ x1 < 57344
                                            · have hstep := ss_u_unit HL2.out (by rw [HDL.out]; omega) (by rw [List.drop_drop]; exact HX1.out) hsr
                                              obtain ⟨rfl, hsr⟩ := hsr
                                              have HStep := Lib.hid hstep
                                              have HSR := Lib.hid hsr
                                              clear hstep hsr
                                              have hsub6 : (k : Int) + 6 - 6 = (k : Int) := by omega
                                              as_aux_lemma =>
                                                by_cases hs12 : n < k + 12
                                                · have i12 : (n : Int) < (k : Int) + 6 + 6 := by omega
                                                  by_cases hn6 : n = k + 6
                                                  · have HPF := Lib.hid (show prefB true (l.drop (k + 6)) = true by rw [List.drop_of_length_le (by have := HN.out; omega)]; rfl)
                                                    have hz0 : n - (k + 6) = 0 := by omega
                                                    have hz1 : (k : Int) + 6 ≤ (n : Int) := by omega
                                                    have HRUN := Lib.hid (HSI.out.short (HStep.out.trans (su_cut (by rw [HDL.out]; omega) (by rw [List.drop_drop]; exact HPF.out))))
                                                    as_aux_lemma =>
                                                      go_wp2_with (first
                                                        | (go_at_call 31
                                                           refine (surrI X _ (by have := HSR.out; have := HXI.out; omega) (by have := HSR.out; have := HXI.out; omega)).mono ?_
                                                           rintro e w5 ⟨rfl, rfl⟩))
                                                      all_goals
                                                        refine (prefix0 _ _ _ true _ (by omega)).mono ?_
                                                        rintro e w6 ⟨rfl, rfl⟩
                                                        go_wp2_with fail
                                                        go_big_quiet (fail)
                                                        go_wp2_with fail
                                                        go_ret2
                                                        exact ⟨⟨_, _, _, HRUN.out, (by first | rfl | (simp <;> omega) | (congr 4 <;> omega)), fun e => (by cases e), fun _ => rfl, fun e => (by cases e)⟩, HG.out.drewN _⟩
                                                  have hn7 : (k : Int) + 6 < (n : Int) := by omega
                                                  have hn8 : (k : Int) + 6 < (cap : Int) := by omega
                                                  clear hn6
                                                  have hdl6 : n - (k + 6) = (l.drop (k + 6)).length := by rw [List.length_drop, HN.out]
                                                  have HD6 := Lib.hid hdl6
                                                  clear hdl6
                                                  cases hpf : prefB true (l.drop (k + 6)) with
                                                  | true =>
                                                    have HRUN := Lib.hid (HSI.out.short (HStep.out.trans (su_cut (by rw [HDL.out]; omega) (by rw [List.drop_drop]; exact hpf))))
                                                    have HPF := Lib.hid hpf
                                                    clear hpf
                                                    as_aux_lemma =>
                                                      go_wp2_with (first
                                                        | (go_at_call 31
                                                           refine (surrI X _ (by have := HSR.out; have := HXI.out; omega) (by have := HSR.out; have := HXI.out; omega)).mono ?_
                                                           rintro e w5 ⟨rfl, rfl⟩))
                                                      refine (pref0_any true (l.drop (k + 6)) (by rw [← HD6.out]; omega) b (k + 6) _ _ _ HD6.out (by have := HBB.out.sub (k + 6) (l.length - (k + 6)); rw [Nat.zero_add, List.take_of_length_le (by rw [List.length_drop]; omega)] at this; exact this)).mono ?_
                                                      rintro e w6 ⟨rfl, rfl⟩
                                                      rw [HPF.out]
                                                      go_wp2_with fail
                                                      go_big_quiet (fail)
                                                      go_wp2_with fail
                                                      go_ret2
                                                      exact ⟨⟨_, _, _, HRUN.out, (by first | rfl | (simp <;> omega) | (congr 4 <;> omega)), fun e => (by cases e), fun _ => rfl, fun e => (by cases e)⟩, HG.out.drewN _⟩
                                                  | false =>
                                                    have HRUN := Lib.hid (HSI.out.bad (HStep.out.trans (su_cut_no (by rw [HDL.out]; omega) (by rw [List.drop_drop]; exact hpf))))
                                                    have HPF := Lib.hid hpf
                                                    clear hpf
                                                    as_aux_lemma =>
                                                      go_wp2_with (first
                                                        | (go_at_call 31
                                                           refine (surrI X _ (by have := HSR.out; have := HXI.out; omega) (by have := HSR.out; have := HXI.out; omega)).mono ?_
                                                           rintro e w5 ⟨rfl, rfl⟩))
                                                      refine (pref0_any true (l.drop (k + 6)) (by rw [← HD6.out]; omega) b (k + 6) _ _ _ HD6.out (by have := HBB.out.sub (k + 6) (l.length - (k + 6)); rw [Nat.zero_add, List.take_of_length_le (by rw [List.length_drop]; omega)] at this; exact this)).mono ?_
                                                      rintro e w6 ⟨rfl, rfl⟩
                                                      rw [HPF.out]
                                                      go_wp2_with (first
                                                        | (go_at_call 27
                                                           refine (join_any F _ _ HG.out.self).mono ?_
                                                           rintro e w3 ⟨rfl, g3⟩
                                                           have HG := Lib.hid (HG.out.trans g3)
                                                           have hE0 := HG.out.keep (b := 0) h0lt h0ne HE0.out
                                                           have hE1 := HG.out.keep (b := 1) h1lt h1ne HE1.out
                                                           have HBB := Lib.hid (HG.out.bytes hb hbF HBY.out)
                                                           have HUw := Lib.hid (HG.out.utf hF4 hFlt HU.out)
                                                           have hbw := HG.out.grown.size
                                                           clear g3))
                                                      go_wp2_with fail
                                                      refine (newEsc' (l.drop k) b k _ _ _ (by rw [HDL.out] <;> omega) (by have := HBB.out.sub k (l.length - k); rw [Nat.zero_add, List.take_of_length_le (by rw [List.length_drop]; omega)] at this; exact this)).mono ?_
                                                      rintro e w5 ⟨b5, err, rfl, hbad⟩
                                                      have HG := Lib.hid (HG.out.below b5)
                                                      have HBAD := Lib.hid hbad
                                                      clear b5 hbad
                                                      go_wp2_with fail
                                                      go_ret2
                                                      exact ⟨⟨_, _, _, HRUN.out, (by first | rfl | (simp <;> omega) | (congr 4 <;> omega)), fun e => (by cases e), fun e => (by cases e), fun _ => .inl HBAD.out⟩, HG.out⟩
                                                · have i12 : ¬ (n : Int) < (k : Int) + 6 + 6 := by omega
                                                  have hl8 : ((l.drop (k + 6 + 2)).take 4).length = 4 := by rw [List.length_take, List.length_drop]; have := HN.out; omega
                                                  have HL8 := Lib.hid hl8
                                                  clear hl8
                                                  have hk6 : k + 6 < l.length := by have := HN.out; omega
                                                  have hk7 : k + 6 + 1 < l.length := by have := HN.out; omega
                                                  have hn7 : (k : Int) + 6 < (n : Int) := by omega
                                                  have hn8 : (k : Int) + 6 + 1 < (n : Int) := by omega
                                                  obtain ⟨a6, ha6⟩ : ∃ a6 : Nat, a6 = (l[k + 6]).toNat := ⟨_, rfl⟩
                                                  obtain ⟨a7, ha7⟩ : ∃ a7 : Nat, a7 = (l[k + 6 + 1]).toNat := ⟨_, rfl⟩
                                                  have hc6 := HBB.out.at0 (k + 6) hk6
                                                  rw [← ha6] at hc6
                                                  have hc7 := HBB.out.at0 (k + 6 + 1) hk7
                                                  rw [← ha7] at hc7
                                                  have hd67 : ((l.drop k).drop 6).take 2 = [l[k + 6], l[k + 6 + 1]] := by
                                                    rw [List.drop_drop, List.drop_eq_getElem_cons hk6, List.drop_eq_getElem_cons hk7]
                                                    rfl
                                                  have HD67 := Lib.hid hd67
                                                  have HA6 := Lib.hid ha6
                                                  have HA7 := Lib.hid ha7
                                                  clear ha6 ha7 hd67
                                                  as_aux_lemma =>
                                                    go_wp2_with (first
                                                      | (go_at_call 31
                                                         refine (surrI X _ (by have := HSR.out; have := HXI.out; omega) (by have := HSR.out; have := HXI.out; omega)).mono ?_
                                                         rintro e w5 ⟨rfl, rfl⟩))
                                                    cases hx2 : hex4 ((l.drop (k + 6 + 2)).take 4) with
                                                    | none =>
                                                      have HX2 := Lib.hid hx2
                                                      clear hx2
                                                      have HRUN := Lib.hid (HSI.out.bad (HStep.out.trans (su_none (by rw [HDL.out]; omega) (by rw [List.drop_drop]; exact HX2.out))))
                                                      refine (parse4_none ((l.drop (k + 6 + 2)).take 4) HL8.out HX2.out b (k + 6 + 2) _ _ _ (by omega) (by have := HBB.out.sub (k + 6 + 2) 4; rwa [Nat.zero_add] at this)).mono ?_
                                                      rintro e w4 ⟨rfl, rfl⟩
                                                      by_cases e6 : a6 = 92
                                                      · subst e6
                                                        by_cases e7 : a7 = 117
                                                        · subst e7
                                                          as_aux_lemma =>
                                                            go_wp2_with (first
                                                              | (go_at_call 27
                                                                 refine (join_any F _ _ HG.out.self).mono ?_
                                                                 rintro e w3 ⟨rfl, g3⟩
                                                                 have HG := Lib.hid (HG.out.trans g3)
                                                                 have hE0 := HG.out.keep (b := 0) h0lt h0ne HE0.out
                                                                 have hE1 := HG.out.keep (b := 1) h1lt h1ne HE1.out
                                                                 have HBB := Lib.hid (HG.out.bytes hb hbF HBY.out)
                                                                 have HUw := Lib.hid (HG.out.utf hF4 hFlt HU.out)
                                                                 have hbw := HG.out.grown.size
                                                                 clear g3))
                                                            go_wp2_with fail
                                                            refine (newEsc' ((l.drop k).take 12) b k _ _ _ (by rw [List.length_take, HDL.out]; omega) (by have := HBB.out.sub k 12; rwa [Nat.zero_add] at this)).mono ?_
                                                            rintro e w5 ⟨b5, err, rfl, hbad⟩
                                                            have HG := Lib.hid (HG.out.below b5)
                                                            have HBAD := Lib.hid hbad
                                                            clear b5 hbad
                                                            go_wp2_with fail
                                                            go_ret2
                                                            exact ⟨⟨_, _, _, HRUN.out, (by first | rfl | (simp <;> omega) | (congr 4 <;> omega)), fun e => (by cases e), fun e => (by cases e), fun _ => .inl HBAD.out⟩, HG.out⟩
                                                        · have z7 : ((a7 : Int) != 117) = true := by rw [bne_iff_ne]; omega
                                                          have y7 : ((a7 : Int) == 117) = false := by rw [beq_eq_false_iff_ne]; omega
                                                          as_aux_lemma =>
                                                            go_wp2_with (first
                                                              | (go_at_call 27
                                                                 refine (join_any F _ _ HG.out.self).mono ?_
                                                                 rintro e w3 ⟨rfl, g3⟩
                                                                 have HG := Lib.hid (HG.out.trans g3)
                                                                 have hE0 := HG.out.keep (b := 0) h0lt h0ne HE0.out
                                                                 have hE1 := HG.out.keep (b := 1) h1lt h1ne HE1.out
                                                                 have HBB := Lib.hid (HG.out.bytes hb hbF HBY.out)
                                                                 have HUw := Lib.hid (HG.out.utf hF4 hFlt HU.out)
                                                                 have hbw := HG.out.grown.size
                                                                 clear g3))
                                                            go_wp2_with fail
                                                            refine (newEsc' ((l.drop k).take 12) b k _ _ _ (by rw [List.length_take, HDL.out]; omega) (by have := HBB.out.sub k 12; rwa [Nat.zero_add] at this)).mono ?_
                                                            rintro e w5 ⟨b5, err, rfl, hbad⟩
                                                            have HG := Lib.hid (HG.out.below b5)
                                                            have HBAD := Lib.hid hbad
                                                            clear b5 hbad
                                                            go_wp2_with fail
                                                            go_ret2
                                                            exact ⟨⟨_, _, _, HRUN.out, (by first | rfl | (simp <;> omega) | (congr 4 <;> omega)), fun e => (by cases e), fun e => (by cases e), fun _ => .inl HBAD.out⟩, HG.out⟩
                                                      · have z6 : ((a6 : Int) != 92) = true := by rw [bne_iff_ne]; omega
                                                        have y6 : ((a6 : Int) == 92) = false := by rw [beq_eq_false_iff_ne]; omega
                                                        as_aux_lemma =>
                                                          go_wp2_with (first
                                                            | (go_at_call 27
                                                               refine (join_any F _ _ HG.out.self).mono ?_
                                                               rintro e w3 ⟨rfl, g3⟩
                                                               have HG := Lib.hid (HG.out.trans g3)
                                                               have hE0 := HG.out.keep (b := 0) h0lt h0ne HE0.out
                                                               have hE1 := HG.out.keep (b := 1) h1lt h1ne HE1.out
                                                               have HBB := Lib.hid (HG.out.bytes hb hbF HBY.out)
                                                               have HUw := Lib.hid (HG.out.utf hF4 hFlt HU.out)
                                                               have hbw := HG.out.grown.size
                                                               clear g3))
                                                          go_wp2_with fail
                                                          refine (newEsc' ((l.drop k).take 12) b k _ _ _ (by rw [List.length_take, HDL.out]; omega) (by have := HBB.out.sub k 12; rwa [Nat.zero_add] at this)).mono ?_
                                                          rintro e w5 ⟨b5, err, rfl, hbad⟩
                                                          have HG := Lib.hid (HG.out.below b5)
                                                          have HBAD := Lib.hid hbad
                                                          clear b5 hbad
                                                          go_wp2_with fail
                                                          go_ret2
                                                          exact ⟨⟨_, _, _, HRUN.out, (by first | rfl | (simp <;> omega) | (congr 4 <;> omega)), fun e => (by cases e), fun e => (by cases e), fun _ => .inl HBAD.out⟩, HG.out⟩
                                                    | some x2 =>
                                                      have HX2 := Lib.hid hx2
                                                      have HB2 := Lib.hid (hex4_lt hx2)
                                                      obtain ⟨Y, hY⟩ : ∃ Y : Int, (x2 : Int) = Y := ⟨_, rfl⟩
                                                      have hY0 : 0 ≤ Y := by omega
                                                      have hY1 : Y < 65536 := by have := HB2.out; omega
                                                      have HYI := Lib.hid hY
                                                      clear hx2 hY
                                                      refine (parse4I ((l.drop (k + 6 + 2)).take 4) HL8.out HX2.out Y HYI.out b (k + 6 + 2) _ _ _ (by omega) (by have := HBB.out.sub (k + 6 + 2) 4; rwa [Nat.zero_add] at this)).mono ?_
                                                      rintro e w4 ⟨rfl, rfl⟩
                                                      by_cases h67 : a6 = 92 ∧ a7 = 117
                                                      · obtain ⟨rfl, rfl⟩ := h67
                                                        have hpre : ((l.drop k).drop 6).take 2 = [92, 117] := by
                                                          rw [HD67.out]
                                                          have g6 : l[k + 6] = 92 := UInt8.toNat_inj.1 (by rw [← HA6.out]; rfl)
                                                          have g7 : l[k + 6 + 1] = 117 := UInt8.toNat_inj.1 (by rw [← HA7.out]; rfl)
                                                          rw [g6, g7]
                                                        have HPre := Lib.hid hpre
                                                        clear hpre
                                                        go_wp2_with fail
                                                        cases hpv : pairV x1 x2 with
                                                        | none =>
                                                          have HRUN := Lib.hid (HSI.out.bad (HStep.out.trans (su_nopair (by rw [HDL.out]; omega) (by rw [List.drop_drop]; exact HX2.out) HPre.out hpv)))
                                                          have HPV := Lib.hid hpv
                                                          clear hpv
                                                          refine (dec16I x1 x2 X Y HXI.out HYI.out HSR.out HB2.out 65533 65533 (by rw [HPV.out]; rfl) (by rfl) _).mono ?_
                                                          rintro e w7 ⟨rfl, rfl⟩
                                                          as_aux_lemma =>
                                                            go_wp2_with (first
                                                              | (go_at_call 27
                                                                 refine (join_any F _ _ HG.out.self).mono ?_
                                                                 rintro e w3 ⟨rfl, g3⟩
                                                                 have HG := Lib.hid (HG.out.trans g3)
                                                                 have hE0 := HG.out.keep (b := 0) h0lt h0ne HE0.out
                                                                 have hE1 := HG.out.keep (b := 1) h1lt h1ne HE1.out
                                                                 have HBB := Lib.hid (HG.out.bytes hb hbF HBY.out)
                                                                 have HUw := Lib.hid (HG.out.utf hF4 hFlt HU.out)
                                                                 have hbw := HG.out.grown.size
                                                                 clear g3))
                                                            go_wp2_with fail
                                                            refine (newEsc' ((l.drop k).take 12) b k _ _ _ (by rw [List.length_take, HDL.out]; omega) (by have := HBB.out.sub k 12; rwa [Nat.zero_add] at this)).mono ?_
                                                            rintro e w5 ⟨b5, err, rfl, hbad⟩
                                                            have HG := Lib.hid (HG.out.below b5)
                                                            have HBAD := Lib.hid hbad
                                                            clear b5 hbad
                                                            go_wp2_with fail
                                                            go_ret2
                                                            exact ⟨⟨_, _, _, HRUN.out, (by first | rfl | (simp <;> omega) | (congr 4 <;> omega)), fun e => (by cases e), fun e => (by cases e), fun _ => .inl HBAD.out⟩, HG.out⟩
                                                        | some rr =>
                                                          have HNX := Lib.hid (HSI.out.go (HStep.out.trans (su_pair (by rw [HDL.out]; omega) (by rw [List.drop_drop]; exact HX2.out) HPre.out hpv)))
                                                          have HPV := Lib.hid hpv
                                                          have HRB := Lib.hid (pair_bound hpv)
                                                          clear hpv
                                                          obtain ⟨R, hR⟩ : ∃ R : Int, (rr : Int) = R := ⟨_, rfl⟩
                                                          have hrn : (R == 65533) = false := by rw [beq_eq_false_iff_ne]; have := HRB.out; omega
                                                          have HRI := Lib.hid hR
                                                          clear hR
                                                          refine (dec16I x1 x2 X Y HXI.out HYI.out HSR.out HB2.out rr R (by rw [HPV.out]; rfl) HRI.out _).mono ?_
                                                          rintro e w7 ⟨rfl, rfl⟩
                                                          as_aux_lemma =>
                                                            go_wp2_with fail
                                                            exact ⟨⟨k + 12, (by first | rfl | (simp; done) | (simp; omega)), by have := HN.out; omega, by have := HN.out; omega, HNX.out, HG.out⟩, by simp only [intOf]; omega⟩
                                                      · have hpre : ((l.drop k).drop 6).take 2 ≠ [92, 117] := by
                                                          rw [HD67.out]
                                                          intro e
                                                          simp only [List.cons.injEq, and_true] at e
                                                          exact h67 ⟨by rw [HA6.out, e.1]; rfl, by rw [HA7.out, e.2]; rfl⟩
                                                        have HRUN := Lib.hid (HSI.out.bad (HStep.out.trans (su_other (by rw [HDL.out]; omega) (by rw [List.drop_drop]; exact HX2.out) hpre)))
                                                        clear hpre
                                                        by_cases e6 : a6 = 92
                                                        · subst e6
                                                          have e7 : a7 ≠ 117 := fun e => h67 ⟨rfl, e⟩
                                                          have z7 : ((a7 : Int) != 117) = true := by rw [bne_iff_ne]; omega
                                                          have y7 : ((a7 : Int) == 117) = false := by rw [beq_eq_false_iff_ne]; omega
                                                          clear h67
                                                          as_aux_lemma =>
                                                            go_wp2_with (first
                                                              | (go_at_call 27
                                                                 refine (join_any F _ _ HG.out.self).mono ?_
                                                                 rintro e w3 ⟨rfl, g3⟩
                                                                 have HG := Lib.hid (HG.out.trans g3)
                                                                 have hE0 := HG.out.keep (b := 0) h0lt h0ne HE0.out
                                                                 have hE1 := HG.out.keep (b := 1) h1lt h1ne HE1.out
                                                                 have HBB := Lib.hid (HG.out.bytes hb hbF HBY.out)
                                                                 have HUw := Lib.hid (HG.out.utf hF4 hFlt HU.out)
                                                                 have hbw := HG.out.grown.size
                                                                 clear g3))
                                                            go_wp2_with fail
                                                            refine (newEsc' ((l.drop k).take 12) b k _ _ _ (by rw [List.length_take, HDL.out]; omega) (by have := HBB.out.sub k 12; rwa [Nat.zero_add] at this)).mono ?_
                                                            rintro e w5 ⟨b5, err, rfl, hbad⟩
                                                            have HG := Lib.hid (HG.out.below b5)
                                                            have HBAD := Lib.hid hbad
                                                            clear b5 hbad
                                                            go_wp2_with fail
                                                            go_ret2
                                                            exact ⟨⟨_, _, _, HRUN.out, (by first | rfl | (simp <;> omega) | (congr 4 <;> omega)), fun e => (by cases e), fun e => (by cases e), fun _ => .inl HBAD.out⟩, HG.out⟩
                                                        · have z6 : ((a6 : Int) != 92) = true := by rw [bne_iff_ne]; omega
                                                          have y6 : ((a6 : Int) == 92) = false := by rw [beq_eq_false_iff_ne]; omega
                                                          clear h67
                                                          as_aux_lemma =>
                                                            go_wp2_with (first
                                                              | (go_at_call 27
                                                                 refine (join_any F _ _ HG.out.self).mono ?_
                                                                 rintro e w3 ⟨rfl, g3⟩
                                                                 have HG := Lib.hid (HG.out.trans g3)
                                                                 have hE0 := HG.out.keep (b := 0) h0lt h0ne HE0.out
                                                                 have hE1 := HG.out.keep (b := 1) h1lt h1ne HE1.out
                                                                 have HBB := Lib.hid (HG.out.bytes hb hbF HBY.out)
                                                                 have HUw := Lib.hid (HG.out.utf hF4 hFlt HU.out)
                                                                 have hbw := HG.out.grown.size
                                                                 clear g3))
                                                            go_wp2_with fail
                                                            refine (newEsc' ((l.drop k).take 12) b k _ _ _ (by rw [List.length_take, HDL.out]; omega) (by have := HBB.out.sub k 12; rwa [Nat.zero_add] at this)).mono ?_
                                                            rintro e w5 ⟨b5, err, rfl, hbad⟩
                                                            have HG := Lib.hid (HG.out.below b5)
                                                            have HBAD := Lib.hid hbad
                                                            clear b5 hbad
                                                            go_wp2_with fail
                                                            go_ret2
                                                            exact ⟨⟨_, _, _, HRUN.out, (by first | rfl | (simp <;> omega) | (congr 4 <;> omega)), fun e => (by cases e), fun e => (by cases e), fun _ => .inl HBAD.out⟩, HG.out⟩
                                            · have HNX := Lib.hid (HSI.out.go (ss_u_plain HL2.out (by rw [HDL.out]; omega) (by rw [List.drop_drop]; exact HX1.out) hsr))
                                              cases vf with
                                              | false =>
                                                clear hsr
                                                as_aux_lemma =>
                                                  go_wp2_with fail
                                                  exact ⟨⟨k + 6, (by first | rfl | (simp; done) | (simp; omega)), by have := HN.out; omega, by have := HN.out; omega, HNX.out, HG.out⟩, by simp only [intOf]; omega⟩
                                              | true =>
                                                have hsx : ¬ (55296 ≤ x1 ∧ x1 < 57344) := fun h => hsr ⟨rfl, h⟩
                                                have HSR := Lib.hid hsx
                                                clear hsr hsx
                                                as_aux_lemma =>
                                                  go_wp2_with (first
                                                    | (go_at_call 31
                                                       refine (surrI_no X _ hX0 (by have := HSR.out; have := HXI.out; omega)).mono ?_
                                                       rintro e w5 ⟨rfl, rfl⟩))
                                                  exact ⟨⟨k + 6, (by first | rfl | (simp; done) | (simp; omega)), by have := HN.out; omega, by have := HN.out; omega, HNX.out, HG.out⟩, by simp only [intOf]; omega⟩
                              have m117 : ((a2 : Int) == 117) = false := by rw [beq_eq_false_iff_ne]; omega
                              have hsx : simpleB c2 = false := by
                                have nx : ∀ x : UInt8, a2 ≠ x.toNat → (c2 == x) = false := fun x h => by
                                  rw [beq_eq_false_iff_ne]; exact fun e => h (by rw [HA2.out, e])
                                unfold simpleB
                                rw [nx 34 s34, nx 92 s92, nx 47 s47, nx 98 s98, nx 102 s102, nx 110 s110, nx 114 s114, nx 116 s116]
                                rfl
                              have HRUN := Lib.hid (HSI.out.bad (ss_other HL2.out hsx (fun e => s117 (by rw [HA2.out, e]; rfl))))
                              clear hsx
                              as_aux_lemma =>
                                go_wp2_with (first
                                  | (go_at_call 25
                                     refine (noEsc_any 92 _).mono ?_
                                     rintro e w2 ⟨rfl, rfl⟩
                                     rw [show plainB 92 = false by decide])
                                  | (go_at_call 26
                                     refine (decRune_any (l.drop k) (by rw [HD.out]; exact List.cons_ne_nil _ _) b k (n - k) (cap - k) _ (by rw [List.length_drop, HN.out]) HSub.out HUw.out).mono ?_
                                     rintro e w2 ⟨b2, r, rn, rfl, hread⟩
                                     have HG := Lib.hid (HG.out.below b2)
                                     have hE0 := HG.out.keep (b := 0) h0lt h0ne HE0.out
                                     have hE1 := HG.out.keep (b := 1) h1lt h1ne HE1.out
                                     have HBB := Lib.hid (HG.out.bytes hb hbF HBY.out)
                                     have HUw := Lib.hid (HG.out.utf hF4 hFlt HU.out)
                                     have hbw := HG.out.grown.size
                                     obtain ⟨q1, q2, q3⟩ := hread.back 1 (.inl ⟨rfl, 92, _, HD.out, by decide⟩)
                                     have q4 : r = 92 := by rw [q3, HD.out]; rfl
                                     subst q1
                                     subst q4
                                     clear b2 hread q2 q3)
                                  | (go_at_call 27
                                     refine (join_any F _ _ HG.out.self).mono ?_
                                     rintro e w3 ⟨rfl, g3⟩
                                     have HG := Lib.hid (HG.out.trans g3)
                                     have hE0 := HG.out.keep (b := 0) h0lt h0ne HE0.out
                                     have hE1 := HG.out.keep (b := 1) h1lt h1ne HE1.out
                                     have HBB := Lib.hid (HG.out.bytes hb hbF HBY.out)
                                     have HUw := Lib.hid (HG.out.utf hF4 hFlt HU.out)
                                     have hbw := HG.out.grown.size
                                     clear g3
                                     have hc2 := HBB.out.at0 (k + 1) hkl1
                                     rw [← HC2.out, ← HA2.out] at hc2))
                                go_wp2_with fail
                                refine (newEsc' ((l.drop k).take 2) b k _ _ _ (by rw [List.length_take, HDL.out]; omega) (by have := HBB.out.sub k 2; rwa [Nat.zero_add] at this)).mono ?_
                                rintro e w5 ⟨b5, err, rfl, hbad⟩
                                have HG := Lib.hid (HG.out.below b5)
                                have HBAD := Lib.hid hbad
                                clear b5 hbad
                                go_wp2_with fail
                                go_ret2
                                exact ⟨⟨_, _, _, HRUN.out, (by first | rfl | (simp <;> omega) | (congr 4 <;> omega)), fun e => (by cases e), fun e => (by cases e), fun _ => .inl HBAD.out⟩, HG.out⟩
                      · have n92 : ((a : Int) == 92) = false := by rw [beq_eq_false_iff_ne]; omega
                        as_aux_lemma =>
                          by_cases h32 : a < 32
                          · have g32 : (a : Int) < 32 := by omega
                            have HRUN := Lib.hid (HSI.out.bad (ss_ctrl HD.out (by rw [← HA.out]; exact h32)))
                            have nff : ((a : Int) == 65533) = false := by rw [beq_eq_false_iff_ne]; omega
                            clear hnp
                            as_aux_lemma =>
                              go_wp2_with (first
                                | (go_at_call 25
                                   refine (noEsc_any a _).mono ?_
                                   rintro e w2 ⟨rfl, rfl⟩
                                   rw [HPL.out])
                                | (go_at_call 26
                                   refine (decRune_any (l.drop k) (by rw [HD.out]; exact List.cons_ne_nil _ _) b k (n - k) (cap - k) _ (by rw [List.length_drop, HN.out]) HSub.out HUw.out).mono ?_
                                   rintro e w2 ⟨b2, r, rn, rfl, hread⟩
                                   have HG := Lib.hid (HG.out.below b2)
                                   have hE0 := HG.out.keep (b := 0) h0lt h0ne HE0.out
                                   have hE1 := HG.out.keep (b := 1) h1lt h1ne HE1.out
                                   have HBB := Lib.hid (HG.out.bytes hb hbF HBY.out)
                                   have HUw := Lib.hid (HG.out.utf hF4 hFlt HU.out)
                                   have hbw := HG.out.grown.size
                                   obtain ⟨q1, q2, q3⟩ := hread.back 1 (.inl ⟨rfl, c, _, HD.out, by rw [← HA.out]; omega⟩)
                                   have q4 : r = a := by rw [q3, HD.out, HA.out]; rfl
                                   subst q1
                                   subst q4
                                   clear b2 hread q2 q3)
                                | (go_at_call 27
                                   refine (join_any F _ _ HG.out.self).mono ?_
                                   rintro e w3 ⟨rfl, g3⟩
                                   have HG := Lib.hid (HG.out.trans g3)
                                   have hE0 := HG.out.keep (b := 0) h0lt h0ne HE0.out
                                   have hE1 := HG.out.keep (b := 1) h1lt h1ne HE1.out
                                   have HBB := Lib.hid (HG.out.bytes hb hbF HBY.out)
                                   have HUw := Lib.hid (HG.out.utf hF4 hFlt HU.out)
                                   have hbw := HG.out.grown.size
                                   clear g3))
                              refine (nic_any (l.drop k) (by rw [HD.out]; exact List.cons_ne_nil _ _) b k _ _ _ _ HDL.out.symm (by omega) (by have := HBB.out.sub k (l.length - k); rw [Nat.zero_add, List.take_of_length_le (by rw [List.length_drop]; omega)] at this; exact this) (by omega) HUw.out).mono ?_
                              rintro e w5 ⟨b5, err, rfl, hbad⟩
                              have HG := Lib.hid (HG.out.below b5)
                              have HBAD := Lib.hid hbad
                              clear b5 hbad
                              go_wp2_with fail
                              go_ret2
                              exact ⟨⟨_, _, _, HRUN.out, (by first | rfl | (simp <;> omega) | (congr 4 <;> omega)), fun e => (by cases e), fun e => (by cases e), fun _ => .inl HBAD.out⟩, HG.out⟩
                          · have h128 : 128 ≤ a := by omega
                            as_aux_lemma =>
                              clear hnp
                              by_cases hex : ∃ m, CharAt (l.drop k) m
                              · obtain ⟨m, hm⟩ := hex
                                have h2 : 2 ≤ m := char_high HD.out (by rw [← HA.out]; omega) hm
                                have hle := hm.le4
                                rw [List.length_drop] at hle
                                have hkm : k + m ≤ n := by have := HN.out; omega
                                have hst2 : sStep vf (l.drop k) = .go m := ss_char HD.out (fun e => h34 (by rw [HA.out, e]; rfl)) (fun e => h92 (by rw [HA.out, e]; rfl)) (by rw [← HA.out]; omega) hm
                                have HNX := Lib.hid (HSI.out.go hst2)
                                have hm1 : (1 : Int) < (m : Int) := by omega
                                have HC := Lib.hid hm
                                clear hst2 hm
                                as_aux_lemma =>
                                  go_wp2_with (first
                                    | (go_at_call 25
                                       refine (noEsc_any a _).mono ?_
                                       rintro e w2 ⟨rfl, rfl⟩
                                       rw [HPL.out])
                                    | (go_at_call 26
                                       refine (decRune_any (l.drop k) (by rw [HD.out]; exact List.cons_ne_nil _ _) b k (n - k) (cap - k) _ (by rw [List.length_drop, HN.out]) HSub.out HUw.out).mono ?_
                                       rintro e w2 ⟨b2, r, rn, rfl, hread⟩
                                       have HG := Lib.hid (HG.out.below b2)
                                       have hE0 := HG.out.keep (b := 0) h0lt h0ne HE0.out
                                       have hE1 := HG.out.keep (b := 1) h1lt h1ne HE1.out
                                       have HBB := Lib.hid (HG.out.bytes hb hbF HBY.out)
                                       have HUw := Lib.hid (HG.out.utf hF4 hFlt HU.out)
                                       have hbw := HG.out.grown.size
                                       obtain ⟨q1, q2, q3⟩ := hread.back m HC.out
                                       subst q1
                                       clear b2 hread q2 q3))
                                  exact ⟨⟨k + m, (by first | rfl | (simp; done) | (simp; omega)), by have := HN.out; omega, by have := HN.out; omega, HNX.out, HG.out⟩, by simp only [intOf]; omega⟩
                              · have hno : ∀ m, ¬ CharAt (l.drop k) m := fun m h => hex ⟨m, h⟩
                                have hst1 := ss_bad (vf := vf) HD.out (by rw [← HA.out]; exact h128) hno
                                have HNo := Lib.hid hno
                                clear hno hex
                                cases hfb : fullB (l.drop k) with
                                | true =>
                                  rw [hfb, if_pos rfl] at hst1
                                  have HFB := Lib.hid hfb
                                  clear hfb
                                  cases vf with
                                  | true =>
                                    rw [if_pos rfl] at hst1
                                    have HRUN := Lib.hid (HSI.out.bad hst1)
                                    clear hst1
                                    as_aux_lemma =>
                                      go_wp2_with (first
                                        | (go_at_call 25
                                           refine (noEsc_any a _).mono ?_
                                           rintro e w2 ⟨rfl, rfl⟩
                                           rw [HPL.out])
                                        | (go_at_call 26
                                           refine (decRune_any (l.drop k) (by rw [HD.out]; exact List.cons_ne_nil _ _) b k (n - k) (cap - k) _ (by rw [List.length_drop, HN.out]) HSub.out HUw.out).mono ?_
                                           rintro e w2 ⟨b2, r, rn, rfl, hread⟩
                                           have HG := Lib.hid (HG.out.below b2)
                                           have hE0 := HG.out.keep (b := 0) h0lt h0ne HE0.out
                                           have hE1 := HG.out.keep (b := 1) h1lt h1ne HE1.out
                                           have HBB := Lib.hid (HG.out.bytes hb hbF HBY.out)
                                           have HUw := Lib.hid (HG.out.utf hF4 hFlt HU.out)
                                           have hbw := HG.out.grown.size
                                           obtain ⟨rfl, rfl⟩ := hread.none HNo.out
                                           clear b2 hread)
                                        | (go_at_call 33
                                           refine (full' (l.drop k) (by rw [HD.out]; exact List.cons_ne_nil _ _) b k _ _ _ HDL.out.symm (by have := HBB.out.sub k (l.length - k); rw [Nat.zero_add, List.take_of_length_le (by rw [List.length_drop]; omega)] at this; exact this) HUw.out (by omega)).mono ?_
                                           rintro e w4 ⟨rfl, b4⟩
                                           rw [HFB.out]
                                           have HG := Lib.hid (HG.out.below b4)
                                           have hE0 := HG.out.keep (b := 0) h0lt h0ne HE0.out
                                           have hE1 := HG.out.keep (b := 1) h1lt h1ne HE1.out
                                           have HBB := Lib.hid (HG.out.bytes hb hbF HBY.out)
                                           have HUw := Lib.hid (HG.out.utf hF4 hFlt HU.out)
                                           have hbw := HG.out.grown.size
                                           clear b4)
                                        | (go_at_call 27
                                           refine (join_any F _ _ HG.out.self).mono ?_
                                           rintro e w3 ⟨rfl, g3⟩
                                           have HG := Lib.hid (HG.out.trans g3)
                                           have hE0 := HG.out.keep (b := 0) h0lt h0ne HE0.out
                                           have hE1 := HG.out.keep (b := 1) h1lt h1ne HE1.out
                                           have HBB := Lib.hid (HG.out.bytes hb hbF HBY.out)
                                           have HUw := Lib.hid (HG.out.utf hF4 hFlt HU.out)
                                           have hbw := HG.out.grown.size
                                           clear g3))
                                      go_big_quiet (fail)
                                      go_wp2_with fail
                                      go_ret2
                                      exact ⟨⟨_, _, _, HRUN.out, (by first | rfl | (simp <;> omega) | (congr 4 <;> omega)), fun e => (by cases e), fun e => (by cases e), fun _ => .inr rfl⟩, HG.out.drewN _⟩
                                  | false =>
                                    rw [if_neg (by decide)] at hst1
                                    have HNX := Lib.hid (HSI.out.go hst1)
                                    clear hst1
                                    as_aux_lemma =>
                                      go_wp2_with (first
                                        | (go_at_call 25
                                           refine (noEsc_any a _).mono ?_
                                           rintro e w2 ⟨rfl, rfl⟩
                                           rw [HPL.out])
                                        | (go_at_call 26
                                           refine (decRune_any (l.drop k) (by rw [HD.out]; exact List.cons_ne_nil _ _) b k (n - k) (cap - k) _ (by rw [List.length_drop, HN.out]) HSub.out HUw.out).mono ?_
                                           rintro e w2 ⟨b2, r, rn, rfl, hread⟩
                                           have HG := Lib.hid (HG.out.below b2)
                                           have hE0 := HG.out.keep (b := 0) h0lt h0ne HE0.out
                                           have hE1 := HG.out.keep (b := 1) h1lt h1ne HE1.out
                                           have HBB := Lib.hid (HG.out.bytes hb hbF HBY.out)
                                           have HUw := Lib.hid (HG.out.utf hF4 hFlt HU.out)
                                           have hbw := HG.out.grown.size
                                           obtain ⟨rfl, rfl⟩ := hread.none HNo.out
                                           clear b2 hread)
                                        | (go_at_call 33
                                           refine (full' (l.drop k) (by rw [HD.out]; exact List.cons_ne_nil _ _) b k _ _ _ HDL.out.symm (by have := HBB.out.sub k (l.length - k); rw [Nat.zero_add, List.take_of_length_le (by rw [List.length_drop]; omega)] at this; exact this) HUw.out (by omega)).mono ?_
                                           rintro e w4 ⟨rfl, b4⟩
                                           rw [HFB.out]
                                           have HG := Lib.hid (HG.out.below b4)
                                           have hE0 := HG.out.keep (b := 0) h0lt h0ne HE0.out
                                           have hE1 := HG.out.keep (b := 1) h1lt h1ne HE1.out
                                           have HBB := Lib.hid (HG.out.bytes hb hbF HBY.out)
                                           have HUw := Lib.hid (HG.out.utf hF4 hFlt HU.out)
                                           have hbw := HG.out.grown.size
                                           clear b4)
                                        | (go_at_call 27
                                           refine (join_any F _ _ HG.out.self).mono ?_
                                           rintro e w3 ⟨rfl, g3⟩
                                           have HG := Lib.hid (HG.out.trans g3)
                                           have hE0 := HG.out.keep (b := 0) h0lt h0ne HE0.out
                                           have hE1 := HG.out.keep (b := 1) h1lt h1ne HE1.out
                                           have HBB := Lib.hid (HG.out.bytes hb hbF HBY.out)
                                           have HUw := Lib.hid (HG.out.utf hF4 hFlt HU.out)
                                           have hbw := HG.out.grown.size
                                           clear g3))
                                      exact ⟨⟨k + 1, (by first | rfl | (simp; done) | (simp; omega)), by have := HN.out; omega, by have := HN.out; omega, HNX.out, HG.out⟩, by simp only [intOf]; omega⟩
                                | false =>
                                  rw [hfb, if_neg (by decide)] at hst1
                                  have HRUN := Lib.hid (HSI.out.short hst1)
                                  have HFB := Lib.hid hfb
                                  clear hst1 hfb
                                  as_aux_lemma =>
                                    go_wp2_with (first
                                      | (go_at_call 25
                                         refine (noEsc_any a _).mono ?_
                                         rintro e w2 ⟨rfl, rfl⟩
                                         rw [HPL.out])
                                      | (go_at_call 26
                                         refine (decRune_any (l.drop k) (by rw [HD.out]; exact List.cons_ne_nil _ _) b k (n - k) (cap - k) _ (by rw [List.length_drop, HN.out]) HSub.out HUw.out).mono ?_
                                         rintro e w2 ⟨b2, r, rn, rfl, hread⟩
                                         have HG := Lib.hid (HG.out.below b2)
                                         have hE0 := HG.out.keep (b := 0) h0lt h0ne HE0.out
                                         have hE1 := HG.out.keep (b := 1) h1lt h1ne HE1.out
                                         have HBB := Lib.hid (HG.out.bytes hb hbF HBY.out)
                                         have HUw := Lib.hid (HG.out.utf hF4 hFlt HU.out)
                                         have hbw := HG.out.grown.size
                                         obtain ⟨rfl, rfl⟩ := hread.none HNo.out
                                         clear b2 hread)
                                      | (go_at_call 33
                                         refine (full' (l.drop k) (by rw [HD.out]; exact List.cons_ne_nil _ _) b k _ _ _ HDL.out.symm (by have := HBB.out.sub k (l.length - k); rw [Nat.zero_add, List.take_of_length_le (by rw [List.length_drop]; omega)] at this; exact this) HUw.out (by omega)).mono ?_
                                         rintro e w4 ⟨rfl, b4⟩
                                         rw [HFB.out]
                                         have HG := Lib.hid (HG.out.below b4)
                                         have hE0 := HG.out.keep (b := 0) h0lt h0ne HE0.out
                                         have hE1 := HG.out.keep (b := 1) h1lt h1ne HE1.out
                                         have HBB := Lib.hid (HG.out.bytes hb hbF HBY.out)
                                         have HUw := Lib.hid (HG.out.utf hF4 hFlt HU.out)
                                         have hbw := HG.out.grown.size
                                         clear b4))
                                    go_big_quiet (fail)
                                    go_wp2_with fail
                                    go_ret2
                                    exact ⟨⟨_, _, _, HRUN.out, (by first | rfl | (simp <;> omega) | (congr 4 <;> omega)), fun e => (by cases e), fun _ => rfl, fun e => (by cases e)⟩, HG.out.drewN _⟩
              · obtain rfl : k = n := by omega
                have hnil : l.drop k = [] := List.drop_of_length_le (by have := HN.out; omega)
                have HRUN := Lib.hid (HSI.out.short (by rw [hnil]; rfl))
                have hlt : decide ((k : Int) < (k : Int)) = false := decide_eq_false (by omega)
                clear hnil
                as_aux_lemma =>
                  go_wp2_with fail
                  go_big_quiet (fail)
                  go_wp2_with fail
                  go_ret2
                  exact ⟨⟨_, _, _, HRUN.out, (by first | rfl | (simp <;> omega) | (congr 4 <;> omega)), fun e => (by cases e), fun _ => rfl, fun e => (by cases e)⟩, HG.out.drewN _⟩
        · obtain rfl : k0 = n := by omega
          have hnil : l.drop k0 = [] := List.drop_of_length_le (by have := HN.out; omega)
          have HRUN := Lib.hid (HSI0.out.short (show sStep vf (l.drop k0) = .short by rw [hnil]; rfl))
          clear hnil
          as_aux_lemma =>
            go_wp2_with fail
            go_big_quiet (fail)
            go_wp2_with fail
            go_ret2
            exact ⟨⟨_, _, _, HRUN.out, (by first | rfl | (simp <;> omega) | (congr 4 <;> omega)), fun e => (by cases e), fun _ => rfl, fun e => (by cases e)⟩, HG.out.drewN _⟩

end Go.Proofs.YtifemmjblamfkaaDoor.Wire
