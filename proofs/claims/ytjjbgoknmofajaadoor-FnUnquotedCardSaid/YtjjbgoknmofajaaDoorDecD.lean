/- The reference's 'Decode' and 'StringPart'. -/
import Derived.Test.YtjjbgoknmofajaaDoorDecE
import Derived.Test.YtjjbgoknmofajaaDoorWidth
namespace Go.Proofs.YtjjbgoknmofajaaDoor.Wire
open Go.RowKit Go.Proofs.YtjjbgoknmofajaaDoor

/-- Between two rounds of 'Decode'. -/
structure DInv (w : World) (D m : List UInt8) (k : Nat) (v : Value) (out : List UInt8) (wr : World) : Prop where
  made : MadeQ w wr v out
  rest : ∃ q, Dec (m.drop k) q ∧ D = out ++ q
  len : out.length ≤ k

/-- What 'Decode' tells. -/
structure DRet (w : World) (D : List UInt8) (e : Ending) (w' : World) : Prop where
  below : Below w.heap.size w w'
  what : ∃ b, e = .returned (.tuple #[.string ⟨D.toArray⟩, .bool b])

set_option maxRecDepth 100000 in
set_option maxHeartbeats 4000000 in
theorem decode_any (t : ByteArray) (ht : t.size ≤ 100000) (h2 : 2 ≤ t.size) (D : List UInt8) (w : World) (hD : Dec ((t.data.toList.drop 1).take (t.size - 2)) D) :
    Calls Tryd.prog 17 #[.string t] w (DRet w D) := by
  obtain ⟨n, hn⟩ : ∃ n : Nat, n = t.size - 1 := ⟨_, rfl⟩
  obtain ⟨s, hs⟩ : ∃ s : ByteArray, s = t.extract 1 n := ⟨_, rfl⟩
  have hsl : s.data.toList = (t.data.toList.drop 1).take (t.size - 2) := by
    rw [hs, show n = 1 + (t.size - 2) by omega, extract_m]
  have hss : s.size = t.size - 2 := by rw [← size_eq, hsl, List.length_take, List.length_drop, size_eq]; omega
  rw [← hsl] at hD
  have hnI : (t.size : Int) - 1 = (n : Int) := by omega
  have a0 : (0 : Int) ≤ 1 := by decide
  have a1 : (1 : Int) ≤ (n : Int) := by omega
  have a2 : (n : Int) ≤ (t.size : Int) := by omega
  have hrun : ∀ w : World, (Instr.slice 9 (.string t) (some (.int .i64 1)) (some (.int .i64 ((t.size : Int) - 1))) none).run Tryd.prog w = .ok (.string s) w := fun w => by
    have := run_slice_string (P := Tryd.prog) w 9 t .i64 .i64 1 ((t.size : Int) - 1) string9m (by omega) (by omega) (by omega)
    rw [show ((1 : Int)).toNat = 1 from rfl, show ((t.size : Int) - 1).toNat = n by omega, ← hs] at this
    exact this
  have HD := Lib.hid hD
  have HS : s.size ≤ 100000 := by omega
  have HEX := Lib.hid hs
  clear hn hsl hss hD hs
  go_enter Tryd.func17, Tryd.ntmps17
  go_wp2_with fail
  try rw [← HEX.out]
  go_loopw [5, 6, 7] (fun v c i wr => ∃ (k : Nat) (b : Bool) (out : List UInt8), i = .int .i64 k ∧ k ≤ s.size + 12 ∧ c = .bool b ∧ DInv w D s.data.toList k v out wr) (fun _ _ i _ => s.size + 13 - (intOf i).toNat)
  case atStart =>
    exact ⟨0, true, [], rfl, Nat.zero_le _, rfl, ⟨Own.lit w _ #[] [] rfl (Nat.zero_le _) 0 0 rfl rfl, (Below.refl _ _).alloc (Nat.le_refl _) _, fun a ha => by simp [baseOf] at ha; subst ha; exact Nat.le_refl _⟩, ⟨D, HD.out, rfl⟩, Nat.zero_le _⟩
  case round =>
    obtain ⟨k, b, out, rfl, hk, rfl, hinv⟩ := hrel
    obtain ⟨hmade, ⟨q, hq, hDq⟩, hol⟩ := hinv
    have HM := Lib.hid hmade
    have HDQ := Lib.hid hDq
    clear hmade hDq
    by_cases hk2 : k < s.size
    · have hk0 : (0 : Int) ≤ (k : Int) := by omega
      have hk1 : (k : Int) < (s.size : Int) := by omega
      obtain ⟨c, hc⟩ : ∃ c, s.data.toList[k]? = some c ∧ c = s[k]'hk2 := ⟨_, get_some hk2, rfl⟩
      have hd := drop_of_get hc.1
      obtain ⟨a, ha⟩ : ∃ a : Nat, (s[k]'hk2).toNat = a := ⟨_, rfl⟩
      have hca : c.toNat = a := by rw [hc.2]; exact ha
      by_cases h92 : a = 92
      · have hc92 : c = 92 := UInt8.toNat_inj.1 (by rw [hca, h92]; rfl)
        have hesc : ∃ q', k + 1 < s.size ∧ Dec (s.data.toList.drop (k + (escS (s.data.toList.drop k)).2.1)) q' ∧ q = (escS (s.data.toList.drop k)).1 ++ q' := by
          rw [hd, hc92] at hq
          rw [← List.drop_drop, hd, hc92]
          generalize hm : s.data.toList.drop (k + 1) = m at hq ⊢
          have hml : m.length = s.size - (k + 1) := by rw [← hm, List.length_drop, size_eq]
          cases hq with
          | @esc r t' q' hdec =>
            rw [List.length_cons] at hml
            exact ⟨q', by omega, hdec, rfl⟩
          | char hne _ _ => exact absurd rfl hne
        obtain ⟨q', hk3, hdec, hqq⟩ := hesc
        obtain ⟨l1, l2, l3⟩ := escS_len (s.data.toList.drop k)
        obtain ⟨p, hp⟩ : ∃ p, escS (s.data.toList.drop k) = p := ⟨_, rfl⟩
        rw [hp] at hdec hqq l1 l2 l3
        obtain ⟨pt, pn, pb⟩ := p
        simp only at hdec hqq l1 l2 l3
        have HP := Lib.hid hp
        have HDec := Lib.hid hdec
        have HQQ := Lib.hid hqq
        subst h92
        clear hc hd hca hc92 hq hp hdec hqq
        go_wp2_with fail
        refine (escaped_any s k (by omega) hk3 _).mono ?_
        rintro e w1 ⟨b1, rfl⟩
        rw [HP.out]
        have HM1 := Lib.hid (HM.out.step b1)
        clear b1
        cases b
        all_goals
          go_wp2_with (first
            | (at_builtin
               refine wpList_app u8m rfl (.tmp 33) (.tmp 34) 9 rfl (AppTo.refl HM1.out.own) (by rfl) pt (by rfl) (by exact src_strm _ _ rfl) (by omega) ?_
               intro v3 w3 k3
               have K3 := Lib.hid k3
               clear k3))
          exact ⟨⟨k + pn, _, _, by simp, by omega, rfl, HM1.out.app K3.out, ⟨q', HDec.out, by rw [HDQ.out, HQQ.out, List.append_assoc]⟩, by rw [List.length_append]; omega⟩, by simp only [intOf]; omega⟩
      · have n92 : ((a : Int) == 92) = false := by rw [beq_eq_false_iff_ne]; omega
        have hchar : ∃ n q', CharAt (s.data.toList.drop k) n ∧ Dec (s.data.toList.drop (k + n)) q' ∧ q = (s.data.toList.drop k).take n ++ q' := by
          simp only [← List.drop_drop]
          rw [hd] at hq ⊢
          generalize hm : s.data.toList.drop (k + 1) = m at hq ⊢
          generalize hcm : c :: m = cm at hq ⊢
          cases hq with
          | nil => cases hcm
          | esc _ =>
            have := (List.cons.inj hcm).1
            exact absurd (by rw [← hca, this]; rfl) h92
          | @char c' t' q' n _ hch hdec => exact ⟨n, q', hch, hdec, rfl⟩
        obtain ⟨n', q', hch, hdec, hqq⟩ := hchar
        have hle := hch.le4
        rw [List.length_drop, size_eq] at hle
        have HC := Lib.hid hch
        have HDec := Lib.hid hdec
        have HQQ := Lib.hid hqq
        have hnz : ((n' : Int) == 0) = false := by rw [beq_eq_false_iff_ne]; omega
        have g1 : (0 : Int) ≤ (k : Int) + (n' : Int) := by omega
        have g2 : (k : Int) ≤ (k : Int) + (n' : Int) := by omega
        have g3 : (k : Int) + (n' : Int) ≤ (s.size : Int) := by omega
        clear hc hd hca hq hch hdec hqq
        go_wp2_with fail
        refine (width_any s k hk2 (by omega) _).mono ?_
        rintro e w1 ⟨b1, n2, rfl, hwid⟩
        obtain rfl : n2 = n' := by
          rcases hwid with ⟨_, h⟩ | ⟨_, h⟩
          · exact h.one HC.out
          · exact absurd HC.out (h n')
        have HM1 := Lib.hid (HM.out.step b1)
        clear b1 hwid
        go_wp2_with (first
          | (at_builtin
             refine wpList_app u8m rfl (.tmp 52) (.tmp 58) 9 rfl (AppTo.refl HM1.out.own) (by rfl) ((s.data.toList.drop k).take n2) (by rfl) (by exact src_strm _ _ (extract_m s k n2)) (by rw [List.length_take, List.length_drop, size_eq]; omega) ?_
             intro v3 w3 k3
             have K3 := Lib.hid k3
             clear k3))
        exact ⟨⟨k + n2, b, _, by simp, by omega, rfl, HM1.out.app K3.out, ⟨q', HDec.out, by rw [HDQ.out, HQQ.out, List.append_assoc]⟩, by rw [List.length_append, List.length_take, List.length_drop, size_eq]; omega⟩, by simp only [intOf]; omega⟩
    · have hq0 : q = [] := by
        have hz : s.data.toList.drop k = [] := List.drop_of_length_le (by rw [size_eq]; omega)
        rw [hz] at hq
        cases hq
        rfl
      have hDo : D = out := by rw [HDQ.out, hq0, List.append_nil]
      have hks : ¬ (k : Int) < (s.size : Int) := by omega
      have HDO := Lib.hid hDo
      clear hq0 hDo hq
      go_wp2_with (refine wpList_toString u8m rfl (.tmp 63) _ rfl string9m rfl HM.out.own ?_)
      go_ret2
      exact ⟨HM.out.below, b, by rw [HDO.out]; rfl⟩

/-- What 'StringPart' tells. -/
structure SPart (w : World) (lo : Bool) (s : ByteArray) (e : Ending) (w' : World) : Prop where
  below : Below w.heap.size w w'
  what : ∃ (r : Bool × Nat) (k : Nat) (ok : Bool), QRel lo s.data.toList 0 r ∧ k ≤ s.size ∧ e = .returned (.tuple #[.string (s.extract 0 k), .bool ok]) ∧ (ok = true → r.1 = true ∧ s.data.toList[r.2]? = some 34 ∧ k = r.2 + 1)

set_option maxRecDepth 100000 in
set_option maxHeartbeats 2000000 in
theorem stringPart_any (s : ByteArray) (hs : s.size ≤ 100000000000) (lo : Bool) (w : World) :
    Calls Tryd.prog 16 #[.string s, .bool lo] w (SPart w lo s) := by
  go_enter Tryd.func16, Tryd.ntmps16
  go_wp2_with fail
  refine (quoted_any w.heap.size s 0 false lo 0 false _ (by omega) ⟨heap_alloc_new w _, Nat.zero_le _⟩).mono ?_
  rintro e w1 ⟨⟨ok, k⟩, hrel, rfl, hst⟩
  have HRel := Lib.hid hrel
  obtain ⟨f', hr, hf, _⟩ := hst.rd
  have hb := hst.below (by simp)
  have hbw := ((Below.refl _ w).alloc (Nat.le_refl _) _).trans hb
  obtain ⟨c0, c1, c2, c3, c4, c5⟩ := hr.all
  have hle := hr.le
  have hlt := hr.lt
  have HBW := Lib.hid hbw
  have HR := Lib.hid hr
  clear hrel hb hbw hst hr
  cases ok with
  | false =>
    clear hf
    have i0 : (0 : Int) ≤ (k : Int) := by omega
    have i1 : (k : Int) ≤ (s.size : Int) := by omega
    go_wp2_with fail
    go_ret2
    exact ⟨HBW.out, (false, k), k, false, HRel.out, hle, rfl, fun h => by cases h⟩
  | true =>
    obtain rfl := hf rfl
    clear hf
    obtain ⟨r1, hr1⟩ : ∃ r, (mNeed s.data.toList 34 34 k).1 = r := ⟨_, rfl⟩
    have HR1 := Lib.hid hr1
    go_wp2_with fail
    refine (need_any _ s k false lo 0 false 34 34 _ (by omega) HR.out).mono ?_
    cases r1 with
    | false =>
      rw [mNeed_no hr1]
      rintro e w2 ⟨rfl, hst⟩
      obtain ⟨f2, hr2, _⟩ := hst.rd
      have hb2 := hst.below (by have := HBW.out.size; omega)
      have hbw2 := HBW.out.trans hb2
      obtain ⟨d0, d1, d2, d3, d4, d5⟩ := hr2.all
      have HBW2 := Lib.hid hbw2
      have hlt2 := hr2.lt
      clear hst hr2 hb2 hbw2 hr1 c0 c1 c2 c3 c4 c5
      have i0 : (0 : Int) ≤ (k : Int) := by omega
      have i1 : (k : Int) ≤ (s.size : Int) := by omega
      go_wp2_with fail
      go_ret2
      exact ⟨HBW2.out, (true, k), k, false, HRel.out, hle, rfl, fun h => by cases h⟩
    | true =>
      rw [mNeed_yes hr1]
      rintro e w2 ⟨rfl, hst⟩
      obtain ⟨f2, hr2, _⟩ := hst.rd
      have hb2 := hst.below (by have := HBW.out.size; omega)
      have hbw2 := HBW.out.trans hb2
      obtain ⟨d0, d1, d2, d3, d4, d5⟩ := hr2.all
      have hle2 := hr2.le
      have HBW2 := Lib.hid hbw2
      have hlt2 := hr2.lt
      clear hst hr2 hb2 hbw2 hr1 c0 c1 c2 c3 c4 c5
      obtain ⟨k1, hk1⟩ : ∃ k1 : Nat, k1 = k + 1 := ⟨_, rfl⟩
      rw [← hk1] at d1 hle2
      have HK1 := Lib.hid hk1
      clear hk1
      have i0 : (0 : Int) ≤ (k1 : Int) := by omega
      have i1 : (k1 : Int) ≤ (s.size : Int) := by omega
      go_wp2_with fail
      go_ret2
      refine ⟨HBW2.out, (true, k), k1, true, HRel.out, hle2, rfl, fun _ => ⟨rfl, ?_, HK1.out⟩⟩
      obtain ⟨d, hd, h1, h2, _⟩ := need_true HR1.out
      rw [hd]
      congr 1
      exact UInt8.toNat_inj.1 (by show d.toNat = 34; omega)

end Go.Proofs.YtjjbgoknmofajaaDoor.Wire
