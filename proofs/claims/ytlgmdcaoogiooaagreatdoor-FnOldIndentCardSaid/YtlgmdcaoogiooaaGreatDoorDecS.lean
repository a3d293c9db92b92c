/- The reference's 'Decode' of any name that loose reading takes: it comes back. -/
import Derived.Test.YtlgmdcaoogiooaaGreatDoorDecEk
import Derived.Test.YtlgmdcaoogiooaaGreatDoorWidth
import Derived.Test.YtlgmdcaoogiooaaGreatDoorNumP
namespace Go.Proofs.YtlgmdcaoogiooaaGreatDoor.Wire
open Go.RowKit Go.Proofs.YtlgmdcaoogiooaaGreatDoor

/-- From k on each backslash that is met has a byte behind it. -/
inductive Safe (m : List UInt8) : Nat → Prop
  | stop {k : Nat} : m.length ≤ k → Safe m k
  | esc {k : Nat} : m[k]? = some 92 → k + 1 < m.length → Safe m (k + (escS (m.drop k)).2.1) → Safe m k
  | plain {k : Nat} {c : UInt8} : m[k]? = some c → c ≠ 92 → (∀ n, CharAt (m.drop k) n → Safe m (k + n)) → Safe m (k + 1) → Safe m k

theorem char_high {l : List UInt8} {n : Nat} (h : CharAt l n) : n = 1 ∨ (2 ≤ n ∧ ∀ x, x < n → ∃ c : UInt8, l[x]? = some c ∧ 128 ≤ c.toNat) := by
  rcases h with ⟨rfl, _⟩ | ⟨rfl, a, b, t, rfl, h1, _, h2⟩ | ⟨rfl, a, b, c, t, rfl, h1, _, h2, h3, _⟩ | ⟨rfl, a, b, c, d, t, rfl, h1, _, h2, h3, h4, _⟩
  · exact .inl rfl
  · refine .inr ⟨by omega, fun x hx => ?_⟩
    have : x = 0 ∨ x = 1 := by omega
    rcases this with rfl | rfl
    · exact ⟨a, rfl, by omega⟩
    · exact ⟨b, rfl, h2.1⟩
  · refine .inr ⟨by omega, fun x hx => ?_⟩
    have : x = 0 ∨ x = 1 ∨ x = 2 := by omega
    rcases this with rfl | rfl | rfl
    · exact ⟨a, rfl, by omega⟩
    · exact ⟨b, rfl, h2.1⟩
    · exact ⟨c, rfl, h3.1⟩
  · refine .inr ⟨by omega, fun x hx => ?_⟩
    have : x = 0 ∨ x = 1 ∨ x = 2 ∨ x = 3 := by omega
    rcases this with rfl | rfl | rfl | rfl
    · exact ⟨a, rfl, by omega⟩
    · exact ⟨b, rfl, h2.1⟩
    · exact ⟨c, rfl, h3.1⟩
    · exact ⟨d, rfl, h4.1⟩

theorem escS_two {c r : UInt8} {t : List UInt8} (h : r ≠ 117) : (escS (c :: r :: t)).2.1 = 2 := by
  show (if r = 98 then _ else if r = 102 then _ else if r = 110 then _ else if r = 114 then _ else if r = 116 then _ else if r = 117 then _ else _ : List UInt8 × Nat × Bool).2.1 = 2
  repeat' split
  all_goals first | rfl | (rename_i e; exact absurd e h)

theorem unitS_head {s : List UInt8} (h : (unitS s).isSome = true) : s.take 2 = [92, 117] := by
  unfold unitS at h
  split at h
  · rename_i e; exact e.2
  · cases h

theorem escS_u6 {c : UInt8} {t : List UInt8} : (escS (c :: 117 :: t)).2.1 = 6 ∨ ((escS (c :: 117 :: t)).2.1 = 12 ∧ ((c :: 117 :: t).drop 6).take 2 = [92, 117]) := by
  rw [escS_u (v := (unitS (c :: 117 :: t)).getD 0) rfl]
  split
  · exact .inl rfl
  · split
    · rename_i h
      exact .inr ⟨rfl, unitS_head h.2.1⟩
    · exact .inl rfl

/-- What loose reading takes is safe. -/
theorem safe_run {S m : List UInt8} {a p : Nat} (hm : ∀ j, a + j < p → m[j]? = S[a + j]?) (hl : m.length = p - a) : ∀ {k : Nat} {r : Bool × Nat}, QRun true S k r → r = (true, p) → a ≤ k →
    (∀ j, (∀ x, x < j → ∃ c : UInt8, m[k - a + x]? = some c ∧ 128 ≤ c.toNat) → Safe m (k + j - a)) ∧ (S[k]? = some 92 → S[k + 1]? = some 117 → k < p → Safe m (k + 6 - a)) ∧ k ≤ p := by
  intro k r hq
  induction hq with
  | eof _ => intro e; cases e
  | @done k h1 =>
    intro e ha
    cases e
    refine ⟨fun j hj => ?_, fun h => (by rw [h1] at h; cases h), Nat.le_refl _⟩
    cases j with
    | zero => exact .stop (by omega)
    | succ j =>
      obtain ⟨c, hc, _⟩ := hj 0 (by omega)
      have := (List.getElem?_eq_some_iff.1 hc).1
      omega
  | escNo _ _ => intro e; cases e
  | @esc k k' r h1 h2 _ ih =>
    intro e ha
    have hge := mEscape_le true S (k + 1)
    rw [h2] at hge
    simp only at hge
    obtain ⟨i1, i2, i3⟩ := ih e (by omega)
    unfold mEscape at h2
    have h0 : m[k - a]? = some 92 := by rw [hm _ (by omega), show a + (k - a) = k by omega]; exact h1
    have hd := drop_of_get h0
    split at h2
    · rename_i q
      cases h2
      have hlt : k + 1 < S.length := seeB_lt (by simp only [simpleE, Bool.or_eq_true, beq_iff_eq] at q; omega)
      have hget := List.getElem?_eq_getElem hlt
      have hr : m[k - a + 1]? = some (S[k + 1]'hlt) := by rw [hm _ (by omega), show a + (k - a + 1) = k + 1 by omega]; exact hget
      have h117 : S[k + 1]'hlt ≠ 117 := fun e => by
        rw [seeB_some hget, e] at q
        revert q
        decide
      have hlm := (List.getElem?_eq_some_iff.1 hr).1
      refine ⟨fun j hj => ?_, fun _ h => absurd (by rw [hget] at h; exact Option.some.inj h) h117, by omega⟩
      cases j with
      | succ j =>
        obtain ⟨c, hc, hc2⟩ := hj 0 (by omega)
        rw [Nat.add_zero, h0] at hc
        cases hc
        exact absurd hc2 (by decide)
      | zero =>
        refine .esc h0 hlm ?_
        have e2 : (escS (m.drop (k + 0 - a))).2.1 = 2 := by rw [Nat.add_zero, hd, drop_of_get hr]; exact escS_two h117
        rw [e2]
        have := i1 0 (fun x hx => by omega)
        rwa [show k + 1 + 1 + 0 - a = k + 0 - a + 2 by omega] at this
    · rename_i q
      split at h2
      · rename_i q2
        obtain ⟨d, hdd, hde⟩ := seeB_get (c := 117) q2 (by omega)
        have hd117 : d = 117 := UInt8.toNat_inj.1 hde
        rw [hd117] at hdd
        have hu : mUnit true false S (k + 1 + 1) = ((mHexs S [(0, 15), (0, 15), (0, 15), (0, 15)] (k + 1 + 1)).1, (mHexs S [(0, 15), (0, 15), (0, 15), (0, 15)] (k + 1 + 1)).2, false) := by unfold mUnit; exact if_pos rfl
        rw [hu, if_neg (by simp)] at h2
        have e4 := mHexs_lt _ _ _ (show mHexs S [(0, 15), (0, 15), (0, 15), (0, 15)] (k + 1 + 1) = (true, k') from h2)
        simp only [List.length_cons, List.length_nil] at e4
        have hr : m[k - a + 1]? = some 117 := by rw [hm _ (by omega), show a + (k - a + 1) = k + 1 by omega]; exact hdd
        have hlm := (List.getElem?_eq_some_iff.1 hr).1
        have hS6 := i1 0 (fun x hx => by omega)
        have h6 : Safe m (k + 6 - a) := by rwa [show k' + 0 - a = k + 6 - a by omega] at hS6
        refine ⟨fun j hj => ?_, fun _ _ _ => h6, by omega⟩
        cases j with
        | succ j =>
          obtain ⟨c, hc, hc2⟩ := hj 0 (by omega)
          rw [Nat.add_zero, h0] at hc
          cases hc
          exact absurd hc2 (by decide)
        | zero =>
          refine .esc h0 hlm ?_
          rw [Nat.add_zero, hd, drop_of_get hr]
          rcases escS_u6 (c := 92) (t := m.drop (k - a + 1 + 1)) with e2 | ⟨e2, e3⟩
          · rw [e2]
            rwa [show k + 6 - a = k - a + 6 by omega] at h6
          · rw [e2]
            have hdd6 : m.drop (k - a + 6) = 92 :: 117 :: m.drop (k - a + 8) := by
              have e5 : (92 :: 117 :: m.drop (k - a + 1 + 1)).drop 6 = m.drop (k - a + 6) := by
                show (m.drop (k - a + 1 + 1)).drop 4 = _
                rw [List.drop_drop]
              rw [e5] at e3
              have := List.take_append_drop 2 (m.drop (k - a + 6))
              rw [e3, List.drop_drop] at this
              exact this.symm
            have g6 : m[k - a + 6]? = some 92 := drop_head hdd6
            have g7 : m[k - a + 7]? = some 117 := by
              have := List.getElem?_drop (xs := m) (i := k - a + 6) (j := 1)
              rw [hdd6] at this
              exact this.symm
            have l7 := (List.getElem?_eq_some_iff.1 g7).1
            rw [hm _ (by omega)] at g6 g7
            have := i2 (by rw [← g6]; congr 1; omega) (by rw [← g7]; congr 1; omega) (by omega)
            rwa [show k' + 6 - a = k - a + 12 by omega] at this
      · cases h2
  | ctrl _ _ => intro e; cases e
  | @plain k c r h1 h2 h3 h4 _ _ ih =>
    intro e ha
    obtain ⟨i1, i2, i3⟩ := ih e (by omega)
    have h0 : m[k - a]? = some c := by rw [hm _ (by omega), show a + (k - a) = k by omega]; exact h1
    refine ⟨fun j hj => ?_, fun h => absurd (by rw [h1] at h; exact Option.some.inj h) h4, by omega⟩
    cases j with
    | succ j =>
      have := i1 j (fun x hx => by
        obtain ⟨c, hc, hc2⟩ := hj (x + 1) (by omega)
        exact ⟨c, by rw [show k + 1 - a + x = k - a + (x + 1) by omega]; exact hc, hc2⟩)
      rwa [show k + 1 + j - a = k + (j + 1) - a by omega] at this
    | zero =>
      refine .plain h0 h4 (fun n hn => ?_) ?_
      · rcases char_high hn with rfl | ⟨hn2, hx⟩
        · have := i1 0 (fun x hx => by omega)
          rwa [show k + 1 + 0 - a = k + 0 - a + 1 by omega] at this
        · have := i1 (n - 1) (fun x hxx => by
            obtain ⟨c, hc, hc2⟩ := hx (x + 1) (by omega)
            rw [List.getElem?_drop] at hc
            exact ⟨c, by rw [← hc]; congr 1; omega, hc2⟩)
          rwa [show k + 1 + (n - 1) - a = k + 0 - a + n by omega] at this
      · have := i1 0 (fun x hx => by omega)
        rwa [show k + 1 + 0 - a = k + 0 - a + 1 by omega] at this
  | rune _ _ h3 => cases h3
  | runeNo _ _ h3 => cases h3

/-- Between two rounds of 'Decode'. -/
structure SInv (w : World) (m : List UInt8) (k : Nat) (v : Value) (out : List UInt8) (wr : World) : Prop where
  made : MadeQ w wr v out
  safe : Safe m k
  len : out.length ≤ 3 * k

/-- What 'Decode' tells of a name. -/
structure DName (w : World) (e : Ending) (w' : World) : Prop where
  below : Below w.heap.size w w'
  what : ∃ (t : ByteArray) (b : Bool), e = .returned (.tuple #[.string t, .bool b])

set_option maxRecDepth 100000 in
set_option maxHeartbeats 4000000 in
theorem decode_safe (t : ByteArray) (ht : t.size ≤ 100000) (h2 : 2 ≤ t.size) (w : World) (hD : Safe ((t.data.toList.drop 1).take (t.size - 2)) 0) :
    Calls Tryz.prog 34 #[.string t] w (DName w) := by
  obtain ⟨n, hn⟩ : ∃ n : Nat, n = t.size - 1 := ⟨_, rfl⟩
  obtain ⟨s, hs⟩ : ∃ s : ByteArray, s = t.extract 1 n := ⟨_, rfl⟩
  have hsl : s.data.toList = (t.data.toList.drop 1).take (t.size - 2) := by
    rw [hs, show n = 1 + (t.size - 2) by omega, extract_m]
  have hss : s.size = t.size - 2 := by rw [← size_eq, hsl, List.length_take, List.length_drop, size_eq]; omega
  rw [← hsl] at hD
  have hnI : (t.size : Int) - 1 = (n : Int) := by omega
  have a0 : (0 : Int) ≤ 1 := by decide
  have a1 : (1 : Int) ≤ (n : Int) := by omega
  have a2 : (n : Int) ≤ (t.size : Int) := by omega
  have hrun : ∀ w : World, (Instr.slice 9 (.string t) (some (.int .i64 1)) (some (.int .i64 ((t.size : Int) - 1))) none).run Tryz.prog w = .ok (.string s) w := fun w => by
    have := run_slice_string (P := Tryz.prog) w 9 t .i64 .i64 1 ((t.size : Int) - 1) string9m (by omega) (by omega) (by omega)
    rw [show ((1 : Int)).toNat = 1 from rfl, show ((t.size : Int) - 1).toNat = n by omega, ← hs] at this
    exact this
  have HD := Lib.hid hD
  have HS : s.size ≤ 100000 := by omega
  have HEX := Lib.hid hs
  clear hn hsl hss hD hs
  go_enter Tryz.func34, Tryz.ntmps34
  go_wp2_with fail
  try rw [← HEX.out]
  go_loopw [5, 6, 7] (fun v c i wr => ∃ (k : Nat) (b : Bool) (out : List UInt8), i = .int .i64 k ∧ k ≤ s.size + 12 ∧ c = .bool b ∧ SInv w s.data.toList k v out wr) (fun _ _ i _ => s.size + 13 - (intOf i).toNat)
  case atStart =>
    exact ⟨0, true, [], rfl, Nat.zero_le _, rfl, ⟨Own.lit w _ #[] [] rfl (Nat.zero_le _) 0 0 rfl rfl, (Below.refl _ _).alloc (Nat.le_refl _) _, fun a ha => by simp [baseOf] at ha; subst ha; exact Nat.le_refl _⟩, HD.out, Nat.zero_le _⟩
  case round =>
    obtain ⟨k, b, out, rfl, hk, rfl, hinv⟩ := hrel
    obtain ⟨hmade, hq, hol⟩ := hinv
    have HM := Lib.hid hmade
    clear hmade
    by_cases hk2 : k < s.size
    · have hk0 : (0 : Int) ≤ (k : Int) := by omega
      have hk1 : (k : Int) < (s.size : Int) := by omega
      obtain ⟨c, hc⟩ : ∃ c, s.data.toList[k]? = some c ∧ c = s[k]'hk2 := ⟨_, get_some hk2, rfl⟩
      obtain ⟨a, ha⟩ : ∃ a : Nat, (s[k]'hk2).toNat = a := ⟨_, rfl⟩
      have hca : c.toNat = a := by rw [hc.2]; exact ha
      by_cases h92 : a = 92
      · have hc92 : c = 92 := UInt8.toNat_inj.1 (by rw [hca, h92]; rfl)
        have hesc : k + 1 < s.size ∧ Safe s.data.toList (k + (escS (s.data.toList.drop k)).2.1) := by
          cases hq with
          | stop h => rw [size_eq] at h; omega
          | esc _ h3 h4 => rw [size_eq] at h3; exact ⟨h3, h4⟩
          | plain h3 h4 _ _ => rw [hc.1] at h3; cases h3; exact absurd hc92 h4
        obtain ⟨hk3, hdec⟩ := hesc
        obtain ⟨l1, l2, l3⟩ := escS_len (s.data.toList.drop k)
        obtain ⟨p, hp⟩ : ∃ p, escS (s.data.toList.drop k) = p := ⟨_, rfl⟩
        rw [hp] at hdec l1 l2 l3
        obtain ⟨pt, pn, pb⟩ := p
        simp only at hdec l1 l2 l3
        have HP := Lib.hid hp
        have HDec := Lib.hid hdec
        subst h92
        clear hc hca hc92 hq hp hdec
        go_wp2_with fail
        refine (escaped_any s k (by omega) hk3 _).mono ?_
        rintro e w1 ⟨b1, rfl⟩
        rw [HP.out]
        have HM1 := Lib.hid (HM.out.step b1)
        clear b1
        cases b
        all_goals
          go_wp2_with (first
            | (at_builtin
               refine wpList_app u8m rfl (.tmp 33) (.tmp 34) 9 rfl (AppTo.refl HM1.out.own) (by rfl) pt (by rfl) (by exact src_strm _ _ rfl) (by omega) ?_
               intro v3 w3 k3
               have K3 := Lib.hid k3
               clear k3))
          exact ⟨⟨k + pn, _, _, by simp, by omega, rfl, HM1.out.app K3.out, HDec.out, by rw [List.length_append]; omega⟩, by simp only [intOf]; omega⟩
      · have n92 : ((a : Int) == 92) = false := by rw [beq_eq_false_iff_ne]; omega
        have hpl : (∀ n, CharAt (s.data.toList.drop k) n → Safe s.data.toList (k + n)) ∧ Safe s.data.toList (k + 1) := by
          cases hq with
          | stop h => rw [size_eq] at h; omega
          | esc h3 _ _ =>
            rw [hc.1] at h3
            have h3 := Option.some.inj h3
            exact absurd (by rw [← hca, h3]; rfl) h92
          | plain _ _ h5 h6 => exact ⟨h5, h6⟩
        have HPl := Lib.hid hpl
        clear hc hca hq hpl
        go_wp2_with fail
        refine (width_any s k hk2 (by omega) _).mono ?_
        rintro e w1 ⟨b1, n2, rfl, ⟨hn0, hch⟩ | ⟨rfl, hno⟩⟩
        · have hle := hch.le
          have hch4 : n2 ≤ 4 := by rcases hch with ⟨rfl, _⟩ | ⟨rfl, _⟩ | ⟨rfl, _⟩ | ⟨rfl, _⟩ <;> decide
          rw [List.length_drop, size_eq] at hle
          have HC := Lib.hid hch
          have hnz : ((n2 : Int) == 0) = false := by rw [beq_eq_false_iff_ne]; omega
          have g1 : (0 : Int) ≤ (k : Int) + (n2 : Int) := by omega
          have g2 : (k : Int) ≤ (k : Int) + (n2 : Int) := by omega
          have g3 : (k : Int) + (n2 : Int) ≤ (s.size : Int) := by omega
          have HM1 := Lib.hid (HM.out.step b1)
          clear b1 hch
          go_wp2_with (first
            | (at_builtin
               refine wpList_app u8m rfl (.tmp 52) (.tmp 58) 9 rfl (AppTo.refl HM1.out.own) (by rfl) ((s.data.toList.drop k).take n2) (by rfl) (by exact src_strm _ _ (extract_m s k n2)) (by rw [List.length_take, List.length_drop, size_eq]; omega) ?_
               intro v3 w3 k3
               have K3 := Lib.hid k3
               clear k3))
          exact ⟨⟨k + n2, b, _, by simp, by omega, rfl, HM1.out.app K3.out, HPl.out.1 n2 HC.out, by rw [List.length_append, List.length_take, List.length_drop, size_eq]; omega⟩, by simp only [intOf]; omega⟩
        · have HM1 := Lib.hid (HM.out.step b1)
          clear b1 hno
          go_wp2_with (first
            | (at_builtin
               refine wpList_app u8m rfl (.tmp 48) (.const (.string ⟨#[239, 191, 189]⟩)) 9 rfl (AppTo.refl HM1.out.own) (by rfl) [239, 191, 189] (by rfl) (by exact src_strm _ _ rfl) (by simp; omega) ?_
               intro v3 w3 k3
               have K3 := Lib.hid k3
               clear k3))
          exact ⟨⟨k + 1, false, _, by simp, by omega, rfl, HM1.out.app K3.out, HPl.out.2, by rw [List.length_append]; simp only [List.length_cons, List.length_nil]; omega⟩, by simp only [intOf]; omega⟩
    · have hks : ¬ (k : Int) < (s.size : Int) := by omega
      clear hq
      go_wp2_with (refine wpList_toString u8m rfl (.tmp 63) _ rfl string9m rfl HM.out.own ?_)
      go_ret2
      exact ⟨HM.out.below, _, b, rfl⟩

end Go.Proofs.YtlgmdcaoogiooaaGreatDoor.Wire
