/- Each step of reading a string, against the reference (plain). -/
import Derived.Test.YtifemmjblamfkaaDoorStrL
namespace Go.Proofs.YtifemmjblamfkaaDoor.Wire
open Go.RowKit Go.Proofs.YtifemmjblamfkaaDoor

theorem CharAt.app {d : List UInt8} {n : Nat} (h : CharAt d n) (s : List UInt8) : CharAt (d ++ s) n := by
  rcases h with ⟨rfl, a, t, rfl, h⟩ | ⟨rfl, a, b, t, rfl, h⟩ | ⟨rfl, a, b, c, t, rfl, h⟩ | ⟨rfl, a, b, c, e, t, rfl, h⟩
  · exact .inl ⟨rfl, a, t ++ s, rfl, h⟩
  · exact .inr (.inl ⟨rfl, a, b, t ++ s, rfl, h⟩)
  · exact .inr (.inr (.inl ⟨rfl, a, b, c, t ++ s, rfl, h⟩))
  · exact .inr (.inr (.inr ⟨rfl, a, b, c, e, t ++ s, rfl, h⟩))

theorem high34 {c : UInt8} (h : 128 ≤ c.toNat) : c ≠ 34 := fun e => by rw [e] at h; revert h; decide
theorem high92 {c : UInt8} (h : 128 ≤ c.toNat) : c ≠ 92 := fun e => by rw [e] at h; revert h; decide

/-- High bytes in loose reading. -/
theorem plains {l : List UInt8} {r : Bool × Nat} : ∀ (m k : Nat), (∀ i, i < m → ∃ y, l[k + i]? = some y ∧ 128 ≤ y.toNat) → QRun true l (k + m) r → QRun true l k r
  | 0, _, _, h => h
  | m + 1, k, hy, h => by
    obtain ⟨y, h0, h1⟩ := hy 0 (by omega)
    exact .plain h0 (by omega) (high34 h1) (high92 h1) (.inr rfl) (plains m (k + 1) (fun i hi => by
      obtain ⟨z, z0, z1⟩ := hy (i + 1) (by omega)
      exact ⟨z, by rw [show k + 1 + i = k + (i + 1) by omega]; exact z0, z1⟩) (by rw [show k + 1 + m = k + (m + 1) by omega]; exact h))

/-- What lies at k, as far as it is there. -/
def At (l : List UInt8) (k : Nat) (d : List UInt8) : Prop := ∃ s, l.drop k = d ++ s

theorem At.get {l d : List UInt8} {k : Nat} (h : At l k d) (i : Nat) (y : UInt8) (hy : d[i]? = some y) : l[k + i]? = some y := by
  obtain ⟨s, hs⟩ := h
  have hi : i < d.length := (List.getElem?_eq_some_iff.1 hy).1
  rw [← List.getElem?_drop, hs, List.getElem?_append_left hi]
  exact hy

theorem At.take (l : List UInt8) (c k : Nat) : At l k ((l.take c).drop k) :=
  ⟨(l.drop k).drop (c - k), by rw [List.drop_take, List.take_append_drop]⟩

theorem At.char {l d : List UInt8} {k n : Nat} (h : At l k d) (hc : CharAt d n) : CharAt (l.drop k) n := by
  obtain ⟨s, hs⟩ := h
  rw [hs]
  exact CharAt.app hc s

/-- A character is passed over. -/
theorem char_go {vf : Bool} {l d : List UInt8} {k n : Nat} {a : UInt8} {t : List UInt8} {r : Bool × Nat} (hd : At l k d) (e : d = a :: t) (n34 : a ≠ 34) (n92 : a ≠ 92) (h32 : 32 ≤ a.toNat) (hc : CharAt d n) (hq : QRun (!vf) l (k + n) r) : QRun (!vf) l k r := by
  have h0 := hd.get 0 a (by rw [e]; rfl)
  by_cases h128 : a.toNat < 128
  · obtain rfl : n = 1 := CharAt.one hc (.inl ⟨rfl, a, t, e, h128⟩)
    exact .plain h0 h32 n34 n92 (.inl h128) hq
  · have h2 := char_high e h128 hc
    cases vf with
    | true => exact .rune h0 (by omega) rfl (rune_char (hd.char hc) h2) hq
    | false =>
      refine plains n k (fun i hi => ?_) hq
      have hlen := hc.le.2
      have hg : d[i]? = some (d[i]'(by omega)) := List.getElem?_eq_getElem (by omega)
      exact ⟨_, hd.get i _ hg, char_bytes hc h2 i _ hi hg⟩

/-- The bytes of d stand at k. -/
theorem At.see {l d : List UInt8} {k i : Nat} {y : UInt8} (h : At l k d) (hy : d[i]? = some y) : seeB l (k + i) = (y.toNat : Int) := seeB_some (h.get i y hy)

/-- An escape is passed over. -/
theorem esc_go {vf : Bool} {l d : List UInt8} {k n : Nat} {t : List UInt8} {r : Bool × Nat} (hd : At l k d) (e : d = 92 :: t) (hs : sEsc vf d = .go n) (hq : QRun (!vf) l (k + n) r) : QRun (!vf) l k r := by
  have h0 := hd.get 0 92 (by rw [e]; rfl)
  match t, e with
  | [], e => rw [e] at hs; cases hs
  | x :: t, e =>
    have h1 := hd.see (i := 1) (y := x) (by rw [e]; rfl)
    rw [e] at hs
    simp only [sEsc] at hs
    rw [← e] at hs
    split at hs
    · rename_i q
      cases hs
      refine .esc h0 (esc_simple (by rw [h1, simple_same]; exact q)) hq
    · split at hs
      · rename_i q1 q2
        subst q2
        have h1' : seeB l (k + 1) = 117 := h1
        split at hs
        · split at hs <;> cases hs
        · rename_i hlen
          have hsub : ∀ i y, ((d.drop 2).take 4)[i]? = some y → l[k + 2 + i]? = some y := fun i y hy => by
            rw [List.getElem?_take] at hy
            split at hy
            · rw [List.getElem?_drop] at hy
              rw [show k + 2 + i = k + (2 + i) by omega]
              exact hd.get _ _ hy
            · cases hy
          split at hs
          · cases hs
          · rename_i v1 hx
            obtain ⟨d0, d1, d2, d3, hdig, hv⟩ := dig4_of hsub hx
            split at hs
            · rename_i hv1
              unfold sUnit at hs
              split at hs
              · split at hs <;> cases hs
              · rename_i h12
                split at hs
                · cases hs
                · rename_i v2 hx2
                  split at hs
                  · rename_i hpre
                    split at hs
                    · rename_i hp
                      cases hs
                      obtain ⟨rfl, hv1a, hv1b⟩ := hv1
                      have hsub2 : ∀ i y, ((d.drop 8).take 4)[i]? = some y → l[k + 8 + i]? = some y := fun i y hy => by
                        rw [List.getElem?_take] at hy
                        split at hy
                        · rw [List.getElem?_drop] at hy
                          rw [show k + 8 + i = k + (8 + i) by omega]
                          exact hd.get _ _ hy
                        · cases hy
                      obtain ⟨e0, e1, e2, e3, hdig2, hw⟩ := dig4_of hsub2 hx2
                      obtain ⟨rr, hrr⟩ := Option.isSome_iff_exists.1 hp
                      unfold pairV at hrr
                      split at hrr
                      · rename_i hpr
                        have g6 : l[k + 6]? = some 92 := hd.get 6 92 (by
                          have := congrArg (fun z => z[0]?) hpre
                          simpa [List.getElem?_take, List.getElem?_drop] using this)
                        have g7 : l[k + 7]? = some 117 := hd.get 7 117 (by
                          have := congrArg (fun z => z[1]?) hpre
                          simpa [List.getElem?_take, List.getElem?_drop] using this)
                        exact .esc h0 (esc_unit2 h1' (unit_high hdig (by omega)) (need_in g6 (by decide) (by decide)) (need_in g7 (by decide) (by decide)) (unit_second hdig2 (by omega))) hq
                      · cases hrr
                    · cases hs
                  · cases hs
            · rename_i hv1
              cases hs
              refine .esc h0 (esc_unit1 h1' (unit_one hdig ?_)) hq
              cases vf with
              | false => exact .inl rfl
              | true => exact .inr (fun h => hv1 ⟨rfl, by omega, by omega⟩)
      · cases hs

/-- A step is passed over. -/
theorem step_go {vf : Bool} {l d : List UInt8} {k n : Nat} {r : Bool × Nat} (hd : At l k d) (hs : sStep vf d = .go n) (hq : QRun (!vf) l (k + n) r) : QRun (!vf) l k r := by
  cases hdd : d with
  | nil => rw [hdd] at hs; cases hs
  | cons a t =>
    have h0 := hd.get 0 a (by rw [hdd]; rfl)
    by_cases n34 : a = 34
    · subst n34
      rw [ss_quote hdd] at hs
      cases hs
    by_cases n92 : a = 92
    · subst n92
      rw [ss_esc hdd] at hs
      exact esc_go hd hdd hs hq
    by_cases n32 : a.toNat < 32
    · rw [ss_ctrl hdd n32] at hs
      cases hs
    by_cases hex : ∃ m, CharAt d m
    · obtain ⟨m, hm⟩ := hex
      rw [ss_char hdd n34 n92 (by omega) hm] at hs
      cases hs
      exact char_go hd hdd n34 n92 (by omega) hm hq
    · have hno : ∀ m, ¬ CharAt d m := fun m h => hex ⟨m, h⟩
      have h128 : 128 ≤ a.toNat := by
        rcases Nat.lt_or_ge a.toNat 128 with q | q
        · exact absurd (.inl ⟨rfl, a, t, hdd, q⟩) (hno 1)
        · exact q
      rw [ss_bad hdd h128 hno] at hs
      split at hs
      · cases vf with
        | true => cases hs
        | false =>
          cases hs
          exact .plain h0 (by omega) n34 n92 (.inr rfl) hq
      · cases hs

theorem step_fine {vf : Bool} {l : List UInt8} {k : Nat} (hs : sStep vf (l.drop k) = .fine) : QRun (!vf) l k (true, k) := by
  have hd : At l k (l.drop k) := ⟨[], by simp⟩
  cases hdd : l.drop k with
  | nil => rw [hdd] at hs; cases hs
  | cons a t =>
    have h0 := hd.get 0 a (by rw [hdd]; rfl)
    by_cases n34 : a = 34
    · subst n34
      exact .done h0
    exfalso
    by_cases n92 : a = 92
    · subst n92
      rw [ss_esc hdd, hdd] at hs
      unfold sEsc sUnit at hs
      repeat' split at hs
      all_goals cases hs
    by_cases n32 : a.toNat < 32
    · rw [ss_ctrl hdd n32] at hs
      cases hs
    by_cases hex : ∃ m, CharAt (l.drop k) m
    · obtain ⟨m, hm⟩ := hex
      rw [ss_char hdd n34 n92 (by omega) hm] at hs
      cases hs
    · have hno : ∀ m, ¬ CharAt (l.drop k) m := fun m h => hex ⟨m, h⟩
      have h128 : 128 ≤ a.toNat := by
        rcases Nat.lt_or_ge a.toNat 128 with q | q
        · exact absurd (.inl ⟨rfl, a, t, hdd, q⟩) (hno 1)
        · exact q
      rw [ss_bad hdd h128 hno] at hs
      split at hs
      · split at hs <;> cases hs
      · cases hs

/-- A character that is cut off. -/
theorem cut_short {vf : Bool} {l : List UInt8} {k : Nat} {a : UInt8} {t : List UInt8} (hdd : l.drop k = a :: t) (h128 : 128 ≤ a.toNat) (hno : ∀ m, ¬ CharAt (l.drop k) m) (hf : fullB (l.drop k) = false) : ∃ k', QRun (!vf) l k (false, k') := by
  have hd : At l k (l.drop k) := ⟨[], by simp⟩
  have h0 := hd.get 0 a (by rw [hdd]; rfl)
  cases vf with
  | true => exact ⟨_, .runeNo h0 h128 rfl (Prod.ext (rune_none hno) rfl)⟩
  | false =>
    have hk : k < l.length := (List.getElem?_eq_some_iff.1 h0).1
    refine ⟨l.length, plains (l.length - k) k (fun i hi => ?_) ?_⟩
    · have hlen : (l.drop k).length = l.length - k := List.length_drop
      have hg : (l.drop k)[i]? = some ((l.drop k)[i]'(by omega)) := List.getElem?_eq_getElem (by omega)
      refine ⟨_, hd.get i _ hg, ?_⟩
      rw [hdd] at hf
      exact cut_bytes h128 hf i _ (by rw [← hdd]; exact hg)
    · rw [show k + (l.length - k) = l.length by omega]
      exact .eof (Nat.le_refl _)

/-- A byte that belongs to no character, in strict reading. -/
theorem char_bad {l : List UInt8} {k : Nat} {a : UInt8} {t : List UInt8} (hdd : l.drop k = a :: t) (h128 : 128 ≤ a.toNat) (hno : ∀ m, ¬ CharAt (l.drop k) m) (hf : fullB (l.drop k) = true) : ∃ k', k' < l.length ∧ QRun false l k (false, k') := by
  have hd : At l k (l.drop k) := ⟨[], by simp⟩
  have h0 := hd.get 0 a (by rw [hdd]; rfl)
  have hr := rune_none hno
  exact ⟨_, full_place h0 h128 hr hf, .runeNo h0 h128 rfl (Prod.ext hr rfl)⟩

/-- A unit with a byte that is no digit. -/
theorem esc_nodig {lo : Bool} {l : List UInt8} {k i : Nat} (h0 : l[k]? = some 92) (h1 : seeB l (k + 1) = 117) (hi : i < 4) (hx : hexAt l (k + 2 + i) = -1) : ∃ k', k' ≤ k + 2 + i ∧ QRun lo l k (false, k') := by
  have hu := unit_nodig (lo := lo) (low := false) (k := k + 1 + 1) hi hx
  exact ⟨_, hu.2, .escNo h0 (esc_unit_no h1 hu.1)⟩

/-- An escape that fails with eleven bytes behind the backslash. -/
theorem esc_far {lo : Bool} {l : List UInt8} {k : Nat} (h0 : l[k]? = some 92) (h : (mEscape lo l (k + 1)).1 = false) (hl : k + 12 ≤ l.length) : ∃ k', k' < l.length ∧ QRun lo l k (false, k') :=
  ⟨(mEscape lo l (k + 1)).2, by have := esc_place h; omega, .escNo h0 (Prod.ext h rfl)⟩

theorem hexd_out {a : Nat} (h1 : ¬ (48 ≤ a ∧ a ≤ 57)) (h2 : ¬ (97 ≤ a ∧ a ≤ 102)) (h3 : ¬ (65 ≤ a ∧ a ≤ 70)) : hexd a = none := by
  unfold hexd
  rw [if_neg h1, if_neg h2, if_neg h3]

theorem pref_no {lower : Bool} {d : List UInt8} (h : prefB lower d = false) : ∃ (j : Nat) (y : UInt8), d[j]? = some y ∧ prefAt lower j y.toNat = false := by
  unfold prefB at h
  rw [List.all_eq_false] at h
  obtain ⟨j, hj, h2⟩ := h
  have hj' := List.mem_range.1 hj
  refine ⟨j, d[j], List.getElem?_eq_getElem hj', ?_⟩
  rw [List.getD_eq_getElem?_getD, List.getElem?_eq_getElem hj'] at h2
  simpa using h2

/-- Fewer than six bytes, and no beginning of a unit. -/
theorem esc_u_not {lo : Bool} {l : List UInt8} {k : Nat} {t : List UInt8} (hdd : l.drop k = 92 :: 117 :: t) (h6 : (l.drop k).length < 6) (hp : prefB false (l.drop k) = false) : ∃ k', k' < l.length ∧ QRun lo l k (false, k') := by
  have hd : At l k (l.drop k) := ⟨[], by simp⟩
  have h0 := hd.get 0 92 (by rw [hdd]; rfl)
  have h1 := hd.see (i := 1) (y := 117) (by rw [hdd]; rfl)
  obtain ⟨j, y, hy, hj⟩ := pref_no hp
  have hjl : j < (l.drop k).length := (List.getElem?_eq_some_iff.1 hy).1
  have hkl : k + j < l.length := by rw [List.length_drop] at hjl; omega
  unfold prefAt at hj
  rw [decide_eq_false_iff_not] at hj
  have j0 : j ≠ 0 := fun e => by
    subst e
    rw [hdd] at hy
    cases hy
    exact hj (by decide)
  have j1 : j ≠ 1 := fun e => by
    subst e
    rw [hdd] at hy
    cases hy
    exact hj (by decide)
  have hn : hexd y.toNat = none := by
    refine hexd_out (fun q => hj ?_) (fun q => hj ?_) (fun q => hj ?_) <;> (refine ⟨by omega, by omega, by simp, by simp, by omega⟩)
  obtain ⟨k', h2, h3⟩ := esc_nodig (lo := lo) (i := j - 2) h0 h1 (by omega) (hexAt_none (by rw [show k + 2 + (j - 2) = k + j by omega]; exact hd.get j y hy) hn)
  exact ⟨k', by omega, h3⟩

/-- Fewer than six bytes. -/
theorem esc_u_short {lo : Bool} {l : List UInt8} {k : Nat} {t : List UInt8} (hdd : l.drop k = 92 :: 117 :: t) (h6 : (l.drop k).length < 6) : ∃ k', QRun lo l k (false, k') := by
  have hd : At l k (l.drop k) := ⟨[], by simp⟩
  have h0 := hd.get 0 92 (by rw [hdd]; rfl)
  have h1 := hd.see (i := 1) (y := 117) (by rw [hdd]; rfl)
  have h2 : 2 ≤ (l.drop k).length := by rw [hdd]; simp
  rw [List.length_drop] at h2 h6
  obtain ⟨k', _, h3⟩ := esc_nodig (lo := lo) (i := l.length - k - 2) h0 h1 (by omega) (hexAt_end (by omega))
  exact ⟨k', h3⟩

/-- Six bytes, and no four digits. -/
theorem esc_u_bad {lo : Bool} {l : List UInt8} {k : Nat} {t : List UInt8} (hdd : l.drop k = 92 :: 117 :: t) (h6 : ¬ (l.drop k).length < 6) (hx : hex4 (((l.drop k).drop 2).take 4) = none) : ∃ k', k' < l.length ∧ QRun lo l k (false, k') := by
  have hd : At l k (l.drop k) := ⟨[], by simp⟩
  have h0 := hd.get 0 92 (by rw [hdd]; rfl)
  have h1 := hd.see (i := 1) (y := 117) (by rw [hdd]; rfl)
  obtain ⟨i, x, hi, hq, hn⟩ := hex4_none (by rw [List.length_take, List.length_drop]; omega) hx
  have hg : l[k + 2 + i]? = some x := by
    rw [List.getElem?_take, if_pos hi, List.getElem?_drop] at hq
    rw [show k + 2 + i = k + (2 + i) by omega]
    exact hd.get _ _ hq
  obtain ⟨k', h2, h3⟩ := esc_nodig (lo := lo) (i := i) h0 h1 hi (hexAt_none hg hn)
  rw [List.length_drop] at h6
  exact ⟨k', by omega, h3⟩

/-- A first half, or a second one in the first's place: what 'escape' makes of it. -/
theorem esc_half {l : List UInt8} {k d0 d1 d2 d3 : Nat} (hu : seeB l k = 117) (h : Dig4 l (k + 1) d0 d1 d2 d3) (hv : 55296 ≤ ((d0 * 16 + d1) * 16 + d2) * 16 + d3 ∧ ((d0 * 16 + d1) * 16 + d2) * 16 + d3 < 57344) :
    (mEscape false l k).1 = true → (mNeed l 92 92 (k + 5)).1 = true ∧ (mNeed l 117 117 (k + 6)).1 = true ∧ (mUnit false true l (k + 7)).1 = true := by
  intro hm
  by_cases q : ((d0 * 16 + d1) * 16 + d2) * 16 + d3 < 56320
  · have e := unit_high h ⟨hv.1, q⟩
    unfold mEscape at hm
    rw [hu, if_neg (by decide), if_pos rfl, e, if_pos ⟨rfl, rfl⟩] at hm
    simp only at hm
    split at hm
    · rename_i h1
      split at hm
      · rename_i h2
        exact ⟨h1, h2, hm⟩
      · cases hm
    · cases hm
  · rw [esc_unit_no hu (unit_lone h ⟨by omega, hv.2⟩)] at hm
    cases hm

/-- Twelve bytes, and no digits in the second half. -/
theorem su_none_q {l : List UInt8} {k d0 d1 d2 d3 : Nat} (h0 : l[k]? = some 92) (hu : seeB l (k + 1) = 117) (h : Dig4 l (k + 2) d0 d1 d2 d3) (hv : 55296 ≤ ((d0 * 16 + d1) * 16 + d2) * 16 + d3 ∧ ((d0 * 16 + d1) * 16 + d2) * 16 + d3 < 57344) (hl : k + 12 ≤ l.length)
    (hno : (mNeed l 92 92 (k + 6)).1 = true → (mNeed l 117 117 (k + 7)).1 = true → (mUnit false true l (k + 8)).1 = true → False) : ∃ k', k' < l.length ∧ QRun false l k (false, k') := by
  refine esc_far h0 ?_ hl
  cases e : (mEscape false l (k + 1)).1 with
  | false => rfl
  | true =>
    obtain ⟨a, b, c⟩ := esc_half hu h hv e
    exact (hno a b c).elim

theorem need_at {l : List UInt8} {k : Nat} {a : Nat} {y : UInt8} (hy : l[k]? = some y) (h : (mNeed l (a : Int) (a : Int) k).1 = true) : y.toNat = a := by
  obtain ⟨z, hz, h1, h2⟩ := need_get h
  rw [hy] at hz
  cases hz
  omega

/-- A second half that cannot become one. -/
theorem su_cut_bad {l : List UInt8} {k d0 d1 d2 d3 j : Nat} {y : UInt8} (h0 : l[k]? = some 92) (hu : seeB l (k + 1) = 117) (h : Dig4 l (k + 2) d0 d1 d2 d3) (hv : 55296 ≤ ((d0 * 16 + d1) * 16 + d2) * 16 + d3 ∧ ((d0 * 16 + d1) * 16 + d2) * 16 + d3 < 57344)
    (hy : l[k + 6 + j]? = some y) (hj6 : j < 6) (hj : prefAt true j y.toNat = false) : ∃ k', k' < l.length ∧ QRun false l k (false, k') := by
  have hkl : k + 6 + j < l.length := (List.getElem?_eq_some_iff.1 hy).1
  suffices hs : (mEscape false l (k + 1)).1 = false ∧ (mEscape false l (k + 1)).2 ≤ k + 6 + j from ⟨(mEscape false l (k + 1)).2, by have := hs.2; omega, .escNo h0 (Prod.ext hs.1 rfl)⟩
  by_cases q : ((d0 * 16 + d1) * 16 + d2) * 16 + d3 < 56320
  · have e := unit_high h ⟨hv.1, q⟩
    unfold mEscape
    rw [hu, if_neg (by decide), if_pos rfl, show k + 1 + 1 = k + 2 by omega, e, if_pos ⟨rfl, rfl⟩]
    simp only
    rw [show k + 2 + 4 = k + 6 by omega, show k + 6 + 1 + 1 = k + 8 by omega]
    by_cases q1 : (mNeed l 92 92 (k + 6)).1 = true
    · rw [if_pos q1]
      by_cases q2 : (mNeed l 117 117 (k + 6 + 1)).1 = true
      · rw [if_pos q2]
        have n0 : j ≠ 0 := fun e => by
          subst e
          have := need_at (a := 92) hy q1
          rw [this] at hj
          revert hj
          decide
        have n1 : j ≠ 1 := fun e => by
          subst e
          have := need_at (a := 117) hy q2
          rw [this] at hj
          revert hj
          decide
        unfold prefAt at hj
        rw [decide_eq_false_iff_not] at hj
        have hx : ∀ x : Int, hexAt l (k + 6 + j) = x → (j = 2 → x ≠ 13) ∧ (j = 3 → x < 12) ∧ (4 ≤ j → x = -1) := fun x hx => by
          cases hh : hexd y.toNat with
          | none =>
            have := hexAt_none hy hh
            exact ⟨fun _ => by omega, fun _ => by omega, fun _ => by omega⟩
          | some d =>
            have hg := (hexAt_some hy hh).1
            unfold hexd at hh
            refine ⟨fun e => ?_, fun e => ?_, fun e => ?_⟩
            all_goals
              split at hh
              · rename_i r
                cases hh
                first | omega | exact absurd ⟨by omega, by omega, by omega, by omega, by omega⟩ hj
              · split at hh
                · rename_i r
                  cases hh
                  first | omega | (exfalso; exact hj ⟨by omega, by omega, by simp; omega, by simp; omega, by omega⟩)
                · split at hh
                  · rename_i r
                    cases hh
                    first | omega | (exfalso; exact hj ⟨by omega, by omega, by simp; omega, by simp; omega, by omega⟩)
                  · cases hh
        have hxx := hx _ rfl
        have hout : ∀ (a b : Int), [((13 : Int), (13 : Int)), (12, 15), (0, 15), (0, 15)][j - 2]? = some (a, b) → (hexAt l (k + 8 + (j - 2)) < a ∨ b < hexAt l (k + 8 + (j - 2))) → (mUnit false true l (k + 8)).1 = false ∧ (mUnit false true l (k + 8)).2.1 ≤ k + 6 + j := fun a b e1 e2 => by
          have := hexs_out _ (k + 8) (j - 2) a b e1 e2
          unfold mUnit
          rw [if_neg (by decide), if_pos rfl]
          exact ⟨this.1, by have := this.2; simp only; omega⟩
        rw [show k + 8 + (j - 2) = k + 6 + j by omega] at hout
        rcases (show j = 2 ∨ j = 3 ∨ j = 4 ∨ j = 5 by omega) with rfl | rfl | rfl | rfl
        · exact hout 13 13 rfl (by have := hxx.1 rfl; omega)
        · exact hout 12 15 rfl (.inl (hxx.2.1 rfl))
        · exact hout 0 15 rfl (.inl (by have := hxx.2.2 (by omega); omega))
        · exact hout 0 15 rfl (.inl (by have := hxx.2.2 (by omega); omega))
      · rw [if_neg q2]
        refine ⟨rfl, ?_⟩
        show k + 6 + 1 ≤ k + 6 + j
        have n0 : j ≠ 0 := fun e => by
          subst e
          have := need_at (a := 92) hy q1
          rw [this] at hj
          revert hj
          decide
        omega
    · rw [if_neg q1]
      exact ⟨rfl, by show k + 6 ≤ _; omega⟩
  · have e := unit_lone h ⟨by omega, hv.2⟩
    rw [esc_unit_no hu e]
    exact ⟨rfl, by have h9 : (mUnit false false l (k + 2)).2.1 < k + 2 + 4 := unit_place e; show (mUnit false false l (k + 2)).2.1 ≤ _; omega⟩

/-- Fewer than twelve bytes behind a half. -/
theorem su_cut_short {l : List UInt8} {k d0 d1 d2 d3 : Nat} (h0 : l[k]? = some 92) (hu : seeB l (k + 1) = 117) (h : Dig4 l (k + 2) d0 d1 d2 d3) (hv : 55296 ≤ ((d0 * 16 + d1) * 16 + d2) * 16 + d3 ∧ ((d0 * 16 + d1) * 16 + d2) * 16 + d3 < 57344) (hl : l.length < k + 12) : ∃ k', QRun false l k (false, k') := by
  refine ⟨(mEscape false l (k + 1)).2, .escNo h0 (Prod.ext ?_ rfl)⟩
  cases e : (mEscape false l (k + 1)).1 with
  | false => rfl
  | true =>
    obtain ⟨a, b, c⟩ := esc_half hu h hv e
    obtain ⟨y, hy, _⟩ := need_get b
    have h7 : k + 7 < l.length := (List.getElem?_eq_some_iff.1 hy).1
    have := (unit_nodig (lo := false) (low := true) (l := l) (k := k + 8) (i := l.length - (k + 8)) (by omega) (hexAt_end (by omega))).1
    rw [show k + 1 + 7 = k + 8 by omega] at c
    rw [this] at c
    cases c

/-- A reading that ends too early, as the reference sees it; one that is wrong. -/
theorem esc_ends {vf : Bool} {l : List UInt8} {k : Nat} {t : List UInt8} (hdd : l.drop k = 92 :: t) :
    (sEsc vf (l.drop k) = .short → ∃ k', QRun (!vf) l k (false, k')) ∧ (sEsc vf (l.drop k) = .bad → ∃ k', k' < l.length ∧ QRun (!vf) l k (false, k')) := by
  have hd : At l k (l.drop k) := ⟨[], by simp⟩
  have h0 := hd.get 0 92 (by rw [hdd]; rfl)
  have hk : k < l.length := (List.getElem?_eq_some_iff.1 h0).1
  match t, hdd with
  | [], hdd =>
    have hlen : l.length = k + 1 := by
      have := congrArg List.length hdd
      rw [List.length_drop] at this
      simp at this
      omega
    have h1 : seeB l (k + 1) = 0 := see_end (by omega)
    refine ⟨fun _ => ⟨k + 1, .escNo h0 (esc_other (by rw [h1]; rfl) (by rw [h1]; decide))⟩, fun h => ?_⟩
    rw [hdd] at h
    cases h
  | x :: t, hdd =>
    have h1 := hd.see (i := 1) (y := x) (by rw [hdd]; rfl)
    have hk1 : k + 1 < l.length := (List.getElem?_eq_some_iff.1 (hd.get 1 x (by rw [hdd]; rfl))).1
    have hu : sEsc vf (l.drop k) = if simpleB x = true then .go 2 else if x = 117 then (if (l.drop k).length < 6 then (if prefB false (l.drop k) = true then .short else .bad) else match hex4 (((l.drop k).drop 2).take 4) with
        | none => .bad
        | some v1 => if vf = true ∧ 55296 ≤ v1 ∧ v1 < 57344 then sUnit (l.drop k) v1 else .go 6) else .bad := by
      rw [hdd]
      rfl
    rw [hu]
    by_cases q : simpleB x = true
    · rw [if_pos q]
      exact ⟨fun h => (by cases h), fun h => (by cases h)⟩
    rw [if_neg q]
    by_cases q2 : x = 117
    · subst q2
      rw [if_pos rfl]
      by_cases h6 : (l.drop k).length < 6
      · rw [if_pos h6]
        refine ⟨fun _ => esc_u_short hdd h6, fun h => ?_⟩
        split at h
        · cases h
        · rename_i hp
          exact esc_u_not hdd h6 (by simpa using hp)
      · rw [if_neg h6]
        cases hx : hex4 (((l.drop k).drop 2).take 4) with
        | none => exact ⟨fun h => (by cases h), fun _ => esc_u_bad hdd h6 hx⟩
        | some v1 =>
          simp only
          by_cases hv : vf = true ∧ 55296 ≤ v1 ∧ v1 < 57344
          · rw [if_pos hv]
            obtain ⟨rfl, hv1, hv2⟩ := hv
            have hsub : ∀ i y, (((l.drop k).drop 2).take 4)[i]? = some y → l[k + 2 + i]? = some y := fun i y hy => by
              rw [List.getElem?_take] at hy
              split at hy
              · rw [List.getElem?_drop] at hy
                rw [show k + 2 + i = k + (2 + i) by omega]
                exact hd.get _ _ hy
              · cases hy
            obtain ⟨d0, d1, d2, d3, hdig, hvv⟩ := dig4_of hsub hx
            have hv' : 55296 ≤ ((d0 * 16 + d1) * 16 + d2) * 16 + d3 ∧ ((d0 * 16 + d1) * 16 + d2) * 16 + d3 < 57344 := by omega
            have hdl : (l.drop k).length = l.length - k := List.length_drop
            by_cases h12 : (l.drop k).length < 12
            · refine ⟨fun _ => su_cut_short h0 h1 hdig hv' (by omega), fun h => ?_⟩
              unfold sUnit at h
              rw [if_pos h12] at h
              split at h
              · cases h
              · rename_i hp
                obtain ⟨j, y, hy, hj⟩ := pref_no (show prefB true ((l.drop k).drop 6) = false by simpa using hp)
                have hj2 : j < ((l.drop k).drop 6).length := (List.getElem?_eq_some_iff.1 hy).1
                rw [List.length_drop] at hj2
                rw [List.getElem?_drop] at hy
                exact su_cut_bad h0 h1 hdig hv' (j := j) (y := y) (by rw [show k + 6 + j = k + (6 + j) by omega]; exact hd.get _ _ hy) (by omega) hj
            · have hsub2 : ∀ i y, (((l.drop k).drop 8).take 4)[i]? = some y → l[k + 8 + i]? = some y := fun i y hy => by
                rw [List.getElem?_take] at hy
                split at hy
                · rw [List.getElem?_drop] at hy
                  rw [show k + 8 + i = k + (8 + i) by omega]
                  exact hd.get _ _ hy
                · cases hy
              have sub : ∀ hno, _ := fun hno => su_none_q h0 h1 hdig hv' (by omega) hno
              unfold sUnit
              rw [if_neg h12]
              cases hx2 : hex4 (((l.drop k).drop 8).take 4) with
              | none =>
                refine ⟨fun h => (by cases h), fun _ => sub fun _ _ c => ?_⟩
                obtain ⟨i, z, hi, hq, hn⟩ := hex4_none (by rw [List.length_take, List.length_drop]; omega) hx2
                have := (unit_nodig (lo := false) (low := true) (l := l) (k := k + 8) hi (hexAt_none (hsub2 i z hq) hn)).1
                rw [this] at c
                cases c
              | some v2 =>
                simp only
                obtain ⟨e0, e1, e2, e3, hdig2, hvv2⟩ := dig4_of hsub2 hx2
                by_cases hp : ((l.drop k).drop 6).take 2 = [92, 117]
                · rw [if_pos hp]
                  cases hpv : pairV v1 v2 with
                  | some r => exact ⟨fun h => (by cases h), fun h => (by cases h)⟩
                  | none =>
                    refine ⟨fun h => (by cases h), fun _ => ?_⟩
                    by_cases q5 : v1 < 56320
                    · refine sub fun _ _ c => ?_
                      have hn2 : ¬ (56320 ≤ v2 ∧ v2 < 57344) := fun hh => by
                        unfold pairV at hpv
                        rw [if_pos ⟨hv1, q5, hh.1, hh.2⟩] at hpv
                        cases hpv
                      rw [unit_notsecond hdig2 (by rw [← hvv2]; exact hn2)] at c
                      cases c
                    · exact esc_far h0 (congrArg Prod.fst (esc_unit_no (lo := false) h1 (unit_lone hdig ⟨by omega, hv'.2⟩))) (by omega)
                · rw [if_neg hp]
                  refine ⟨fun h => (by cases h), fun _ => sub fun a b _ => hp ?_⟩
                  obtain ⟨y, hy, y1, y2⟩ := need_get a
                  obtain ⟨z, hz, z1, z2⟩ := need_get b
                  have ey : y = 92 := UInt8.toNat_inj.1 (by show y.toNat = 92; omega)
                  have ez : z = 117 := UInt8.toNat_inj.1 (by show z.toNat = 117; omega)
                  subst ey ez
                  have g6 : k + 6 < l.length := by omega
                  have g7 : k + 6 + 1 < l.length := by omega
                  rw [List.drop_drop, List.drop_eq_getElem_cons g6, List.drop_eq_getElem_cons g7]
                  rw [List.getElem?_eq_getElem g6] at hy
                  rw [List.getElem?_eq_getElem g7] at hz
                  show [l[k + 6], l[k + 6 + 1]] = _
                  rw [Option.some.inj hy, Option.some.inj hz]
          · rw [if_neg hv]
            exact ⟨fun h => (by cases h), fun h => (by cases h)⟩
    · rw [if_neg q2]
      refine ⟨fun h => (by cases h), fun _ => ⟨k + 1, hk1, .escNo h0 (esc_other ?_ ?_)⟩⟩
      · rw [h1, simple_same]
        simpa using q
      · rw [h1]
        exact fun e => q2 (UInt8.toNat_inj.1 (by show x.toNat = 117; omega))

theorem step_ends {vf : Bool} {l : List UInt8} {k : Nat} : (sStep vf (l.drop k) = .short → ∃ k', QRun (!vf) l k (false, k')) ∧ (sStep vf (l.drop k) = .bad → ∃ k', k' < l.length ∧ QRun (!vf) l k (false, k')) := by
  have hd : At l k (l.drop k) := ⟨[], by simp⟩
  cases hdd : l.drop k with
  | nil =>
    have hk : l.length ≤ k := List.drop_eq_nil_iff.1 hdd
    exact ⟨fun _ => ⟨k, .eof hk⟩, fun h => (by cases h)⟩
  | cons a t =>
    have h0 := hd.get 0 a (by rw [hdd]; rfl)
    have hk : k < l.length := (List.getElem?_eq_some_iff.1 h0).1
    rw [← hdd]
    by_cases n34 : a = 34
    · subst n34
      rw [ss_quote hdd]
      exact ⟨fun h => (by cases h), fun h => (by cases h)⟩
    by_cases n92 : a = 92
    · subst n92
      rw [ss_esc hdd]
      exact esc_ends hdd
    by_cases n32 : a.toNat < 32
    · rw [ss_ctrl hdd n32]
      exact ⟨fun h => (by cases h), fun _ => ⟨k, hk, .ctrl h0 n32⟩⟩
    by_cases hex : ∃ m, CharAt (l.drop k) m
    · obtain ⟨m, hm⟩ := hex
      rw [ss_char hdd n34 n92 (by omega) hm]
      exact ⟨fun h => (by cases h), fun h => (by cases h)⟩
    · have hno : ∀ m, ¬ CharAt (l.drop k) m := fun m h => hex ⟨m, h⟩
      have h128 : 128 ≤ a.toNat := by
        rcases Nat.lt_or_ge a.toNat 128 with q | q
        · exact absurd (.inl ⟨rfl, a, t, hdd, q⟩) (hno 1)
        · exact q
      rw [ss_bad hdd h128 hno]
      cases hf : fullB (l.drop k) with
      | false => exact ⟨fun _ => cut_short hdd h128 hno hf, fun h => (by cases h)⟩
      | true =>
        cases vf with
        | true => exact ⟨fun h => (by cases h), fun _ => char_bad hdd h128 hno hf⟩
        | false => exact ⟨fun h => (by cases h), fun h => (by cases h)⟩

/-- What is read step by step, and what the reference says of it. -/
def SAgree (len : Nat) (r : Bool × Nat) (p : Nat × Nat) : Prop :=
  (p.2 = 0 ∧ r.1 = true ∧ p.1 = r.2 + 1) ∨ (p.2 = 1 ∧ r.1 = false) ∨ (p.2 = 2 ∧ r.1 = false ∧ r.2 < len)

theorem run_agree {vf : Bool} {l : List UInt8} {k : Nat} {p : Nat × Nat} (h : SRun vf l k p) : ∃ r, QRun (!vf) l k r ∧ SAgree l.length r p := by
  induction h with
  | @fine k hs => exact ⟨_, step_fine hs, .inl ⟨rfl, rfl, rfl⟩⟩
  | short hs =>
    obtain ⟨k', hq⟩ := step_ends.1 hs
    exact ⟨_, hq, .inr (.inl ⟨rfl, rfl⟩)⟩
  | bad hs =>
    obtain ⟨k', hlt, hq⟩ := step_ends.2 hs
    exact ⟨_, hq, .inr (.inr ⟨rfl, rfl, hlt⟩)⟩
  | go hs _ ih =>
    obtain ⟨r, hr, ha⟩ := ih
    exact ⟨r, step_go ⟨[], by simp⟩ hs hr, ha⟩

/-- Where a part ends too early, the reading of the whole may go on. -/
theorem run_resume {vf : Bool} {l : List UInt8} {c k : Nat} {p : Nat × Nat} (h : SRun vf (l.take c) k p) : p.2 = 1 → ∀ r, QRun (!vf) l p.1 r → QRun (!vf) l k r := by
  induction h with
  | fine _ => intro h; cases h
  | short _ => intro _ r hr; exact hr
  | bad _ => intro h; cases h
  | go hs _ ih => intro h r hr; exact step_go (At.take l c _) hs (ih h r hr)

theorem run_ge {vf : Bool} {l : List UInt8} {k : Nat} {p : Nat × Nat} (h : SRun vf l k p) : k ≤ p.1 := by
  induction h with
  | fine _ => exact Nat.le_succ _
  | short _ => exact Nat.le_refl _
  | bad _ => exact Nat.le_refl _
  | go _ _ ih => omega

end Go.Proofs.YtifemmjblamfkaaDoor.Wire
