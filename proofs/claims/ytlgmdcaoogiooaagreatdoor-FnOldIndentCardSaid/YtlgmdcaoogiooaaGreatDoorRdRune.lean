/- The reference's reader: one character of more than one byte. -/
import Derived.Test.YtlgmdcaoogiooaaGreatDoorSpcW
import Derived.Test.YtlgmdcaoogiooaaGreatDoorChar
namespace Go.Proofs.YtlgmdcaoogiooaaGreatDoor
open Go.RowKit

/-- What 'rune' leaves. -/
structure RuneRes (w : World) (b : Nat) (s : ByteArray) (k : Nat) (tw lo : Bool) (f : Int) (op : Bool) (e : Ending) (w' : World) : Prop where
  what : ∃ (ok : Bool) (k' : Nat), Step w b s tw lo f op (ok, k') e w' ∧ (ok = true → ∃ n, 2 ≤ n ∧ CharAt (s.data.toList.drop k) n ∧ k' = k + n) ∧ (ok = false → ∀ n, 2 ≤ n → ¬ CharAt (s.data.toList.drop k) n)

theorem need_true {l : List UInt8} {lo hi : Int} {k : Nat} (h : (mNeed l lo hi k).1 = true) : ∃ d, l[k]? = some d ∧ lo ≤ (d.toNat : Int) ∧ (d.toNat : Int) ≤ hi ∧ (mNeed l lo hi k).2 = k + 1 := by
  unfold mNeed at h ⊢
  cases hd : l[k]? with
  | none => rw [hd] at h; simp at h
  | some d =>
    rw [hd] at h
    simp only at h ⊢
    by_cases hc : lo ≤ (d.toNat : Int) ∧ (d.toNat : Int) ≤ hi
    · rw [if_pos hc]
      exact ⟨d, rfl, hc.1, hc.2, rfl⟩
    · rw [if_neg hc] at h
      simp at h

theorem need_yes {l : List UInt8} {lo hi : Int} {k : Nat} {d : UInt8} (h : l[k]? = some d) (h1 : lo ≤ (d.toNat : Int)) (h2 : (d.toNat : Int) ≤ hi) : (mNeed l lo hi k).1 = true := by
  unfold mNeed
  rw [h]
  simp only
  rw [if_pos ⟨h1, h2⟩]

/-- What the bytes of a character are. -/
theorem char_needs {l : List UInt8} {k n : Nat} {c : Int} (hc : seeB l k = c) (h : CharAt (l.drop k) n) (hn : 2 ≤ n) :
    (194 ≤ c ∧ c ≤ 223 ∧ (mNeed l 128 191 (k + 1)).1 = true) ∨
    (224 ≤ c ∧ c ≤ 239 ∧ (∀ lo hi, (c = 224 ∧ lo = 160 ∧ hi = 191) ∨ (c = 237 ∧ lo = 128 ∧ hi = 159) ∨ (c ≠ 224 ∧ c ≠ 237 ∧ lo = 128 ∧ hi = 191) → (mNeed l lo hi (k + 1)).1 = true) ∧ (mNeed l 128 191 (k + 1 + 1)).1 = true) ∨
    (240 ≤ c ∧ c ≤ 244 ∧ (∀ lo hi, (c = 240 ∧ lo = 144 ∧ hi = 191) ∨ (c = 244 ∧ lo = 128 ∧ hi = 143) ∨ (c ≠ 240 ∧ c ≠ 244 ∧ lo = 128 ∧ hi = 191) → (mNeed l lo hi (k + 1)).1 = true) ∧ (mNeed l 128 191 (k + 1 + 1)).1 = true ∧ (mNeed l 128 191 (k + 1 + 1 + 1)).1 = true) := by
  have g0 : l[k]? = (l.drop k)[0]? := by simp
  have g1 : l[k + 1]? = (l.drop k)[1]? := by simp
  have g2 : l[k + 1 + 1]? = (l.drop k)[2]? := by simp [Nat.add_assoc]
  have g3 : l[k + 1 + 1 + 1]? = (l.drop k)[3]? := by simp [Nat.add_assoc]
  unfold seeB at hc
  rcases h with ⟨rfl, _⟩ | ⟨rfl, a, b, t, e, h1, h2, h3⟩ | ⟨rfl, a, b, d, t, e, h1, h2, h3, h4, h5, h6⟩ | ⟨rfl, a, b, d, x, t, e, h1, h2, h3, h4, h5, h6, h7⟩
  · omega
  · rw [e] at g0 g1
    simp at g0 g1
    rw [g0] at hc
    simp only at hc
    unfold cont at h3
    exact .inl ⟨by omega, by omega, need_yes g1 (by omega) (by omega)⟩
  · rw [e] at g0 g1 g2
    simp at g0 g1 g2
    rw [g0] at hc
    simp only at hc
    unfold cont at h3 h4
    refine .inr (.inl ⟨by omega, by omega, fun lo hi hh => ?_, need_yes g2 (by omega) (by omega)⟩)
    have q1 : lo ≤ (b.toNat : Int) := by
      rcases hh with ⟨q, rfl, rfl⟩ | ⟨q, rfl, rfl⟩ | ⟨q, q', rfl, rfl⟩
      · have := h5 (by omega); omega
      · omega
      · omega
    have q2 : (b.toNat : Int) ≤ hi := by
      rcases hh with ⟨q, rfl, rfl⟩ | ⟨q, rfl, rfl⟩ | ⟨q, q', rfl, rfl⟩
      · omega
      · have := h6 (by omega); omega
      · omega
    exact need_yes g1 q1 q2
  · rw [e] at g0 g1 g2 g3
    simp at g0 g1 g2 g3
    rw [g0] at hc
    simp only at hc
    unfold cont at h3 h4 h5
    refine .inr (.inr ⟨by omega, by omega, fun lo hi hh => ?_, need_yes g2 (by omega) (by omega), need_yes g3 (by omega) (by omega)⟩)
    have q1 : lo ≤ (b.toNat : Int) := by
      rcases hh with ⟨q, rfl, rfl⟩ | ⟨q, rfl, rfl⟩ | ⟨q, q', rfl, rfl⟩
      · have := h6 (by omega); omega
      · omega
      · omega
    have q2 : (b.toNat : Int) ≤ hi := by
      rcases hh with ⟨q, rfl, rfl⟩ | ⟨q, rfl, rfl⟩ | ⟨q, q', rfl, rfl⟩
      · omega
      · have := h7 (by omega); omega
      · omega
    exact need_yes g1 q1 q2

theorem not2 {l : List UInt8} {k : Nat} {c : Int} (hc : seeB l k = c) (h1 : 194 ≤ c) (h2 : c ≤ 223) (h : (mNeed l 128 191 (k + 1)).1 = false) (n : Nat) (hn : 2 ≤ n) : ¬ CharAt (l.drop k) n := fun hch => by
  rcases char_needs hc hch hn with q | q | q
  · rw [h] at q; cases q.2.2
  · omega
  · omega

theorem not3a {l : List UInt8} {k k1 : Nat} {c lo hi : Int} (hc : seeB l k = c) (h1 : 224 ≤ c) (h2 : c ≤ 239) (hcl : (c = 224 ∧ lo = 160 ∧ hi = 191) ∨ (c = 237 ∧ lo = 128 ∧ hi = 159) ∨ (c ≠ 224 ∧ c ≠ 237 ∧ lo = 128 ∧ hi = 191)) (h : mNeed l lo hi (k + 1) = (false, k1)) (n : Nat) (hn : 2 ≤ n) : ¬ CharAt (l.drop k) n := fun hch => by
  rcases char_needs hc hch hn with q | q | q
  · omega
  · have := q.2.2.1 lo hi hcl; rw [h] at this; cases this
  · omega

theorem not3b {l : List UInt8} {k k1 : Nat} {b : Bool} {c : Int} (hc : seeB l k = c) (h1 : 224 ≤ c) (h2 : c ≤ 239) (h : mNeed l 128 191 (k + 1 + 1) = (b, k1)) (hb : b = false) (n : Nat) (hn : 2 ≤ n) : ¬ CharAt (l.drop k) n := fun hch => by
  subst hb
  rcases char_needs hc hch hn with q | q | q
  · omega
  · have := q.2.2.2; rw [h] at this; cases this
  · omega

theorem not4a {l : List UInt8} {k k1 : Nat} {c lo hi : Int} (hc : seeB l k = c) (h1 : 240 ≤ c) (h2 : c ≤ 244) (hcl : (c = 240 ∧ lo = 144 ∧ hi = 191) ∨ (c = 244 ∧ lo = 128 ∧ hi = 143) ∨ (c ≠ 240 ∧ c ≠ 244 ∧ lo = 128 ∧ hi = 191)) (h : mNeed l lo hi (k + 1) = (false, k1)) (n : Nat) (hn : 2 ≤ n) : ¬ CharAt (l.drop k) n := fun hch => by
  rcases char_needs hc hch hn with q | q | q
  · omega
  · omega
  · have := q.2.2.1 lo hi hcl; rw [h] at this; cases this

theorem not4b {l : List UInt8} {k k1 : Nat} {c : Int} (hc : seeB l k = c) (h1 : 240 ≤ c) (h2 : c ≤ 244) (h : mNeed l 128 191 (k + 1 + 1) = (false, k1)) (n : Nat) (hn : 2 ≤ n) : ¬ CharAt (l.drop k) n := fun hch => by
  rcases char_needs hc hch hn with q | q | q
  · omega
  · omega
  · have := q.2.2.2.1; rw [h] at this; cases this

theorem not4c {l : List UInt8} {k k1 : Nat} {b : Bool} {c : Int} (hc : seeB l k = c) (h1 : 240 ≤ c) (h2 : c ≤ 244) (h : mNeed l 128 191 (k + 1 + 1 + 1) = (b, k1)) (hb : b = false) (n : Nat) (hn : 2 ≤ n) : ¬ CharAt (l.drop k) n := fun hch => by
  subst hb
  rcases char_needs hc hch hn with q | q | q
  · omega
  · omega
  · have := q.2.2.2.2; rw [h] at this; cases this

theorem not_none {l : List UInt8} {k : Nat} {c : Int} (hc : seeB l k = c) (h1 : c < 194 ∨ 244 < c) (n : Nat) (hn : 2 ≤ n) : ¬ CharAt (l.drop k) n := fun hch => by
  rcases char_needs hc hch hn with q | q | q <;> omega

theorem rune_two (b : Nat) (s : ByteArray) (k : Nat) (tw lo : Bool) (f : Int) (op : Bool) (w : World) (hs : s.size ≤ 100000000000) (h : Rd w b s k tw lo f op) (c : Int) (hc : seeB s.data.toList k = c) (h1 : 194 ≤ c) (h2 : c ≤ 223) :
    Calls Tryz.prog 69 #[.pointer (some ⟨b, 0, none⟩)] w (RuneRes w b s k tw lo f op) := by
  have H := Lib.hid h
  have HC := Lib.hid hc
  obtain ⟨c0, c1, _, _, f1, _⟩ := h.cells
  have hlt := h.lt
  have hk : k < s.size := by
    rcases Nat.lt_or_ge k s.size with h | h
    · exact h
    · unfold seeB at hc
      rw [List.getElem?_eq_none (by rw [size_eq]; omega)] at hc
      simp at hc
      omega
  clear h hc
  go_enter Tryz.func69, Tryz.ntmps69
  go_wp2_with fail
  refine (see_any b s k tw lo f op _ H.out).mono ?_
  rintro e w1 ⟨rfl, n, rfl⟩
  rw [HC.out]
  go_wp2_with fail
  have hrd : Rd ((w.drewN n).setCell ⟨b, 1, none⟩ (.int .i64 ((k : Int) + 1))) b s (k + 1) tw lo f op := by
    have := (H.out.drewN n).setAt (k + 1) hk
    simpa using this
  have HRD := Lib.hid hrd
  clear hrd
  refine (need_any b s (k + 1) tw lo f op 128 191 _ (by omega) HRD.out).mono ?_
  rintro e w2 ⟨rfl, hst⟩
  have HS := Lib.hid hst
  clear hst
  go_wp2_with fail
  go_ret
  refine ⟨_, _, ⟨rfl, Stood.from (grown_set (grown_drewN (grown_refl w _) n) _ _) rfl HS.out⟩, fun hok => ?_, fun hok => not2 HC.out h1 h2 hok⟩
  obtain ⟨d, hd, hd1, hd2, hk2⟩ := need_true hok
  refine ⟨2, Nat.le_refl _, ?_, hk2⟩
  have hc' := HC.out
  have e0 : (s.data.toList.drop k)[0]? = s.data.toList[k]? := by simp
  have e1 : (s.data.toList.drop k)[1]? = s.data.toList[k + 1]? := by simp
  rw [hd] at e1
  unfold seeB at hc'
  cases hx : s.data.toList[k]? with
  | none => rw [hx] at hc'; simp at hc'; omega
  | some x =>
    rw [hx] at hc' e0
    match hl : s.data.toList.drop k with
    | [] => rw [hl] at e0; simp at e0
    | [_] => rw [hl] at e1; simp at e1
    | y :: z :: t =>
      rw [hl] at e0 e1
      simp at e0 e1
      subst e0 e1
      simp only at hc'
      exact .inr (.inl ⟨rfl, _, _, t, rfl, by omega, by omega, by unfold cont; omega⟩)

/-- The two bytes behind the first one of three. -/
theorem three_char {l : List UInt8} {k : Nat} {c lo hi : Int} (hc : seeB l k = c) (h1 : 224 ≤ c) (h2 : c ≤ 239) (hcl : (c = 224 ∧ lo = 160 ∧ hi = 191) ∨ (c = 237 ∧ lo = 128 ∧ hi = 159) ∨ (c ≠ 224 ∧ c ≠ 237 ∧ lo = 128 ∧ hi = 191))
    (g1 : (mNeed l lo hi (k + 1)).1 = true) (g2 : (mNeed l 128 191 (k + 1 + 1)).1 = true) : CharAt (l.drop k) 3 ∧ (mNeed l 128 191 (k + 1 + 1)).2 = k + 3 := by
  obtain ⟨d, hd, hd1, hd2, _⟩ := need_true g1
  obtain ⟨e, he, he1, he2, hk2⟩ := need_true g2
  refine ⟨?_, hk2⟩
  have e0 : (l.drop k)[0]? = l[k]? := by simp
  have e1 : (l.drop k)[1]? = l[k + 1]? := by simp
  have e2 : (l.drop k)[2]? = l[k + 1 + 1]? := by simp
  rw [hd] at e1
  rw [he] at e2
  unfold seeB at hc
  cases hx : l[k]? with
  | none => rw [hx] at hc; simp at hc; omega
  | some x =>
    rw [hx] at hc e0
    match hl : l.drop k with
    | [] => rw [hl] at e0; simp at e0
    | [_] => rw [hl] at e1; simp at e1
    | [_, _] => rw [hl] at e2; simp at e2
    | y :: z :: u :: t =>
      rw [hl] at e0 e1 e2
      simp at e0 e1 e2
      subst e0 e1 e2
      simp only at hc
      exact .inr (.inr (.inl ⟨rfl, _, _, _, t, rfl, by omega, by omega, by unfold cont; omega, by unfold cont; omega, by omega, by omega⟩))

theorem see_lt {s : ByteArray} {k : Nat} {c : Int} (hc : seeB s.data.toList k = c) (h : 0 < c) : k < s.size := by
  rcases Nat.lt_or_ge k s.size with h' | h'
  · exact h'
  · unfold seeB at hc
    rw [List.getElem?_eq_none (by rw [size_eq]; omega)] at hc
    simp at hc
    omega

theorem rune_three_mid (b : Nat) (s : ByteArray) (k : Nat) (tw lo : Bool) (f : Int) (op : Bool) (w : World) (hs : s.size ≤ 100000000000) (h : Rd w b s k tw lo f op) (c : Int) (hc : seeB s.data.toList k = c) (h1 : 225 ≤ c) (h2 : c ≤ 239) (h3 : c ≠ 237) :
    Calls Tryz.prog 69 #[.pointer (some ⟨b, 0, none⟩)] w (RuneRes w b s k tw lo f op) := by
  have H := Lib.hid h
  have HC := Lib.hid hc
  obtain ⟨c0, c1, _, _, f1, _⟩ := h.cells
  have hlt := h.lt
  have hk : k < s.size := see_lt hc (by omega)
  clear h hc
  have n224 : (c == 224) = false := by rw [beq_eq_false_iff_ne]; omega
  have n237 : (c == 237) = false := by rw [beq_eq_false_iff_ne]; omega
  have n223 : ¬ c ≤ 223 := by omega
  have n194 : 194 ≤ c := by omega
  have n224' : 224 ≤ c := by omega
  go_enter Tryz.func69, Tryz.ntmps69
  go_wp2_with fail
  refine (see_any b s k tw lo f op _ H.out).mono ?_
  rintro e w1 ⟨rfl, n, rfl⟩
  rw [HC.out]
  go_wp2_with fail
  have hrd : Rd ((w.drewN n).setCell ⟨b, 1, none⟩ (.int .i64 ((k : Int) + 1))) b s (k + 1) tw lo f op := by
    have := (H.out.drewN n).setAt (k + 1) hk
    simpa using this
  have HRD := Lib.hid hrd
  clear hrd
  obtain ⟨r1, hr1⟩ : ∃ r1, mNeed s.data.toList 128 191 (k + 1) = r1 := ⟨_, rfl⟩
  obtain ⟨ok1, k1⟩ := r1
  have HR1 := Lib.hid hr1
  refine (need_any b s (k + 1) tw lo f op 128 191 _ (by omega) HRD.out).mono ?_
  rw [hr1]
  clear hr1
  rintro e w2 ⟨rfl, hst⟩
  have HS := Lib.hid hst
  clear hst
  cases ok1 with
  | false =>
    go_wp2_with fail
    go_ret
    exact ⟨false, k1, ⟨rfl, Stood.from (grown_set (grown_drewN (grown_refl w _) n) _ _) rfl HS.out⟩, fun hok => (by cases hok), fun _ => not3a HC.out (by omega) (by omega) (.inr (.inr ⟨by omega, by omega, rfl, rfl⟩)) HR1.out⟩
  | true =>
    obtain ⟨_, _, _, _, hk1⟩ := need_true (l := s.data.toList) (lo := 128) (hi := 191) (k := k + 1) (by rw [HR1.out])
    rw [HR1.out] at hk1
    simp only at hk1
    subst hk1
    obtain ⟨f', hrd2, hf2, _⟩ := HS.out.rd
    obtain rfl := hf2 rfl
    have HRD2 := Lib.hid hrd2
    clear hrd2 hf2
    go_wp2_with fail
    refine (need_any b s (k + 1 + 1) tw lo f' op 128 191 _ (by omega) HRD2.out).mono ?_
    obtain ⟨r2, hr2⟩ : ∃ r2, mNeed s.data.toList 128 191 (k + 1 + 1) = r2 := ⟨_, rfl⟩
    obtain ⟨ok2, k2⟩ := r2
    have HR2 := Lib.hid hr2
    rw [hr2]
    clear hr2
    rintro e w3 ⟨rfl, hst⟩
    have HS2 := Lib.hid hst
    clear hst
    go_wp2_with fail
    go_ret
    refine ⟨ok2, k2, ⟨rfl, Stood.from ((grown_set (grown_drewN (grown_refl w _) n) _ _).trans HS.out.grown) rfl HS2.out⟩, fun hok => ?_, fun hok => not3b HC.out (by omega) (by omega) HR2.out hok⟩
    have q := three_char HC.out (by omega) (by omega) (.inr (.inr ⟨by omega, by omega, rfl, rfl⟩)) (by rw [HR1.out]) (by rw [HR2.out]; exact hok)
    rw [HR2.out] at q
    exact ⟨3, by omega, q.1, q.2⟩

theorem rune_three_low (b : Nat) (s : ByteArray) (k : Nat) (tw lo : Bool) (f : Int) (op : Bool) (w : World) (hs : s.size ≤ 100000000000) (h : Rd w b s k tw lo f op) (c : Int) (hc : seeB s.data.toList k = c) (h1 : c = 224) :
    Calls Tryz.prog 69 #[.pointer (some ⟨b, 0, none⟩)] w (RuneRes w b s k tw lo f op) := by
  have H := Lib.hid h
  have HC := Lib.hid hc
  obtain ⟨c0, c1, _, _, f1, _⟩ := h.cells
  have hlt := h.lt
  have hk : k < s.size := see_lt hc (by omega)
  clear h hc
  subst h1
  go_enter Tryz.func69, Tryz.ntmps69
  go_wp2_with fail
  refine (see_any b s k tw lo f op _ H.out).mono ?_
  rintro e w1 ⟨rfl, n, rfl⟩
  rw [HC.out]
  go_wp2_with fail
  have hrd : Rd ((w.drewN n).setCell ⟨b, 1, none⟩ (.int .i64 ((k : Int) + 1))) b s (k + 1) tw lo f op := by
    have := (H.out.drewN n).setAt (k + 1) hk
    simpa using this
  have HRD := Lib.hid hrd
  clear hrd
  obtain ⟨r1, hr1⟩ : ∃ r1, mNeed s.data.toList 160 191 (k + 1) = r1 := ⟨_, rfl⟩
  obtain ⟨ok1, k1⟩ := r1
  have HR1 := Lib.hid hr1
  refine (need_any b s (k + 1) tw lo f op 160 191 _ (by omega) HRD.out).mono ?_
  rw [hr1]
  clear hr1
  rintro e w2 ⟨rfl, hst⟩
  have HS := Lib.hid hst
  clear hst
  cases ok1 with
  | false =>
    go_wp2_with fail
    go_ret
    exact ⟨false, k1, ⟨rfl, Stood.from (grown_set (grown_drewN (grown_refl w _) n) _ _) rfl HS.out⟩, fun hok => (by cases hok), fun _ => not3a HC.out (by omega) (by omega) (.inl ⟨rfl, rfl, rfl⟩) HR1.out⟩
  | true =>
    obtain ⟨_, _, _, _, hk1⟩ := need_true (l := s.data.toList) (lo := 160) (hi := 191) (k := k + 1) (by rw [HR1.out])
    rw [HR1.out] at hk1
    simp only at hk1
    subst hk1
    obtain ⟨f', hrd2, hf2, _⟩ := HS.out.rd
    obtain rfl := hf2 rfl
    have HRD2 := Lib.hid hrd2
    clear hrd2 hf2
    go_wp2_with fail
    refine (need_any b s (k + 1 + 1) tw lo f' op 128 191 _ (by omega) HRD2.out).mono ?_
    obtain ⟨r2, hr2⟩ : ∃ r2, mNeed s.data.toList 128 191 (k + 1 + 1) = r2 := ⟨_, rfl⟩
    obtain ⟨ok2, k2⟩ := r2
    have HR2 := Lib.hid hr2
    rw [hr2]
    clear hr2
    rintro e w3 ⟨rfl, hst⟩
    have HS2 := Lib.hid hst
    clear hst
    go_wp2_with fail
    go_ret
    refine ⟨ok2, k2, ⟨rfl, Stood.from ((grown_set (grown_drewN (grown_refl w _) n) _ _).trans HS.out.grown) rfl HS2.out⟩, fun hok => ?_, fun hok => not3b HC.out (by omega) (by omega) HR2.out hok⟩
    have q := three_char HC.out (by omega) (by omega) (.inl ⟨rfl, rfl, rfl⟩) (by rw [HR1.out]) (by rw [HR2.out]; exact hok)
    rw [HR2.out] at q
    exact ⟨3, by omega, q.1, q.2⟩

theorem rune_three_high (b : Nat) (s : ByteArray) (k : Nat) (tw lo : Bool) (f : Int) (op : Bool) (w : World) (hs : s.size ≤ 100000000000) (h : Rd w b s k tw lo f op) (c : Int) (hc : seeB s.data.toList k = c) (h1 : c = 237) :
    Calls Tryz.prog 69 #[.pointer (some ⟨b, 0, none⟩)] w (RuneRes w b s k tw lo f op) := by
  have H := Lib.hid h
  have HC := Lib.hid hc
  obtain ⟨c0, c1, _, _, f1, _⟩ := h.cells
  have hlt := h.lt
  have hk : k < s.size := see_lt hc (by omega)
  clear h hc
  subst h1
  go_enter Tryz.func69, Tryz.ntmps69
  go_wp2_with fail
  refine (see_any b s k tw lo f op _ H.out).mono ?_
  rintro e w1 ⟨rfl, n, rfl⟩
  rw [HC.out]
  go_wp2_with fail
  have hrd : Rd ((w.drewN n).setCell ⟨b, 1, none⟩ (.int .i64 ((k : Int) + 1))) b s (k + 1) tw lo f op := by
    have := (H.out.drewN n).setAt (k + 1) hk
    simpa using this
  have HRD := Lib.hid hrd
  clear hrd
  obtain ⟨r1, hr1⟩ : ∃ r1, mNeed s.data.toList 128 159 (k + 1) = r1 := ⟨_, rfl⟩
  obtain ⟨ok1, k1⟩ := r1
  have HR1 := Lib.hid hr1
  refine (need_any b s (k + 1) tw lo f op 128 159 _ (by omega) HRD.out).mono ?_
  rw [hr1]
  clear hr1
  rintro e w2 ⟨rfl, hst⟩
  have HS := Lib.hid hst
  clear hst
  cases ok1 with
  | false =>
    go_wp2_with fail
    go_ret
    exact ⟨false, k1, ⟨rfl, Stood.from (grown_set (grown_drewN (grown_refl w _) n) _ _) rfl HS.out⟩, fun hok => (by cases hok), fun _ => not3a HC.out (by omega) (by omega) (.inr (.inl ⟨rfl, rfl, rfl⟩)) HR1.out⟩
  | true =>
    obtain ⟨_, _, _, _, hk1⟩ := need_true (l := s.data.toList) (lo := 128) (hi := 159) (k := k + 1) (by rw [HR1.out])
    rw [HR1.out] at hk1
    simp only at hk1
    subst hk1
    obtain ⟨f', hrd2, hf2, _⟩ := HS.out.rd
    obtain rfl := hf2 rfl
    have HRD2 := Lib.hid hrd2
    clear hrd2 hf2
    go_wp2_with fail
    refine (need_any b s (k + 1 + 1) tw lo f' op 128 191 _ (by omega) HRD2.out).mono ?_
    obtain ⟨r2, hr2⟩ : ∃ r2, mNeed s.data.toList 128 191 (k + 1 + 1) = r2 := ⟨_, rfl⟩
    obtain ⟨ok2, k2⟩ := r2
    have HR2 := Lib.hid hr2
    rw [hr2]
    clear hr2
    rintro e w3 ⟨rfl, hst⟩
    have HS2 := Lib.hid hst
    clear hst
    go_wp2_with fail
    go_ret
    refine ⟨ok2, k2, ⟨rfl, Stood.from ((grown_set (grown_drewN (grown_refl w _) n) _ _).trans HS.out.grown) rfl HS2.out⟩, fun hok => ?_, fun hok => not3b HC.out (by omega) (by omega) HR2.out hok⟩
    have q := three_char HC.out (by omega) (by omega) (.inr (.inl ⟨rfl, rfl, rfl⟩)) (by rw [HR1.out]) (by rw [HR2.out]; exact hok)
    rw [HR2.out] at q
    exact ⟨3, by omega, q.1, q.2⟩

theorem rune_none (b : Nat) (s : ByteArray) (k : Nat) (tw lo : Bool) (f : Int) (op : Bool) (w : World) (h : Rd w b s k tw lo f op) (c : Int) (hc : seeB s.data.toList k = c) (h1 : c < 194 ∨ 244 < c) :
    Calls Tryz.prog 69 #[.pointer (some ⟨b, 0, none⟩)] w (RuneRes w b s k tw lo f op) := by
  have H := Lib.hid h
  have HC := Lib.hid hc
  clear h hc
  go_enter Tryz.func69, Tryz.ntmps69
  go_wp2_with fail
  refine (see_any b s k tw lo f op _ H.out).mono ?_
  rintro e w1 ⟨rfl, n, rfl⟩
  rw [HC.out]
  rcases h1 with h1 | h1
  · have q1 : ¬ 194 ≤ c := by omega
    have q2 : ¬ 224 ≤ c := by omega
    have q3 : ¬ 240 ≤ c := by omega
    go_wp2_with fail
    refine (fail_any b s k tw lo f op _ (by decide) _ (H.out.drewN n)).mono ?_
    rintro e w2 ⟨rfl, hst⟩
    have HS := Lib.hid hst
    clear hst
    go_wp2_with fail
    go_ret
    exact ⟨false, k, ⟨rfl, Stood.from (grown_drewN (grown_refl w _) n) rfl HS.out⟩, fun hok => (by cases hok), fun _ => not_none HC.out (.inl h1)⟩
  · have q1 : 194 ≤ c := by omega
    have q1' : ¬ c ≤ 223 := by omega
    have q2 : 224 ≤ c := by omega
    have q2' : ¬ c ≤ 239 := by omega
    have q3 : 240 ≤ c := by omega
    have q3' : ¬ c ≤ 244 := by omega
    go_wp2_with fail
    refine (fail_any b s k tw lo f op _ (by decide) _ (H.out.drewN n)).mono ?_
    rintro e w2 ⟨rfl, hst⟩
    have HS := Lib.hid hst
    clear hst
    go_wp2_with fail
    go_ret
    exact ⟨false, k, ⟨rfl, Stood.from (grown_drewN (grown_refl w _) n) rfl HS.out⟩, fun hok => (by cases hok), fun _ => not_none HC.out (.inr h1)⟩

/-- The three bytes behind the first one of four. -/
theorem four_char {l : List UInt8} {k : Nat} {c lo hi : Int} (hc : seeB l k = c) (h1 : 240 ≤ c) (h2 : c ≤ 244) (hcl : (c = 240 ∧ lo = 144 ∧ hi = 191) ∨ (c = 244 ∧ lo = 128 ∧ hi = 143) ∨ (c ≠ 240 ∧ c ≠ 244 ∧ lo = 128 ∧ hi = 191))
    (g1 : (mNeed l lo hi (k + 1)).1 = true) (g2 : (mNeed l 128 191 (k + 1 + 1)).1 = true) (g3 : (mNeed l 128 191 (k + 1 + 1 + 1)).1 = true) : CharAt (l.drop k) 4 ∧ (mNeed l 128 191 (k + 1 + 1 + 1)).2 = k + 4 := by
  obtain ⟨d, hd, hd1, hd2, _⟩ := need_true g1
  obtain ⟨e, he, he1, he2, _⟩ := need_true g2
  obtain ⟨g, hg, hg1, hg2, hk2⟩ := need_true g3
  refine ⟨?_, hk2⟩
  have e0 : (l.drop k)[0]? = l[k]? := by simp
  have e1 : (l.drop k)[1]? = l[k + 1]? := by simp
  have e2 : (l.drop k)[2]? = l[k + 1 + 1]? := by simp
  have e3 : (l.drop k)[3]? = l[k + 1 + 1 + 1]? := by simp
  rw [hd] at e1
  rw [he] at e2
  rw [hg] at e3
  unfold seeB at hc
  cases hx : l[k]? with
  | none => rw [hx] at hc; simp at hc; omega
  | some x =>
    rw [hx] at hc e0
    match hl : l.drop k with
    | [] => rw [hl] at e0; simp at e0
    | [_] => rw [hl] at e1; simp at e1
    | [_, _] => rw [hl] at e2; simp at e2
    | [_, _, _] => rw [hl] at e3; simp at e3
    | y :: z :: u :: v :: t =>
      rw [hl] at e0 e1 e2 e3
      simp at e0 e1 e2 e3
      subst e0 e1 e2 e3
      simp only at hc
      exact .inr (.inr (.inr ⟨rfl, _, _, _, _, t, rfl, by omega, by omega, by unfold cont; omega, by unfold cont; omega, by unfold cont; omega, by omega, by omega⟩))

theorem rune_four_mid (b : Nat) (s : ByteArray) (k : Nat) (tw lo : Bool) (f : Int) (op : Bool) (w : World) (hs : s.size ≤ 100000000000) (h : Rd w b s k tw lo f op) (c : Int) (hc : seeB s.data.toList k = c) (h1 : 241 ≤ c) (h2 : c ≤ 243) :
    Calls Tryz.prog 69 #[.pointer (some ⟨b, 0, none⟩)] w (RuneRes w b s k tw lo f op) := by
  have H := Lib.hid h
  have HC := Lib.hid hc
  obtain ⟨c0, c1, _, _, f1, _⟩ := h.cells
  have hlt := h.lt
  have hk : k < s.size := see_lt hc (by omega)
  clear h hc
  have n240 : (c == 240) = false := by rw [beq_eq_false_iff_ne]; omega
  have n244 : (c == 244) = false := by rw [beq_eq_false_iff_ne]; omega
  have m1 : 194 ≤ c := by omega
  have m2 : ¬ c ≤ 223 := by omega
  have m3 : 224 ≤ c := by omega
  have m4 : ¬ c ≤ 239 := by omega
  have m5 : 240 ≤ c := by omega
  have m6 : c ≤ 244 := by omega
  go_enter Tryz.func69, Tryz.ntmps69
  go_wp2_with fail
  refine (see_any b s k tw lo f op _ H.out).mono ?_
  rintro e w1 ⟨rfl, n, rfl⟩
  rw [HC.out]
  go_wp2_with fail
  have hrd : Rd ((w.drewN n).setCell ⟨b, 1, none⟩ (.int .i64 ((k : Int) + 1))) b s (k + 1) tw lo f op := by
    have := (H.out.drewN n).setAt (k + 1) hk
    simpa using this
  have HRD := Lib.hid hrd
  clear hrd
  obtain ⟨r1, hr1⟩ : ∃ r1, mNeed s.data.toList 128 191 (k + 1) = r1 := ⟨_, rfl⟩
  obtain ⟨ok1, k1⟩ := r1
  have HR1 := Lib.hid hr1
  refine (need_any b s (k + 1) tw lo f op 128 191 _ (by omega) HRD.out).mono ?_
  rw [hr1]
  clear hr1
  rintro e w2 ⟨rfl, hst⟩
  have HS := Lib.hid hst
  clear hst
  cases ok1 with
  | false =>
    go_wp2_with fail
    go_ret
    exact ⟨false, k1, ⟨rfl, Stood.from (grown_set (grown_drewN (grown_refl w _) n) _ _) rfl HS.out⟩, fun hok => (by cases hok), fun _ => not4a HC.out (by omega) (by omega) (.inr (.inr ⟨by omega, by omega, rfl, rfl⟩)) HR1.out⟩
  | true =>
    obtain ⟨_, _, _, _, hk1⟩ := need_true (l := s.data.toList) (lo := 128) (hi := 191) (k := k + 1) (by rw [HR1.out])
    rw [HR1.out] at hk1
    simp only at hk1
    subst hk1
    obtain ⟨f', hrd2, hf2, _⟩ := HS.out.rd
    obtain rfl := hf2 rfl
    have HRD2 := Lib.hid hrd2
    clear hrd2 hf2
    go_wp2_with fail
    refine (need_any b s (k + 1 + 1) tw lo f' op 128 191 _ (by omega) HRD2.out).mono ?_
    obtain ⟨r2, hr2⟩ : ∃ r2, mNeed s.data.toList 128 191 (k + 1 + 1) = r2 := ⟨_, rfl⟩
    obtain ⟨ok2, k2⟩ := r2
    have HR2 := Lib.hid hr2
    rw [hr2]
    clear hr2
    rintro e w3 ⟨rfl, hst⟩
    have HS2 := Lib.hid hst
    clear hst
    cases ok2 with
    | false =>
      go_wp2_with fail
      go_ret
      exact ⟨false, k2, ⟨rfl, Stood.from ((grown_set (grown_drewN (grown_refl w _) n) _ _).trans HS.out.grown) rfl HS2.out⟩, fun hok => (by cases hok), fun _ => not4b HC.out (by omega) (by omega) HR2.out⟩
    | true =>
      obtain ⟨_, _, _, _, hk2⟩ := need_true (l := s.data.toList) (lo := 128) (hi := 191) (k := k + 1 + 1) (by rw [HR2.out])
      rw [HR2.out] at hk2
      simp only at hk2
      subst hk2
      obtain ⟨f'', hrd3, hf3, _⟩ := HS2.out.rd
      obtain rfl := hf3 rfl
      have HRD3 := Lib.hid hrd3
      clear hrd3 hf3
      go_wp2_with fail
      refine (need_any b s (k + 1 + 1 + 1) tw lo f'' op 128 191 _ (by omega) HRD3.out).mono ?_
      obtain ⟨r3, hr3⟩ : ∃ r3, mNeed s.data.toList 128 191 (k + 1 + 1 + 1) = r3 := ⟨_, rfl⟩
      obtain ⟨ok3, k3⟩ := r3
      have HR3 := Lib.hid hr3
      rw [hr3]
      clear hr3
      rintro e w4 ⟨rfl, hst⟩
      have HS3 := Lib.hid hst
      clear hst
      go_wp2_with fail
      go_ret
      refine ⟨ok3, k3, ⟨rfl, Stood.from (((grown_set (grown_drewN (grown_refl w _) n) _ _).trans HS.out.grown).trans HS2.out.grown) rfl HS3.out⟩, fun hok => ?_, fun hok => not4c HC.out (by omega) (by omega) HR3.out hok⟩
      have q := four_char HC.out (by omega) (by omega) (.inr (.inr ⟨by omega, by omega, rfl, rfl⟩)) (by rw [HR1.out]) (by rw [HR2.out]) (by rw [HR3.out]; exact hok)
      rw [HR3.out] at q
      exact ⟨4, by omega, q.1, q.2⟩

theorem rune_four_low (b : Nat) (s : ByteArray) (k : Nat) (tw lo : Bool) (f : Int) (op : Bool) (w : World) (hs : s.size ≤ 100000000000) (h : Rd w b s k tw lo f op) (c : Int) (hc : seeB s.data.toList k = c) (h1 : c = 240) :
    Calls Tryz.prog 69 #[.pointer (some ⟨b, 0, none⟩)] w (RuneRes w b s k tw lo f op) := by
  have H := Lib.hid h
  have HC := Lib.hid hc
  obtain ⟨c0, c1, _, _, f1, _⟩ := h.cells
  have hlt := h.lt
  have hk : k < s.size := see_lt hc (by omega)
  clear h hc
  subst h1
  go_enter Tryz.func69, Tryz.ntmps69
  go_wp2_with fail
  refine (see_any b s k tw lo f op _ H.out).mono ?_
  rintro e w1 ⟨rfl, n, rfl⟩
  rw [HC.out]
  go_wp2_with fail
  have hrd : Rd ((w.drewN n).setCell ⟨b, 1, none⟩ (.int .i64 ((k : Int) + 1))) b s (k + 1) tw lo f op := by
    have := (H.out.drewN n).setAt (k + 1) hk
    simpa using this
  have HRD := Lib.hid hrd
  clear hrd
  obtain ⟨r1, hr1⟩ : ∃ r1, mNeed s.data.toList 144 191 (k + 1) = r1 := ⟨_, rfl⟩
  obtain ⟨ok1, k1⟩ := r1
  have HR1 := Lib.hid hr1
  refine (need_any b s (k + 1) tw lo f op 144 191 _ (by omega) HRD.out).mono ?_
  rw [hr1]
  clear hr1
  rintro e w2 ⟨rfl, hst⟩
  have HS := Lib.hid hst
  clear hst
  cases ok1 with
  | false =>
    go_wp2_with fail
    go_ret
    exact ⟨false, k1, ⟨rfl, Stood.from (grown_set (grown_drewN (grown_refl w _) n) _ _) rfl HS.out⟩, fun hok => (by cases hok), fun _ => not4a HC.out (by omega) (by omega) (.inl ⟨rfl, rfl, rfl⟩) HR1.out⟩
  | true =>
    obtain ⟨_, _, _, _, hk1⟩ := need_true (l := s.data.toList) (lo := 144) (hi := 191) (k := k + 1) (by rw [HR1.out])
    rw [HR1.out] at hk1
    simp only at hk1
    subst hk1
    obtain ⟨f', hrd2, hf2, _⟩ := HS.out.rd
    obtain rfl := hf2 rfl
    have HRD2 := Lib.hid hrd2
    clear hrd2 hf2
    go_wp2_with fail
    refine (need_any b s (k + 1 + 1) tw lo f' op 128 191 _ (by omega) HRD2.out).mono ?_
    obtain ⟨r2, hr2⟩ : ∃ r2, mNeed s.data.toList 128 191 (k + 1 + 1) = r2 := ⟨_, rfl⟩
    obtain ⟨ok2, k2⟩ := r2
    have HR2 := Lib.hid hr2
    rw [hr2]
    clear hr2
    rintro e w3 ⟨rfl, hst⟩
    have HS2 := Lib.hid hst
    clear hst
    cases ok2 with
    | false =>
      go_wp2_with fail
      go_ret
      exact ⟨false, k2, ⟨rfl, Stood.from ((grown_set (grown_drewN (grown_refl w _) n) _ _).trans HS.out.grown) rfl HS2.out⟩, fun hok => (by cases hok), fun _ => not4b HC.out (by omega) (by omega) HR2.out⟩
    | true =>
      obtain ⟨_, _, _, _, hk2⟩ := need_true (l := s.data.toList) (lo := 128) (hi := 191) (k := k + 1 + 1) (by rw [HR2.out])
      rw [HR2.out] at hk2
      simp only at hk2
      subst hk2
      obtain ⟨f'', hrd3, hf3, _⟩ := HS2.out.rd
      obtain rfl := hf3 rfl
      have HRD3 := Lib.hid hrd3
      clear hrd3 hf3
      go_wp2_with fail
      refine (need_any b s (k + 1 + 1 + 1) tw lo f'' op 128 191 _ (by omega) HRD3.out).mono ?_
      obtain ⟨r3, hr3⟩ : ∃ r3, mNeed s.data.toList 128 191 (k + 1 + 1 + 1) = r3 := ⟨_, rfl⟩
      obtain ⟨ok3, k3⟩ := r3
      have HR3 := Lib.hid hr3
      rw [hr3]
      clear hr3
      rintro e w4 ⟨rfl, hst⟩
      have HS3 := Lib.hid hst
      clear hst
      go_wp2_with fail
      go_ret
      refine ⟨ok3, k3, ⟨rfl, Stood.from (((grown_set (grown_drewN (grown_refl w _) n) _ _).trans HS.out.grown).trans HS2.out.grown) rfl HS3.out⟩, fun hok => ?_, fun hok => not4c HC.out (by omega) (by omega) HR3.out hok⟩
      have q := four_char HC.out (by omega) (by omega) (.inl ⟨rfl, rfl, rfl⟩) (by rw [HR1.out]) (by rw [HR2.out]) (by rw [HR3.out]; exact hok)
      rw [HR3.out] at q
      exact ⟨4, by omega, q.1, q.2⟩

theorem rune_four_high (b : Nat) (s : ByteArray) (k : Nat) (tw lo : Bool) (f : Int) (op : Bool) (w : World) (hs : s.size ≤ 100000000000) (h : Rd w b s k tw lo f op) (c : Int) (hc : seeB s.data.toList k = c) (h1 : c = 244) :
    Calls Tryz.prog 69 #[.pointer (some ⟨b, 0, none⟩)] w (RuneRes w b s k tw lo f op) := by
  have H := Lib.hid h
  have HC := Lib.hid hc
  obtain ⟨c0, c1, _, _, f1, _⟩ := h.cells
  have hlt := h.lt
  have hk : k < s.size := see_lt hc (by omega)
  clear h hc
  subst h1
  go_enter Tryz.func69, Tryz.ntmps69
  go_wp2_with fail
  refine (see_any b s k tw lo f op _ H.out).mono ?_
  rintro e w1 ⟨rfl, n, rfl⟩
  rw [HC.out]
  go_wp2_with fail
  have hrd : Rd ((w.drewN n).setCell ⟨b, 1, none⟩ (.int .i64 ((k : Int) + 1))) b s (k + 1) tw lo f op := by
    have := (H.out.drewN n).setAt (k + 1) hk
    simpa using this
  have HRD := Lib.hid hrd
  clear hrd
  obtain ⟨r1, hr1⟩ : ∃ r1, mNeed s.data.toList 128 143 (k + 1) = r1 := ⟨_, rfl⟩
  obtain ⟨ok1, k1⟩ := r1
  have HR1 := Lib.hid hr1
  refine (need_any b s (k + 1) tw lo f op 128 143 _ (by omega) HRD.out).mono ?_
  rw [hr1]
  clear hr1
  rintro e w2 ⟨rfl, hst⟩
  have HS := Lib.hid hst
  clear hst
  cases ok1 with
  | false =>
    go_wp2_with fail
    go_ret
    exact ⟨false, k1, ⟨rfl, Stood.from (grown_set (grown_drewN (grown_refl w _) n) _ _) rfl HS.out⟩, fun hok => (by cases hok), fun _ => not4a HC.out (by omega) (by omega) (.inr (.inl ⟨rfl, rfl, rfl⟩)) HR1.out⟩
  | true =>
    obtain ⟨_, _, _, _, hk1⟩ := need_true (l := s.data.toList) (lo := 128) (hi := 143) (k := k + 1) (by rw [HR1.out])
    rw [HR1.out] at hk1
    simp only at hk1
    subst hk1
    obtain ⟨f', hrd2, hf2, _⟩ := HS.out.rd
    obtain rfl := hf2 rfl
    have HRD2 := Lib.hid hrd2
    clear hrd2 hf2
    go_wp2_with fail
    refine (need_any b s (k + 1 + 1) tw lo f' op 128 191 _ (by omega) HRD2.out).mono ?_
    obtain ⟨r2, hr2⟩ : ∃ r2, mNeed s.data.toList 128 191 (k + 1 + 1) = r2 := ⟨_, rfl⟩
    obtain ⟨ok2, k2⟩ := r2
    have HR2 := Lib.hid hr2
    rw [hr2]
    clear hr2
    rintro e w3 ⟨rfl, hst⟩
    have HS2 := Lib.hid hst
    clear hst
    cases ok2 with
    | false =>
      go_wp2_with fail
      go_ret
      exact ⟨false, k2, ⟨rfl, Stood.from ((grown_set (grown_drewN (grown_refl w _) n) _ _).trans HS.out.grown) rfl HS2.out⟩, fun hok => (by cases hok), fun _ => not4b HC.out (by omega) (by omega) HR2.out⟩
    | true =>
      obtain ⟨_, _, _, _, hk2⟩ := need_true (l := s.data.toList) (lo := 128) (hi := 191) (k := k + 1 + 1) (by rw [HR2.out])
      rw [HR2.out] at hk2
      simp only at hk2
      subst hk2
      obtain ⟨f'', hrd3, hf3, _⟩ := HS2.out.rd
      obtain rfl := hf3 rfl
      have HRD3 := Lib.hid hrd3
      clear hrd3 hf3
      go_wp2_with fail
      refine (need_any b s (k + 1 + 1 + 1) tw lo f'' op 128 191 _ (by omega) HRD3.out).mono ?_
      obtain ⟨r3, hr3⟩ : ∃ r3, mNeed s.data.toList 128 191 (k + 1 + 1 + 1) = r3 := ⟨_, rfl⟩
      obtain ⟨ok3, k3⟩ := r3
      have HR3 := Lib.hid hr3
      rw [hr3]
      clear hr3
      rintro e w4 ⟨rfl, hst⟩
      have HS3 := Lib.hid hst
      clear hst
      go_wp2_with fail
      go_ret
      refine ⟨ok3, k3, ⟨rfl, Stood.from (((grown_set (grown_drewN (grown_refl w _) n) _ _).trans HS.out.grown).trans HS2.out.grown) rfl HS3.out⟩, fun hok => ?_, fun hok => not4c HC.out (by omega) (by omega) HR3.out hok⟩
      have q := four_char HC.out (by omega) (by omega) (.inr (.inl ⟨rfl, rfl, rfl⟩)) (by rw [HR1.out]) (by rw [HR2.out]) (by rw [HR3.out]; exact hok)
      rw [HR3.out] at q
      exact ⟨4, by omega, q.1, q.2⟩

/-- 'rune'. -/
theorem rune_any (b : Nat) (s : ByteArray) (k : Nat) (tw lo : Bool) (f : Int) (op : Bool) (w : World) (hs : s.size ≤ 100000000000) (h : Rd w b s k tw lo f op) :
    Calls Tryz.prog 69 #[.pointer (some ⟨b, 0, none⟩)] w (RuneRes w b s k tw lo f op) := by
  obtain ⟨c, hc⟩ : ∃ c, seeB s.data.toList k = c := ⟨_, rfl⟩
  by_cases a1 : c < 194 ∨ 244 < c
  · exact rune_none b s k tw lo f op w h c hc a1
  by_cases a2 : c ≤ 223
  · exact rune_two b s k tw lo f op w hs h c hc (by omega) a2
  by_cases a3 : c = 224
  · exact rune_three_low b s k tw lo f op w hs h c hc a3
  by_cases a4 : c = 237
  · exact rune_three_high b s k tw lo f op w hs h c hc a4
  by_cases a5 : c ≤ 239
  · exact rune_three_mid b s k tw lo f op w hs h c hc (by omega) a5 a4
  by_cases a6 : c = 240
  · exact rune_four_low b s k tw lo f op w hs h c hc a6
  by_cases a7 : c = 244
  · exact rune_four_high b s k tw lo f op w hs h c hc a7
  · exact rune_four_mid b s k tw lo f op w hs h c hc (by omega) (by omega)

end Go.Proofs.YtlgmdcaoogiooaaGreatDoor
