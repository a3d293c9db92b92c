/- Characters, as the reference's 'rune' and utf8.FullRune see them (plain). -/
import Derived.Test.YtifemmjblamfkaaDoorCsrR
import Derived.Test.YtifemmjblamfkaaDoorQdR
import Derived.Test.YtifemmjblamfkaaDoorNumC
namespace Go.Proofs.YtifemmjblamfkaaDoor.Wire
open Go.RowKit Go.Proofs.YtifemmjblamfkaaDoor

theorem need_in {l : List UInt8} {k : Nat} {c : UInt8} {a b : Int} (h : l[k]? = some c) (h1 : a ≤ (c.toNat : Int)) (h2 : (c.toNat : Int) ≤ b) : (mNeed l a b k).1 = true := by
  unfold mNeed
  rw [h]
  simp only
  rw [if_pos ⟨h1, h2⟩]

theorem rune_char {l : List UInt8} {k n : Nat} (h : CharAt (l.drop k) n) (h2 : 2 ≤ n) : mRune l k = (true, k + n) := by
  have get : ∀ i c, (l.drop k)[i]? = some c → l[k + i]? = some c := fun i c e => by rw [List.getElem?_drop] at e; exact e
  have fin : (mRune l k).1 = true → mRune l k = (true, k + n) := fun e => by
    obtain ⟨m, _, hm, hr⟩ := mRune_yes e
    rw [hr, CharAt.one h hm]
  apply fin
  rcases h with ⟨rfl, _⟩ | ⟨rfl, a, b, t, e, a1, a2, b1, b2⟩ | ⟨rfl, a, b, c, t, e, a1, a2, ⟨b1, b2⟩, ⟨c1, c2⟩, q1, q2⟩ | ⟨rfl, a, b, c, d, t, e, a1, a2, ⟨b1, b2⟩, ⟨c1, c2⟩, ⟨d1, d2⟩, q1, q2⟩
  · omega
  · have g0 := get 0 a (by rw [e]; rfl)
    have g1 := get 1 b (by rw [e]; rfl)
    have hs : seeB l k = (a.toNat : Int) := seeB_some g0
    have hr : runeSpec (seeB l k) = some [(128, 191)] := by rw [hs]; unfold runeSpec; rw [if_neg (by omega), if_pos (by omega)]
    rw [mRune_some hr, mNeeds_true (need_in g1 (by omega) (by omega))]
    rfl
  · have g0 := get 0 a (by rw [e]; rfl)
    have g1 := get 1 b (by rw [e]; rfl)
    have g2 := get 2 c (by rw [e]; rfl)
    have hs : seeB l k = (a.toNat : Int) := seeB_some g0
    by_cases x1 : a.toNat = 224
    · have hr : runeSpec (seeB l k) = some [(160, 191), (128, 191)] := by rw [hs]; unfold runeSpec; rw [if_neg (by omega), if_neg (by omega), if_pos (by omega)]
      rw [mRune_some hr, mNeeds_true (need_in g1 (by have := q1 x1; omega) (by omega)), mNeeds_true (need_in g2 (by omega) (by omega))]
      rfl
    by_cases x2 : a.toNat = 237
    · have hr : runeSpec (seeB l k) = some [(128, 159), (128, 191)] := by rw [hs]; unfold runeSpec; rw [if_neg (by omega), if_neg (by omega), if_neg (by omega), if_pos (by omega)]
      rw [mRune_some hr, mNeeds_true (need_in g1 (by omega) (by have := q2 x2; omega)), mNeeds_true (need_in g2 (by omega) (by omega))]
      rfl
    · have hr : runeSpec (seeB l k) = some [(128, 191), (128, 191)] := by rw [hs]; unfold runeSpec; rw [if_neg (by omega), if_neg (by omega), if_neg (by omega), if_neg (by omega), if_pos (by omega)]
      rw [mRune_some hr, mNeeds_true (need_in g1 (by omega) (by omega)), mNeeds_true (need_in g2 (by omega) (by omega))]
      rfl
  · have g0 := get 0 a (by rw [e]; rfl)
    have g1 := get 1 b (by rw [e]; rfl)
    have g2 := get 2 c (by rw [e]; rfl)
    have g3 := get 3 d (by rw [e]; rfl)
    have hs : seeB l k = (a.toNat : Int) := seeB_some g0
    by_cases x1 : a.toNat = 240
    · have hr : runeSpec (seeB l k) = some [(144, 191), (128, 191), (128, 191)] := by rw [hs]; unfold runeSpec; rw [if_neg (by omega), if_neg (by omega), if_neg (by omega), if_neg (by omega), if_neg (by omega), if_pos (by omega)]
      rw [mRune_some hr, mNeeds_true (need_in g1 (by have := q1 x1; omega) (by omega)), mNeeds_true (need_in g2 (by omega) (by omega)), mNeeds_true (need_in g3 (by omega) (by omega))]
      rfl
    by_cases x2 : a.toNat = 244
    · have hr : runeSpec (seeB l k) = some [(128, 143), (128, 191), (128, 191)] := by rw [hs]; unfold runeSpec; rw [if_neg (by omega), if_neg (by omega), if_neg (by omega), if_neg (by omega), if_neg (by omega), if_neg (by omega), if_pos (by omega)]
      rw [mRune_some hr, mNeeds_true (need_in g1 (by omega) (by have := q2 x2; omega)), mNeeds_true (need_in g2 (by omega) (by omega)), mNeeds_true (need_in g3 (by omega) (by omega))]
      rfl
    · have hr : runeSpec (seeB l k) = some [(128, 191), (128, 191), (128, 191)] := by rw [hs]; unfold runeSpec; rw [if_neg (by omega), if_neg (by omega), if_neg (by omega), if_neg (by omega), if_neg (by omega), if_neg (by omega), if_neg (by omega)]
      rw [mRune_some hr, mNeeds_true (need_in g1 (by omega) (by omega)), mNeeds_true (need_in g2 (by omega) (by omega)), mNeeds_true (need_in g3 (by omega) (by omega))]
      rfl

theorem rune_none {l : List UInt8} {k : Nat} (h : ∀ n, ¬ CharAt (l.drop k) n) : (mRune l k).1 = false := by
  cases e : (mRune l k).1 with
  | false => rfl
  | true =>
    obtain ⟨m, _, hm, _⟩ := mRune_yes e
    exact absurd hm (h m)

/-- What the bounds are, by utf8's tables. -/
def runeOk (c : Nat) : Bool := match runeSpec (c : Int) with
  | none => Lib.firstT c % 8 == 1
  | some rs => match rs with
    | [] => false
    | (a, b) :: t => Lib.firstT c % 8 == t.length + 2 && a == ((Lib.accLo (Lib.firstT c / 16) : Nat) : Int) && b == ((Lib.accHi (Lib.firstT c / 16) : Nat) : Int) && t.all (fun x => x == ((128 : Int), (191 : Int))) && decide (t.length ≤ 2) && decide (128 ≤ a)

set_option maxRecDepth 100000 in
theorem rune_ok : ∀ c : Fin 256, 128 ≤ c.val → runeOk c.val = true := by decide +kernel

theorem rune_ok' (n : Nat) (h : n < 256) (h1 : 128 ≤ n) : runeOk n = true := rune_ok ⟨n, h⟩ h1

theorem spec_none (n : Nat) (h0 : runeOk n = true) (hr : runeSpec (n : Int) = none) : Lib.firstT n % 8 = 1 := by
  unfold runeOk at h0
  rw [hr] at h0
  simpa using h0

theorem spec_some (n : Nat) (h0 : runeOk n = true) (a b : Int) (t : List (Int × Int)) (hr : runeSpec (n : Int) = some ((a, b) :: t)) : Lib.firstT n % 8 = t.length + 2 ∧ a = ((Lib.accLo (Lib.firstT n / 16) : Nat) : Int) ∧ b = ((Lib.accHi (Lib.firstT n / 16) : Nat) : Int) ∧ t.all (fun x => x == ((128 : Int), (191 : Int))) = true ∧ t.length ≤ 2 ∧ 128 ≤ a := by
  unfold runeOk at h0
  rw [hr] at h0
  simp only [Bool.and_eq_true, beq_iff_eq, decide_eq_true_eq] at h0
  obtain ⟨⟨⟨⟨⟨h1, h2⟩, h3⟩, h4⟩, h5⟩, h6⟩ := h0
  exact ⟨h1, h2, h3, h4, h5, h6⟩

theorem spec_nil (n : Nat) (h0 : runeOk n = true) : runeSpec (n : Int) ≠ some [] := by
  intro hr
  unfold runeOk at h0
  rw [hr] at h0
  cases h0

theorem all_same : ∀ (t : List (Int × Int)), t.all (fun x => x == ((128 : Int), (191 : Int))) = true → t.length ≤ 2 → t = [] ∨ t = [(128, 191)] ∨ t = [(128, 191), (128, 191)]
  | [], _, _ => .inl rfl
  | [x], h, _ => by
    simp only [List.all_cons, List.all_nil, Bool.and_true, beq_iff_eq] at h
    rw [h]
    exact .inr (.inl rfl)
  | [x, y], h, _ => by
    simp only [List.all_cons, List.all_nil, Bool.and_true, beq_iff_eq, Bool.and_eq_true] at h
    rw [h.1, h.2]
    exact .inr (.inr rfl)
  | _ :: _ :: _ :: _, _, h => by simp at h

theorem specs (n : Nat) (h256 : n < 256) (h : 128 ≤ n) :
    (runeSpec (n : Int) = none ∧ Lib.firstT n % 8 = 1) ∨ ∃ a b t, runeSpec (n : Int) = some ((a, b) :: t) ∧ Lib.firstT n % 8 = t.length + 2 ∧ a = ((Lib.accLo (Lib.firstT n / 16) : Nat) : Int) ∧ b = ((Lib.accHi (Lib.firstT n / 16) : Nat) : Int) ∧ 128 ≤ a ∧
      (t = [] ∨ t = [(128, 191)] ∨ t = [(128, 191), (128, 191)]) := by
  have h0 := rune_ok' n h256 h
  cases hr : runeSpec (n : Int) with
  | none => exact .inl ⟨rfl, spec_none n h0 hr⟩
  | some rs =>
    cases rs with
    | nil => exact absurd hr (spec_nil n h0)
    | cons x t =>
      obtain ⟨a, b⟩ := x
      obtain ⟨h1, h2, h3, h4, h5, h6⟩ := spec_some n h0 a b t hr
      exact .inr ⟨a, b, t, rfl, h1, h2, h3, h6, all_same t h4 h5⟩

theorem fullB_cons (c : UInt8) (t : List UInt8) : fullB (c :: t) = if Lib.firstT c.toNat % 8 ≤ t.length + 1 then true else fullTail (Lib.accLo (Lib.firstT c.toNat / 16)) (Lib.accHi (Lib.firstT c.toNat / 16)) t := rfl

theorem need_get {l : List UInt8} {k : Nat} {a b : Int} (h : (mNeed l a b k).1 = true) : ∃ y, l[k]? = some y ∧ a ≤ (y.toNat : Int) ∧ (y.toNat : Int) ≤ b := by
  unfold mNeed at h
  cases e : l[k]? with
  | none => rw [e] at h; cases h
  | some y =>
    rw [e] at h
    simp only at h
    split at h
    · rename_i q
      exact ⟨y, rfl, q⟩
    · cases h

/-- Where a whole character is there and is none, 'rune' stops at a byte that is there. -/
theorem full_place {l : List UInt8} {k : Nat} {c : UInt8} (hc : l[k]? = some c) (h128 : 128 ≤ c.toNat) (hno : (mRune l k).1 = false) (hf : fullB (l.drop k) = true) : (mRune l k).2 < l.length := by
  have hk : k < l.length := (List.getElem?_eq_some_iff.1 hc).1
  have hs : seeB l k = (c.toNat : Int) := seeB_some hc
  have hd : l.drop k = c :: l.drop (k + 1) := by
    rw [List.drop_eq_getElem_cons hk]
    rw [List.getElem?_eq_getElem hk] at hc
    rw [Option.some.inj hc]
  have hdl : (l.drop (k + 1)).length = l.length - (k + 1) := List.length_drop
  rw [hd, fullB_cons] at hf
  rcases specs c.toNat c.toNat_lt h128 with ⟨hr, _⟩ | ⟨a, b, t, hr, h1, h2, h3, h4, ht⟩
  · unfold mRune
    rw [hs, hr]
    exact hk
  · rw [← hs] at hr
    rw [mRune_some hr] at hno ⊢
    rw [h1, hdl] at hf
    by_cases e1 : (mNeed l a b (k + 1)).1 = true
    · rw [mNeeds_true e1] at hno ⊢
      obtain ⟨y, hy, y1, y2⟩ := need_get e1
      have hk1 : k + 1 < l.length := (List.getElem?_eq_some_iff.1 hy).1
      have hd1 : l.drop (k + 1) = y :: l.drop (k + 1 + 1) := by
        rw [List.drop_eq_getElem_cons hk1]
        rw [List.getElem?_eq_getElem hk1] at hy
        rw [Option.some.inj hy]
      have tail : ∀ t', t = (128, 191) :: t' → (mNeeds l t (k + 1 + 1)).2 < l.length := fun t' e => by
        rw [e] at hno h1 hf ⊢
        rw [List.length_cons] at h1 hf
        by_cases e2 : (mNeed l 128 191 (k + 1 + 1)).1 = true
        · rw [mNeeds_true e2] at hno ⊢
          obtain ⟨z, hz, z1, z2⟩ := need_get e2
          have hk2 : k + 1 + 1 < l.length := (List.getElem?_eq_some_iff.1 hz).1
          have hd2 : l.drop (k + 1 + 1) = z :: l.drop (k + 1 + 1 + 1) := by
            rw [List.drop_eq_getElem_cons hk2]
            rw [List.getElem?_eq_getElem hk2] at hz
            rw [Option.some.inj hz]
          rcases ht with rfl | rfl | rfl
          · cases e
          · obtain rfl : t' = [] := by simpa using e.symm
            cases hno
          · obtain rfl : t' = [(128, 191)] := by simpa using e.symm
            by_cases e3 : (mNeed l 128 191 (k + 1 + 1 + 1)).1 = true
            · rw [mNeeds_true e3] at hno
              cases hno
            · rw [mNeeds_false (by simpa using e3)]
              show k + 1 + 1 + 1 < l.length
              rcases Nat.lt_or_ge (k + 1 + 1 + 1) l.length with q | q
              · exact q
              · rw [if_neg (by simp; omega), hd1, hd2] at hf
                simp only [fullTail] at hf
                rw [if_neg (by omega), if_neg (by omega)] at hf
                cases hf
        · rw [mNeeds_false (by simpa using e2)]
          show k + 1 + 1 < l.length
          rcases Nat.lt_or_ge (k + 1 + 1) l.length with q | q
          · exact q
          · have hnil : l.drop (k + 1 + 1) = [] := List.drop_of_length_le q
            rw [if_neg (by omega), hd1, hnil] at hf
            simp only [fullTail] at hf
            rw [if_neg (by omega)] at hf
            cases hf
      rcases ht with rfl | rfl | rfl
      · cases hno
      · exact tail _ rfl
      · exact tail _ rfl
    · rw [mNeeds_false (by simpa using e1)]
      show k + 1 < l.length
      rcases Nat.lt_or_ge (k + 1) l.length with q | q
      · exact q
      · have hnil : l.drop (k + 1) = [] := List.drop_of_length_le q
        rw [if_neg (by omega), hnil] at hf
        cases hf

/-- The bytes of a character that is cut off, or of one of more than one byte, are all high. -/
theorem char_bytes {l : List UInt8} {n : Nat} (h : CharAt l n) (h2 : 2 ≤ n) : ∀ (i : Nat) (y : UInt8), i < n → l[i]? = some y → 128 ≤ y.toNat := by
  rcases h with ⟨rfl, _⟩ | ⟨rfl, a, b, t, rfl, a1, a2, b1, b2⟩ | ⟨rfl, a, b, c, t, rfl, a1, a2, ⟨b1, b2⟩, ⟨c1, c2⟩, q1, q2⟩ | ⟨rfl, a, b, c, d, t, rfl, a1, a2, ⟨b1, b2⟩, ⟨c1, c2⟩, ⟨d1, d2⟩, q1, q2⟩
  · omega
  all_goals
    intro i y hi hy
    match i, hi with
    | 0, _ => simp at hy; subst hy; omega
    | 1, _ => simp at hy; subst hy; omega
    | 2, _ => first | omega | (simp at hy; subst hy; omega)
    | 3, _ => first | omega | (simp at hy; subst hy; omega)
    | i + 4, hi => omega

set_option maxRecDepth 100000 in
theorem cut_bytes {c : UInt8} {t : List UInt8} (h128 : 128 ≤ c.toNat) (hf : fullB (c :: t) = false) : ∀ (i : Nat) (y : UInt8), (c :: t)[i]? = some y → 128 ≤ y.toNat := by
  rw [fullB_cons] at hf
  rcases specs c.toNat c.toNat_lt h128 with ⟨hr, h0⟩ | ⟨a, b, u, hr, h1, h2, h3, h4, ht⟩
  · rw [if_pos (by omega)] at hf
    cases hf
  · split at hf
    · cases hf
    · rename_i hlen
      have hu : u.length ≤ 2 := by rcases ht with rfl | rfl | rfl <;> simp
      intro i y hy
      match t, hf, hlen, hy with
      | [], _, _, hy =>
        match i, hy with
        | 0, hy => simp at hy; subst hy; exact h128
        | i + 1, hy => simp at hy
      | [x], hf, _, hy =>
        simp only [fullTail] at hf
        split at hf
        · cases hf
        · match i, hy with
          | 0, hy => simp at hy; subst hy; exact h128
          | 1, hy => simp at hy; subst hy; omega
          | i + 2, hy => simp at hy
      | [x, z], hf, _, hy =>
        simp only [fullTail] at hf
        split at hf
        · cases hf
        · split at hf
          · cases hf
          · match i, hy with
            | 0, hy => simp at hy; subst hy; exact h128
            | 1, hy => simp at hy; subst hy; omega
            | 2, hy => simp at hy; subst hy; omega
            | i + 3, hy => simp at hy
      | _ :: _ :: _ :: _, _, hlen, _ => simp at hlen; omega

end Go.Proofs.YtifemmjblamfkaaDoor.Wire
