/- The order of names, in plain words. -/
import Derived.Test.YtjeijgpahdjbbaaDoorCmp
namespace Go.Proofs.YtjeijgpahdjbbaaDoor

/-- What a character counts for. -/
def key (r : Nat) : Nat := if r ≤ 65535 then r * 2097152 else (55296 + (r - 65536) / 1024) * 2097152 + r

/-- A character's number. -/
def Okr (r : Nat) : Prop := r ≤ 1114111 ∧ (r < 55296 ∨ 57343 < r)

theorem key_inj {a b : Nat} (ha : Okr a) (hb : Okr b) (h : key a = key b) : a = b := by
  unfold key at h
  unfold Okr at ha hb
  by_cases h1 : a ≤ 65535 <;> by_cases h2 : b ≤ 65535
  · rw [if_pos h1, if_pos h2] at h; omega
  · rw [if_pos h1, if_neg h2] at h; omega
  · rw [if_neg h1, if_pos h2] at h; omega
  · rw [if_neg h1, if_neg h2] at h; omega

def cmpK : List Nat → List Nat → Int
  | [], [] => 0
  | [], _ :: _ => -1
  | _ :: _, [] => 1
  | a :: s, b :: t => if key a < key b then -1 else if key b < key a then 1 else cmpK s t

theorem cmpK_cases : ∀ s t, cmpK s t = -1 ∨ cmpK s t = 0 ∨ cmpK s t = 1
  | [], [] => by simp [cmpK]
  | [], _ :: _ => by simp [cmpK]
  | _ :: _, [] => by simp [cmpK]
  | a :: s, b :: t => by
    have ih := cmpK_cases s t
    unfold cmpK
    by_cases h1 : key a < key b
    · rw [if_pos h1]; exact .inl rfl
    · rw [if_neg h1]
      by_cases h2 : key b < key a
      · rw [if_pos h2]; exact .inr (.inr rfl)
      · rw [if_neg h2]; exact ih

theorem cmpK_turn : ∀ s t, cmpK t s = - cmpK s t
  | [], [] => by simp [cmpK]
  | [], _ :: _ => by simp [cmpK]
  | _ :: _, [] => by simp [cmpK]
  | a :: s, b :: t => by
    have ih := cmpK_turn s t
    unfold cmpK
    by_cases h1 : key a < key b
    · rw [if_pos h1, if_neg (by omega), if_pos h1]; rfl
    · by_cases h2 : key b < key a
      · simp only [if_pos h2, if_neg h1]
      · simp only [if_neg h1, if_neg h2]; exact ih

theorem cmpK_self : ∀ s, cmpK s s = 0
  | [] => rfl
  | a :: s => by
    unfold cmpK
    rw [if_neg (by omega), if_neg (by omega)]
    exact cmpK_self s

theorem cmpK_zero : ∀ s t, (∀ r ∈ s, Okr r) → (∀ r ∈ t, Okr r) → cmpK s t = 0 → s = t
  | [], [], _, _, _ => rfl
  | [], _ :: _, _, _, h => by simp [cmpK] at h
  | _ :: _, [], _, _, h => by simp [cmpK] at h
  | a :: s, b :: t, hs, ht, h => by
    unfold cmpK at h
    by_cases h1 : key a < key b
    · rw [if_pos h1] at h; cases h
    · by_cases h2 : key b < key a
      · rw [if_neg h1, if_pos h2] at h; cases h
      · rw [if_neg h1, if_neg h2] at h
        have e := key_inj (hs a (by simp)) (ht b (by simp)) (by omega)
        rw [e, cmpK_zero s t (fun r hr => hs r (by simp [hr])) (fun r hr => ht r (by simp [hr])) h]

theorem cmpK_trans : ∀ s t u, cmpK s t ≤ 0 → cmpK t u ≤ 0 → cmpK s u ≤ 0
  | [], _, [], _, _ => by simp [cmpK]
  | [], _, _ :: _, _, _ => by simp [cmpK]
  | _ :: _, [], _, h, _ => by simp [cmpK] at h
  | _ :: _, _ :: _, [], _, h => by simp [cmpK] at h
  | a :: s, b :: t, c :: u, h, k => by
    have ih := cmpK_trans s t u
    unfold cmpK at h k ⊢
    by_cases h1 : key a < key c
    · rw [if_pos h1]; decide
    · by_cases h2 : key c < key a
      · exfalso
        by_cases g1 : key b < key a
        · rw [if_neg (by omega), if_pos g1] at h; exact absurd h (by decide)
        · rw [if_neg (by omega : ¬ key b < key c), if_pos (by omega : key c < key b)] at k; exact absurd k (by decide)
      · rw [if_neg h1, if_neg h2]
        by_cases g1 : key a < key b
        · rw [if_neg (by omega : ¬ key b < key c), if_pos (by omega : key c < key b)] at k; exact absurd k (by decide)
        · by_cases g2 : key b < key a
          · rw [if_neg g1, if_pos g2] at h; exact absurd h (by decide)
          · rw [if_neg g1, if_neg g2] at h
            rw [if_neg (by omega : ¬ key b < key c), if_neg (by omega : ¬ key c < key b)] at k
            exact ih h k

/-- The characters of a text. -/
inductive Runes : List UInt8 → List Nat → Prop
  | nil : Runes [] []
  | cons {l : List UInt8} {n : Nat} {rs : List Nat} : CharAt l n → Runes (l.drop n) rs → Runes l (rv (l.take n) :: rs)

theorem Text.runes {l : List UInt8} (h : Text l) : ∃ rs, Runes l rs := by
  induction h with
  | nil => exact ⟨[], .nil⟩
  | cons a _ ih => obtain ⟨rs, h⟩ := ih; exact ⟨_, .cons a h⟩

theorem char_facts {l : List UInt8} {n : Nat} (h : CharAt l n) : Okr (rv (l.take n)) ∧ Lib.encodeRune (rv (l.take n) : Nat) = l.take n ∧ (rv (l.take n) < 128 → ∃ a t, l = a :: t ∧ n = 1 ∧ a.toNat = rv (l.take n)) ∧ (128 ≤ rv (l.take n) → ∀ c ∈ l.take n, 128 ≤ c.toNat) := by
  obtain ⟨r, _, h2, h3, h4, h5, h6, h7⟩ := decode_char' ⟨l.toArray⟩ 0 n (by simpa using h)
  simp only [List.drop_zero] at h2 h5 h6 h7
  subst h7
  exact ⟨⟨h3, h4⟩, h2, h5, h6⟩

theorem Runes.okr {l : List UInt8} {rs : List Nat} (h : Runes l rs) : ∀ r ∈ rs, Okr r := by
  induction h with
  | nil => intro r hr; cases hr
  | cons a _ ih =>
    intro r hr
    rcases List.mem_cons.1 hr with rfl | hr
    · exact (char_facts a).1
    · exact ih r hr

theorem Runes.text {l : List UInt8} {rs : List Nat} (h : Runes l rs) : l = rs.flatMap fun (r : Nat) => Lib.encodeRune r := by
  induction h with
  | nil => rfl
  | cons a _ ih =>
    rw [List.flatMap_cons, (char_facts a).2.1, ← ih, List.take_append_drop]

/-- A text has one row of characters. -/
theorem CharAt.one {l : List UInt8} {n m : Nat} (h : CharAt l n) (k : CharAt l m) : n = m := by
  obtain ⟨r, h1, _⟩ := decode_char' ⟨l.toArray⟩ 0 n (by simpa using h)
  obtain ⟨q, h2, _⟩ := decode_char' ⟨l.toArray⟩ 0 m (by simpa using k)
  rw [h1] at h2
  exact (Prod.mk.inj h2).2

theorem CharAt.ne {l : List UInt8} {n : Nat} (h : CharAt l n) : l ≠ [] := by
  intro e
  have := h.le
  rw [e] at this
  simp at this
  omega

theorem Runes.one {l : List UInt8} {rs : List Nat} (h : Runes l rs) : ∀ ts, Runes l ts → rs = ts := by
  induction h with
  | nil =>
    intro ts k
    cases k with
    | nil => rfl
    | cons a _ => exact absurd rfl a.ne
  | cons a _ ih =>
    intro ts k
    cases k with
    | nil => exact absurd rfl a.ne
    | cons b k' =>
      have e := a.one b
      subst e
      rw [ih _ k']

/-- The law, in plain words. -/
theorem names_law {a b c : List UInt8} {ra rb rc : List Nat} (ha : Runes a ra) (hb : Runes b rb) (_ : Runes c rc) :
    ((cmpK ra rb = 0) ↔ a = b) ∧ (cmpK ra rb < 0 ↔ cmpK rb ra > 0) ∧ (cmpK ra rb > 0 ↔ cmpK rb ra < 0) ∧ (cmpK ra rb > 0 ∨ cmpK rb rc > 0 ∨ cmpK ra rc ≤ 0) := by
  have ht := cmpK_turn ra rb
  refine ⟨⟨fun h => ?_, fun h => ?_⟩, by omega, by omega, ?_⟩
  · rw [ha.text, hb.text, cmpK_zero ra rb ha.okr hb.okr h]
  · subst h
    rw [ha.one _ hb]
    exact cmpK_self _
  · have := cmpK_trans ra rb rc
    omega

end Go.Proofs.YtjeijgpahdjbbaaDoor
