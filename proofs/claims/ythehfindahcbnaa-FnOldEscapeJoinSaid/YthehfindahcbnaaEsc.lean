/- The text of encoding/json's HTML escape, as a function of bytes, and the steps of the loop that makes it. No program. -/
import Derived.WalkKit
namespace Go.Proofs.Ythehfindahcbnaa.Esc

def hexd (n : Nat) : UInt8 := if n < 10 then UInt8.ofNat (48 + n) else UInt8.ofNat (87 + n)
def esc1 (c : UInt8) : Bool := c == 60 || c == 62 || c == 38
def e1 (c : UInt8) : List UInt8 := [92, 117, 48, 48, hexd (c.toNat / 16), hexd (c.toNat % 16)]
def e3 (d : UInt8) : List UInt8 := [92, 117, 50, 48, 50, hexd (d.toNat % 16)]

/-- U+2028 or U+2029 begins here. -/
def sp3 : List UInt8 → Bool
  | c :: a :: d :: _ => c == 226 && (a == 128 && (d == 168 || d == 169))
  | _ => false

def Hn : Nat → List UInt8 → List UInt8
  | 0, _ => []
  | _ + 1, [] => []
  | n + 1, c :: t => if esc1 c then e1 c ++ Hn n t else if sp3 (c :: t) then e3 (t.getD 1 0) ++ Hn n (t.drop 2) else c :: Hn n t

/-- The escaped text. -/
def H (l : List UInt8) : List UInt8 := Hn l.length l

theorem Hn_eq : ∀ (n m : Nat) (l : List UInt8), l.length ≤ n → l.length ≤ m → Hn n l = Hn m l
  | 0, m, l, h, _ => by
    obtain rfl : l = [] := List.eq_nil_of_length_eq_zero (by omega)
    cases m <;> rfl
  | n + 1, 0, l, _, h => by
    obtain rfl : l = [] := List.eq_nil_of_length_eq_zero (by omega)
    rfl
  | n + 1, m + 1, [], _, _ => rfl
  | n + 1, m + 1, c :: t, h, k => by
    simp only [List.length_cons] at h k
    simp only [Hn]
    rw [Hn_eq n m t (by omega) (by omega), Hn_eq n m (t.drop 2) (by simp; omega) (by simp; omega)]

theorem H_nil : H [] = [] := rfl

theorem H_cons (c : UInt8) (t : List UInt8) : H (c :: t) = if esc1 c then e1 c ++ H t else if sp3 (c :: t) then e3 (t.getD 1 0) ++ H (t.drop 2) else c :: H t := by
  unfold H
  simp only [List.length_cons, Hn]
  rw [Hn_eq t.length (t.drop 2).length (t.drop 2) (by simp) (Nat.le_refl _)]

theorem H_len : ∀ (n : Nat) (l : List UInt8), l.length ≤ n → l.length ≤ (H l).length ∧ (H l).length ≤ 6 * l.length
  | 0, l, h => by
    obtain rfl : l = [] := List.eq_nil_of_length_eq_zero (by omega)
    simp [H_nil]
  | n + 1, [], _ => by simp [H_nil]
  | n + 1, c :: t, h => by
    simp only [List.length_cons] at h
    have i1 := H_len n t (by omega)
    have i2 := H_len n (t.drop 2) (by simp; omega)
    rw [H_cons]
    split
    · simp [e1]; omega
    · split
      · rename_i hs
        have : 2 ≤ t.length := by
          match t, hs with
          | _ :: _ :: _, _ => simp
          | [_], hs => simp [sp3] at hs
          | [], hs => simp [sp3] at hs
        simp at i2
        simp [e3]; omega
      · simp; omega

theorem H_append : ∀ (n : Nat) (a b : List UInt8), a.length ≤ n → (∀ x, a.getLast? = some x → x.toNat < 128) → H (a ++ b) = H a ++ H b
  | _, [], b, _, _ => by simp [H_nil]
  | 0, c :: t, b, h, _ => by simp at h
  | n + 1, c :: t, b, h, hl => by
    simp only [List.length_cons] at h
    have ht : ∀ x, t.getLast? = some x → x.toNat < 128 := fun x hx => hl x (by
      cases t with
      | nil => simp at hx
      | cons y ys => rw [List.getLast?_cons_cons]; exact hx)
    rw [List.cons_append, H_cons, H_cons, H_append n t b (by omega) ht]
    by_cases h1 : esc1 c = true
    · simp [h1]
    · have h1' : esc1 c = false := by simpa using h1
      have hs : sp3 (c :: (t ++ b)) = sp3 (c :: t) := by
        match t with
        | [] =>
          have : c.toNat < 128 := hl c (by simp)
          have hc : (c == 226) = false := by
            rw [beq_eq_false_iff_ne]; intro e; subst e; simp at this
          match b with
          | [] => rfl
          | [_] => rfl
          | _ :: _ :: _ => simp [sp3, hc]
        | [x] =>
          have : x.toNat < 128 := hl x (by simp)
          have hc : (x == 128) = false := by
            rw [beq_eq_false_iff_ne]; intro e; subst e; simp at this
          match b with
          | [] => rfl
          | _ :: _ => simp [sp3, hc]
        | _ :: _ :: _ => rfl
      rw [hs]
      by_cases h3 : sp3 (c :: t) = true
      · match t, ht, h3, h with
        | x :: y :: t', ht, h3, h =>
          simp only [List.length_cons] at h
          have := H_append n t' b (by omega) (fun z hz => ht z (by
            cases t' with
            | nil => simp at hz
            | cons u us => rw [List.getLast?_cons_cons, List.getLast?_cons_cons]; exact hz))
          simp [h1', h3, this]
        | [x], _, h3, _ => simp [sp3] at h3
        | [], _, h3, _ => simp [sp3] at h3
      · have h3' : sp3 (c :: t) = false := by simpa using h3
        simp [h1', h3']

/-- Behind k rounds: 'out' is written, the text up to 'start' is done. -/
def Inv (l out0 out : List UInt8) (start k : Nat) : Prop :=
  start ≤ l.length ∧
  ((start ≤ k ∧ out0 ++ H l = out ++ (l.drop start).take (k - start) ++ H (l.drop k)) ∨
   (k < start ∧ out0 ++ H l = out ++ H (l.drop start) ∧ ∀ j x, k ≤ j → j < start → l[j]? = some x → esc1 x = false ∧ x ≠ 226))

theorem Inv.start (l out0 : List UInt8) : Inv l out0 out0 0 0 := ⟨Nat.zero_le _, .inl ⟨Nat.le_refl _, by simp⟩⟩

theorem Inv.bound {l out0 out : List UInt8} {s k : Nat} (h : Inv l out0 out s k) : out.length ≤ out0.length + 6 * l.length := by
  have hl := (H_len l.length l (Nat.le_refl _)).2
  rcases h.2 with ⟨_, e⟩ | ⟨_, e, _⟩ <;>
  · have := congrArg List.length e
    simp only [List.length_append] at this
    omega

theorem take_snoc (l : List UInt8) (s k : Nat) (hs : s ≤ k) (hk : k < l.length) : (l.drop s).take (k - s) ++ [l[k]] = (l.drop s).take (k + 1 - s) := by
  rw [show k + 1 - s = (k - s) + 1 by omega, List.take_add_one]
  congr 1
  rw [List.getElem?_drop, show s + (k - s) = k by omega]
  simp [hk]

theorem Inv.esc {l out0 out : List UInt8} {s k : Nat} (h : Inv l out0 out s k) (hk : k < l.length) (he : esc1 l[k] = true) :
    s ≤ k ∧ Inv l out0 (out ++ (l.drop s).take (k - s) ++ e1 l[k]) (k + 1) (k + 1) := by
  obtain ⟨hs, ⟨h1, e⟩ | ⟨h1, _, h3⟩⟩ := h
  · refine ⟨h1, by omega, .inl ⟨Nat.le_refl _, ?_⟩⟩
    rw [e, List.drop_eq_getElem_cons hk, H_cons, if_pos he]
    simp
  · exfalso
    have := (h3 k l[k] (Nat.le_refl _) h1 (by simp [hk])).1
    rw [he] at this; cases this

theorem Inv.three {l out0 out : List UInt8} {s k : Nat} (h : Inv l out0 out s k) (hk : k + 2 < l.length) (h0 : l[k] = 226) (h1 : l[k + 1] = 128) (h2 : l[k + 2] = 168 ∨ l[k + 2] = 169) :
    s ≤ k ∧ Inv l out0 (out ++ (l.drop s).take (k - s) ++ e3 l[k + 2]) (k + 3) (k + 1) := by
  obtain ⟨hs, ⟨h3, e⟩ | ⟨h3, _, h4⟩⟩ := h
  · refine ⟨h3, by omega, .inr ⟨by omega, ?_, fun j x hj hj' hx => ?_⟩⟩
    · rw [e, List.drop_eq_getElem_cons (by omega : k < l.length), List.drop_eq_getElem_cons (by omega : k + 1 < l.length), List.drop_eq_getElem_cons (by omega : k + 1 + 1 < l.length), H_cons]
      have hq : sp3 (l[k] :: l[k + 1] :: l[k + 1 + 1] :: l.drop (k + 1 + 1 + 1)) = true := by
        have h2' : l[k + 1 + 1] = 168 ∨ l[k + 1 + 1] = 169 := h2
        rcases h2' with h2' | h2' <;> simp [sp3, h0, h1, h2']
      rw [if_neg (by rw [h0]; decide), if_pos hq]
      simp [List.getElem?_eq_getElem (show k + 1 + 1 < l.length from hk)]
    · have : j = k + 1 ∨ j = k + 2 := by omega
      rcases this with rfl | rfl
      · rw [List.getElem?_eq_getElem (by omega), h1] at hx
        cases hx; exact ⟨by decide, by decide⟩
      · rw [List.getElem?_eq_getElem hk] at hx
        rcases h2 with h2 | h2 <;> (rw [h2] at hx; cases hx; exact ⟨by decide, by decide⟩)
  · exfalso
    exact (h4 k l[k] (Nat.le_refl _) h3 (by simp)).2 h0

theorem Inv.plain {l out0 out : List UInt8} {s k : Nat} (h : Inv l out0 out s k) (hk : k < l.length) (he : esc1 l[k] = false) (h3 : sp3 (l.drop k) = false) :
    Inv l out0 out s (k + 1) := by
  obtain ⟨hs, ⟨h1, e⟩ | ⟨h1, e, h4⟩⟩ := h
  · refine ⟨hs, .inl ⟨by omega, ?_⟩⟩
    rw [e, ← take_snoc l s k h1 hk]
    rw [List.drop_eq_getElem_cons hk] at h3 ⊢
    rw [H_cons, if_neg (by rw [he]; decide), if_neg (by rw [h3]; decide)]
    simp
  · refine ⟨hs, ?_⟩
    by_cases hq : k + 1 < s
    · exact .inr ⟨hq, e, fun j x hj hj' hx => h4 j x (by omega) hj' hx⟩
    · obtain rfl : s = k + 1 := by omega
      exact .inl ⟨Nat.le_refl _, by rw [e]; simp⟩

theorem Inv.done {l out0 out : List UInt8} {s k : Nat} (h : Inv l out0 out s k) (hk : k = l.length) : s ≤ l.length ∧ out ++ l.drop s = out0 ++ H l := by
  obtain ⟨hs, ⟨h1, e⟩ | ⟨h1, _⟩⟩ := h
  · refine ⟨hs, ?_⟩
    rw [e, hk, List.drop_length, H_nil, List.append_nil, List.take_of_length_le (by simp)]
  · omega

theorem sp3_at (l : List UInt8) (k : Nat) : sp3 (l.drop k) = true ↔ ∃ h : k + 2 < l.length, l[k] = 226 ∧ l[k + 1] = 128 ∧ (l[k + 2] = 168 ∨ l[k + 2] = 169) := by
  by_cases h : k + 2 < l.length
  · rw [List.drop_eq_getElem_cons (by omega : k < l.length), List.drop_eq_getElem_cons (by omega : k + 1 < l.length), List.drop_eq_getElem_cons (by omega : k + 1 + 1 < l.length)]
    simp [sp3, h]
  · constructor
    · intro hs
      exfalso
      have hlen : (l.drop k).length < 3 := by simp; omega
      match hd : l.drop k, hs with
      | a :: b :: c :: _, _ => rw [hd] at hlen; simp at hlen; omega
      | [a, b], hs => simp [sp3] at hs
      | [a], hs => simp [sp3] at hs
      | [], hs => simp [sp3] at hs
    · rintro ⟨h', _⟩; exact absurd h' h

end Go.Proofs.Ythehfindahcbnaa.Esc
