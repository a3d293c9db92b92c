/- Quoting, character by character, in plain words. -/
import Derived.Test.YtgomfhnkodfgiaaDoorDecode
import Derived.Test.YtgomfhnkodfgiaaDoorIsText
namespace Go.Proofs.YtgomfhnkodfgiaaDoor

theorem CharAt.append {c t : List UInt8} {n : Nat} (h : CharAt c n) : CharAt (c ++ t) n := by
  rcases h with ⟨rfl, a, u, rfl, h⟩ | ⟨rfl, a, b, u, rfl, h⟩ | ⟨rfl, a, b, d, u, rfl, h⟩ | ⟨rfl, a, b, d, e, u, rfl, h⟩
  · exact .inl ⟨rfl, a, u ++ t, rfl, h⟩
  · exact .inr (.inl ⟨rfl, a, b, u ++ t, rfl, h⟩)
  · exact .inr (.inr (.inl ⟨rfl, a, b, d, u ++ t, rfl, h⟩))
  · exact .inr (.inr (.inr ⟨rfl, a, b, d, e, u ++ t, rfl, h⟩))

theorem CharAt.takeN {l : List UInt8} {n N : Nat} (h : CharAt l n) (hN : n ≤ N) : CharAt (l.take N) n := by
  rcases h with ⟨rfl, a, u, rfl, h⟩ | ⟨rfl, a, b, u, rfl, h⟩ | ⟨rfl, a, b, d, u, rfl, h⟩ | ⟨rfl, a, b, d, e, u, rfl, h⟩
  · obtain ⟨N, rfl⟩ : ∃ M, N = M + 1 := ⟨N - 1, by omega⟩
    exact .inl ⟨rfl, a, u.take N, rfl, h⟩
  · obtain ⟨N, rfl⟩ : ∃ M, N = M + 2 := ⟨N - 2, by omega⟩
    exact .inr (.inl ⟨rfl, a, b, u.take N, rfl, h⟩)
  · obtain ⟨N, rfl⟩ : ∃ M, N = M + 3 := ⟨N - 3, by omega⟩
    exact .inr (.inr (.inl ⟨rfl, a, b, d, u.take N, rfl, h⟩))
  · obtain ⟨N, rfl⟩ : ∃ M, N = M + 4 := ⟨N - 4, by omega⟩
    exact .inr (.inr (.inr ⟨rfl, a, b, d, e, u.take N, rfl, h⟩))

theorem CharAt.le4 {l : List UInt8} {n : Nat} (h : CharAt l n) : 1 ≤ n ∧ n ≤ 4 ∧ n ≤ l.length := by
  rcases h with ⟨rfl, a, u, rfl, h⟩ | ⟨rfl, a, b, u, rfl, h⟩ | ⟨rfl, a, b, d, u, rfl, h⟩ | ⟨rfl, a, b, d, e, u, rfl, h⟩ <;> simp

theorem CharAt.one {l : List UInt8} {n m : Nat} (h : CharAt l n) (k : CharAt l m) : n = m := by
  obtain ⟨r, h1, _⟩ := decode_char' ⟨l.toArray⟩ 0 n (by simpa using h)
  obtain ⟨q, h2, _⟩ := decode_char' ⟨l.toArray⟩ 0 m (by simpa using k)
  rw [h1] at h2
  exact (Prod.mk.inj h2).2

/-- A text, quoted character by character. -/
inductive Quoted (f : List UInt8 → List UInt8) : List UInt8 → List UInt8 → Prop
  | nil : Quoted f [] []
  | cons {c l q : List UInt8} : CharAt c c.length → Quoted f l q → Quoted f (c ++ l) (f c ++ q)

theorem Quoted.append {f : List UInt8 → List UInt8} {a p b q : List UInt8} (h : Quoted f a p) (k : Quoted f b q) : Quoted f (a ++ b) (p ++ q) := by
  induction h with
  | nil => exact k
  | cons hc _ ih =>
    rw [List.append_assoc, List.append_assoc]
    exact .cons hc ih

theorem Quoted.snoc {f : List UInt8 → List UInt8} {a p c : List UInt8} (h : Quoted f a p) (hc : CharAt c c.length) : Quoted f (a ++ c) (p ++ f c) := by
  have k : Quoted f (c ++ []) (f c ++ []) := .cons hc .nil
  rw [List.append_nil, List.append_nil] at k
  exact h.append k

theorem Quoted.one {f : List UInt8 → List UInt8} {a p : List UInt8} (h : Quoted f a p) : ∀ a' q, a = a' → Quoted f a' q → p = q := by
  induction h with
  | nil =>
    intro a' q e k
    cases k with
    | nil => rfl
    | cons hc _ =>
      have := hc.le4
      have e2 := congrArg List.length e
      rw [List.length_append, List.length_nil] at e2
      omega
  | @cons c l p hc _ ih =>
    intro a' q e k
    cases k with
    | nil =>
      have := hc.le4
      have e2 := congrArg List.length e
      rw [List.length_append, List.length_nil] at e2
      omega
    | @cons c' l' q' hc' k' =>
      have hl : c.length = c'.length := CharAt.one (l := c ++ l) hc.append (by rw [e]; exact hc'.append)
      obtain ⟨rfl, rfl⟩ := List.append_inj e hl
      rw [ih _ _ rfl k']

/-- The pending part grows. -/
theorem pend (l : List UInt8) (st k m : Nat) (h : st ≤ k) : (l.drop st).take (k + m - st) = (l.drop st).take (k - st) ++ (l.drop k).take m := by
  rw [show k + m - st = (k - st) + m by omega, List.take_add, List.drop_drop, show st + (k - st) = k by omega]

theorem char_len {l : List UInt8} {m : Nat} (h : CharAt l m) : CharAt (l.take m) (l.take m).length := by
  have hl : (l.take m).length = m := by rw [List.length_take]; have := h.le4; omega
  rw [hl]
  exact h.takeN (Nat.le_refl _)

/-- What has been done of l, when k is reached and what lies from st on is pending. -/
def QI (f : List UInt8 → List UInt8) (l out : List UInt8) (st k : Nat) : Prop :=
  st ≤ k ∧ k ≤ l.length ∧ Quoted f (l.take k) (out ++ (l.drop st).take (k - st)) ∧ Text (l.drop k)

theorem QI.plain {f : List UInt8 → List UInt8} {l out : List UInt8} {st k m : Nat} (h : QI f l out st k) (hc : CharAt (l.drop k) m) (ht : Text ((l.drop k).drop m)) (hf : f ((l.drop k).take m) = (l.drop k).take m) : QI f l out st (k + m) := by
  obtain ⟨h1, h2, h3, h4⟩ := h
  have hm := hc.le4
  rw [List.length_drop] at hm
  refine ⟨by omega, by omega, ?_, by rw [← List.drop_drop]; exact ht⟩
  rw [pend l st k m h1, ← List.append_assoc, List.take_add]
  have := h3.snoc (char_len hc)
  rw [hf] at this
  exact this

theorem QI.esc {f : List UInt8 → List UInt8} {l out e : List UInt8} {st k m : Nat} (h : QI f l out st k) (hc : CharAt (l.drop k) m) (ht : Text ((l.drop k).drop m)) (hf : f ((l.drop k).take m) = e) : QI f l (out ++ (l.drop st).take (k - st) ++ e) (k + m) (k + m) := by
  obtain ⟨h1, h2, h3, h4⟩ := h
  have hm := hc.le4
  rw [List.length_drop] at hm
  refine ⟨Nat.le_refl _, by omega, ?_, by rw [← List.drop_drop]; exact ht⟩
  rw [Nat.sub_self, List.take_zero, List.append_nil, List.take_add, ← hf]
  exact h3.snoc (char_len hc)

theorem QI.start {f : List UInt8 → List UInt8} {l : List UInt8} (h : Text l) : QI f l [] 0 0 :=
  ⟨Nat.le_refl _, Nat.zero_le _, by simpa using Quoted.nil, by simpa using h⟩

theorem QI.done {f : List UInt8 → List UInt8} {l out : List UInt8} {st : Nat} (h : QI f l out st l.length) : Quoted f l (out ++ l.drop st) := by
  have := h.2.2.1
  rw [List.take_length] at this
  rwa [List.take_of_length_le (by rw [List.length_drop]; exact Nat.le_refl _)] at this

def hexd (n : Nat) : UInt8 := if n < 10 then UInt8.ofNat (48 + n) else UInt8.ofNat (87 + n)

/-- The escape of a byte. -/
def escA (c : UInt8) : List UInt8 :=
  if c = 92 ∨ c = 34 then [92, c] else if c = 8 then [92, 98] else if c = 12 then [92, 102] else if c = 10 then [92, 110] else if c = 13 then [92, 114] else if c = 9 then [92, 116]
  else [92, 117, 48, 48, hexd (c.toNat / 16), hexd (c.toNat % 16)]

/-- .. of a character. -/
def fq (safe : Nat → Bool) : List UInt8 → List UInt8
  | [c] => if safe c.toNat then [c] else escA c
  | c => if rv c = 8232 then [92, 117, 50, 48, 50, 56] else if rv c = 8233 then [92, 117, 50, 48, 50, 57] else c

/-- The law, in plain words. -/
theorem quote_law {f : List UInt8 → List UInt8} {a b p q r : List UInt8} (ha : Quoted f a p) (hb : Quoted f b q) (hc : Quoted f (a ++ b) r) : r = p ++ q :=
  hc.one _ _ rfl (ha.append hb)

end Go.Proofs.YtgomfhnkodfgiaaDoor
