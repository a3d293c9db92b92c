/- (jsonwire's way) Quoting any bytes, character by character, in plain words. -/
import Derived.Test.YtjjbgoknmofajaaDoorDecode
import Derived.Test.YtjjbgoknmofajaaDoorValid
namespace Go.Proofs.YtjjbgoknmofajaaDoor

theorem CharAt.append {c t : List UInt8} {n : Nat} (h : CharAt c n) : CharAt (c ++ t) n := by
  rcases h with ⟨rfl, a, u, rfl, h⟩ | ⟨rfl, a, b, u, rfl, h⟩ | ⟨rfl, a, b, d, u, rfl, h⟩ | ⟨rfl, a, b, d, e, u, rfl, h⟩
  · exact .inl ⟨rfl, a, u ++ t, rfl, h⟩
  · exact .inr (.inl ⟨rfl, a, b, u ++ t, rfl, h⟩)
  · exact .inr (.inr (.inl ⟨rfl, a, b, d, u ++ t, rfl, h⟩))
  · exact .inr (.inr (.inr ⟨rfl, a, b, d, e, u ++ t, rfl, h⟩))

theorem CharAt.takeN {l : List UInt8} {n N : Nat} (h : CharAt l n) (hN : n ≤ N) : CharAt (l.take N) n := by
  rcases h with ⟨rfl, a, u, rfl, h⟩ | ⟨rfl, a, b, u, rfl, h⟩ | ⟨rfl, a, b, d, u, rfl, h⟩ | ⟨rfl, a, b, d, e, u, rfl, h⟩
  · obtain ⟨N, rfl⟩ : ∃ M, N = M + 1 := ⟨N - 1, by omega⟩
    exact .inl ⟨rfl, a, u.take N, rfl, h⟩
  · obtain ⟨N, rfl⟩ : ∃ M, N = M + 2 := ⟨N - 2, by omega⟩
    exact .inr (.inl ⟨rfl, a, b, u.take N, rfl, h⟩)
  · obtain ⟨N, rfl⟩ : ∃ M, N = M + 3 := ⟨N - 3, by omega⟩
    exact .inr (.inr (.inl ⟨rfl, a, b, d, u.take N, rfl, h⟩))
  · obtain ⟨N, rfl⟩ : ∃ M, N = M + 4 := ⟨N - 4, by omega⟩
    exact .inr (.inr (.inr ⟨rfl, a, b, d, e, u.take N, rfl, h⟩))

theorem CharAt.le4 {l : List UInt8} {n : Nat} (h : CharAt l n) : 1 ≤ n ∧ n ≤ 4 ∧ n ≤ l.length := by
  rcases h with ⟨rfl, a, u, rfl, h⟩ | ⟨rfl, a, b, u, rfl, h⟩ | ⟨rfl, a, b, d, u, rfl, h⟩ | ⟨rfl, a, b, d, e, u, rfl, h⟩ <;> simp

theorem CharAt.one {l : List UInt8} {n m : Nat} (h : CharAt l n) (k : CharAt l m) : n = m := by
  obtain ⟨r, h1, _⟩ := decode_char' ⟨l.toArray⟩ 0 n (by simpa using h)
  obtain ⟨q, h2, _⟩ := decode_char' ⟨l.toArray⟩ 0 m (by simpa using k)
  rw [h1] at h2
  exact (Prod.mk.inj h2).2

end Go.Proofs.YtjjbgoknmofajaaDoor
namespace Go.Proofs.YtjjbgoknmofajaaDoor.Wire
open Go.Proofs.YtjjbgoknmofajaaDoor

/-- What stands for a byte that belongs to no character. -/
def bad : List UInt8 := [239, 191, 189]

/-- Bytes, quoted character by character. -/
inductive Quoted (f : List UInt8 → List UInt8) : List UInt8 → List UInt8 → Prop
  | nil : Quoted f [] []
  | char {l q : List UInt8} {n : Nat} : CharAt l n → Quoted f (l.drop n) q → Quoted f l (f (l.take n) ++ q)
  | broken {l q : List UInt8} : l ≠ [] → (∀ n, ¬ CharAt l n) → Quoted f (l.drop 1) q → Quoted f l (bad ++ q)

theorem Quoted.one {f g : List UInt8 → List UInt8} {l p : List UInt8} (h : Quoted f l p) (hfg : ∀ c, CharAt c c.length → f c = g c) : ∀ q, Quoted g l q → p = q := by
  induction h with
  | nil =>
    intro q k
    generalize hl : ([] : List UInt8) = l at k
    cases k with
    | nil => rfl
    | char hc _ => subst hl; have := hc.le; simp at this; omega
    | broken hne _ _ => exact absurd hl.symm hne
  | @char l q n hc _ ih =>
    intro q' k
    cases k with
    | nil => have := hc.le; simp at this; omega
    | char hc' k' =>
      obtain rfl := CharAt.one hc hc'
      have hl : (l.take n).length = n := by rw [List.length_take]; have := hc.le4; omega
      rw [hfg _ (by rw [hl]; exact hc.takeN (Nat.le_refl _)), ih _ k']
    | broken _ hno _ => exact absurd hc (hno _)
  | broken hne hno _ ih =>
    intro q' k
    cases k with
    | nil => exact absurd rfl hne
    | char hc' _ => exact absurd hc' (hno _)
    | broken _ _ k' => rw [ih _ k']

/-- The pending part grows. -/
theorem pend (l : List UInt8) (st k m : Nat) (h : st ≤ k) : (l.drop st).take (k + m - st) = (l.drop st).take (k - st) ++ (l.drop k).take m := by
  rw [show k + m - st = (k - st) + m by omega, List.take_add, List.drop_drop, show st + (k - st) = k by omega]

/-- What has been done of l, when k is reached and what lies from st on is pending. -/
def QI (f : List UInt8 → List UInt8) (l out : List UInt8) (st k : Nat) : Prop :=
  st ≤ k ∧ k ≤ l.length ∧ ∀ q, Quoted f (l.drop k) q → Quoted f l (out ++ (l.drop st).take (k - st) ++ q)

theorem QI.plain {f : List UInt8 → List UInt8} {l out : List UInt8} {st k m : Nat} (h : QI f l out st k) (hc : CharAt (l.drop k) m) (_ : True) (hf : f ((l.drop k).take m) = (l.drop k).take m) : QI f l out st (k + m) := by
  obtain ⟨h1, h2, h3⟩ := h
  have hm := hc.le4
  rw [List.length_drop] at hm
  refine ⟨by omega, by omega, fun q hq => ?_⟩
  rw [← List.drop_drop] at hq
  have := h3 _ (.char hc hq)
  rw [hf] at this
  rw [pend l st k m h1]
  simpa [List.append_assoc] using this

theorem QI.esc {f : List UInt8 → List UInt8} {l out e : List UInt8} {st k m : Nat} (h : QI f l out st k) (hc : CharAt (l.drop k) m) (_ : True) (hf : f ((l.drop k).take m) = e) : QI f l (out ++ (l.drop st).take (k - st) ++ e) (k + m) (k + m) := by
  obtain ⟨h1, h2, h3⟩ := h
  have hm := hc.le4
  rw [List.length_drop] at hm
  refine ⟨Nat.le_refl _, by omega, fun q hq => ?_⟩
  rw [← List.drop_drop] at hq
  have := h3 _ (.char hc hq)
  rw [hf] at this
  rw [Nat.sub_self, List.take_zero, List.append_nil]
  simpa [List.append_assoc] using this

theorem QI.bad {f : List UInt8 → List UInt8} {l out : List UInt8} {st k : Nat} (h : QI f l out st k) (hk : k < l.length) (hno : ∀ n, ¬ CharAt (l.drop k) n) : QI f l (out ++ (l.drop st).take (k - st) ++ Proofs.YtjjbgoknmofajaaDoor.Wire.bad) (k + 1) (k + 1) := by
  obtain ⟨h1, h2, h3⟩ := h
  refine ⟨Nat.le_refl _, by omega, fun q hq => ?_⟩
  rw [← List.drop_drop] at hq
  have := h3 _ (.broken (fun e => by have := congrArg List.length e; rw [List.length_drop] at this; simp at this; omega) hno hq)
  rw [Nat.sub_self, List.take_zero, List.append_nil]
  simpa [List.append_assoc] using this

theorem QI.start {f : List UInt8 → List UInt8} {l : List UInt8} : QI f l [] 0 0 :=
  ⟨Nat.le_refl _, Nat.zero_le _, fun q hq => by simpa using hq⟩

theorem QI.done {f : List UInt8 → List UInt8} {l out : List UInt8} {st : Nat} (h : QI f l out st l.length) : Quoted f l (out ++ l.drop st) := by
  have := h.2.2 [] (by rw [List.drop_length]; exact .nil)
  rw [List.append_nil, List.take_of_length_le (by rw [List.length_drop]; exact Nat.le_refl _)] at this
  exact this

end Go.Proofs.YtjjbgoknmofajaaDoor.Wire
