/- What is quoted plainly is unquoted well; what stands around it is refused (in plain words). -/
import Derived.Test.YtjjbgoknmofajaaDoorApi
namespace Go.Proofs.YtjjbgoknmofajaaDoor.Wire
open Go.RowKit Go.Proofs.YtjjbgoknmofajaaDoor

/-- How a byte of ASCII stands between quotation marks. -/
def shape (a : UInt8) : List UInt8 → Bool
  | [c] => c == a && decide (32 ≤ c.toNat) && c != 34 && c != 92
  | [b, r] => b == 92 && (simpleX r).isSome
  | [b, u, p, q, r, s] => b == 92 && u == 117 && (match hex4 [p, q, r, s] with | some v => decide (v < 55296) | none => false)
  | _ => false

theorem shape_all : ∀ a : Fin 128, shape (UInt8.ofNat a.val) (f0 [UInt8.ofNat a.val]) = true := by decide +kernel

theorem shape_step {a : UInt8} (ha : a.toNat < 128) : ∀ (e rest : List UInt8), shape a e = true → ∃ p, step (e ++ rest) = .go e.length p true := by
  intro e rest h
  match e, h with
  | [c], h =>
    simp only [shape, Bool.and_eq_true, beq_iff_eq, bne_iff_ne, decide_eq_true_eq] at h
    obtain ⟨⟨⟨rfl, h32⟩, h34⟩, h92⟩ := h
    exact ⟨_, step_char (n := 1) (l := c :: rest) rfl h34 h92 h32 (.inl ⟨rfl, c, rest, rfl, ha⟩)⟩
  | [b, r], h =>
    simp only [shape, Bool.and_eq_true, beq_iff_eq] at h
    obtain ⟨rfl, h⟩ := h
    obtain ⟨d, hd⟩ := Option.isSome_iff_exists.1 h
    exact ⟨[d], step_simple (l := 92 :: r :: rest) rfl hd⟩
  | [b, u, p, q, r, s], h =>
    simp only [shape, Bool.and_eq_true, beq_iff_eq] at h
    obtain ⟨⟨rfl, rfl⟩, h⟩ := h
    cases hx : hex4 [p, q, r, s] with
    | none => rw [hx] at h; cases h
    | some v =>
      rw [hx] at h
      have hv : v < 55296 := of_decide_eq_true h
      refine ⟨enc v, ?_⟩
      show step (92 :: 117 :: p :: q :: r :: s :: rest) = .go 6 (enc v) true
      rw [step_u_val (v := v) rfl (by simp) (by simpa using hx)]
      exact unit_plain (by omega)

theorem bad_char : CharAt bad 3 := .inr (.inr (.inl ⟨rfl, 239, 191, 189, [], rfl, by decide, by decide, by unfold cont; decide, by unfold cont; decide, by decide, by decide⟩))

theorem many_step {c rest : List UInt8} {n : Nat} (hc : CharAt c n) (hl : c.length = n) (h2 : 2 ≤ n) : ∃ p, step (c ++ rest) = .go n p true := by
  match c, hc, hl with
  | [], hc, hl => simp at hl; omega
  | a :: t, hc, hl =>
    have hhead : 128 ≤ a.toNat := by
      rcases hc with ⟨e, _⟩ | ⟨_, x, b, u, e, h1, _⟩ | ⟨_, x, b, d, u, e, h1, _⟩ | ⟨_, x, b, d, f, u, e, h1, _⟩
      · omega
      · rw [(List.cons.inj e).1]; omega
      · rw [(List.cons.inj e).1]; omega
      · rw [(List.cons.inj e).1]; omega
    exact ⟨_, step_char (l := a :: (t ++ rest)) rfl (fun e => by rw [e] at hhead; revert hhead; decide) (fun e => by rw [e] at hhead; revert hhead; decide) (by omega) (hc.append (t := rest))⟩

theorem unq_step {e rest p m : List UInt8} {b : Bool} (h : step (e ++ rest) = .go e.length p true) (k : Unq rest m b) : ∃ m', Unq (e ++ rest) m' b :=
  ⟨p ++ m, by have := Unq.go h (by rw [List.drop_left]; exact k); simpa using this⟩

/-- What is quoted is unquoted; it goes well exactly if nothing stands behind it. -/
theorem unq_quoted {l q : List UInt8} (t : List UInt8) (h : Quoted f0 l q) : ∃ m, Unq (q ++ 34 :: t) m t.isEmpty := by
  induction h with
  | nil => exact ⟨[], .stop (step_quote rfl)⟩
  | @char l q n hc _ ih =>
    obtain ⟨m, hm⟩ := ih
    rw [List.append_assoc]
    have hl : (l.take n).length = n := by rw [List.length_take]; have := hc.le4; omega
    have hcc := hc.takeN (Nat.le_refl n)
    by_cases h2 : 2 ≤ n
    · have e : f0 (l.take n) = l.take n := by
        show fx false false _ = _
        rw [fx_many (by rw [hl]; exact h2), if_neg (fun h => by cases h.1), if_neg (fun h => by cases h.1)]
      rw [e]
      obtain ⟨p, hp⟩ := many_step (rest := q ++ 34 :: t) hcc hl h2
      exact unq_step (by rw [hl]; exact hp) hm
    · have hn : n = 1 := by have := hc.le4; omega
      subst hn
      match l, hc with
      | [], hc => have := hc.le4; simp at this
      | a :: u, hc =>
        have ha : a.toNat < 128 := by
          rcases hc with ⟨_, x, v, e, h1⟩ | ⟨e, _⟩ | ⟨e, _⟩ | ⟨e, _⟩
          · rw [(List.cons.inj e).1]; exact h1
          · omega
          · omega
          · omega
        have hs := shape_all ⟨a.toNat, ha⟩
        simp only [UInt8.ofNat_toNat] at hs
        obtain ⟨p, hp⟩ := shape_step ha (f0 [a]) (q ++ 34 :: t) hs
        exact unq_step hp hm
  | @broken l q hne hno _ ih =>
    obtain ⟨m, hm⟩ := ih
    rw [List.append_assoc]
    obtain ⟨p, hp⟩ := many_step (c := bad) (rest := q ++ 34 :: t) bad_char rfl (by omega)
    exact unq_step hp hm

/-- The text of a string alone. -/
theorem all_ok {l q m : List UInt8} {ok : Bool} (h : Quoted f0 l q) (k : UnqAll (34 :: (q ++ [34])) m ok) : ok = true := by
  obtain ⟨m', hm⟩ := unq_quoted [] h
  exact (k.one (.right hm)).2

/-- With something ahead of it or behind it. -/
theorem all_no {l q m a b : List UInt8} {ok : Bool} (h : Quoted f0 l q) (hab : a ≠ [] ∨ b ≠ []) (ha : ∀ c ∈ a, c ≠ 34) (k : UnqAll (a ++ (34 :: (q ++ [34])) ++ b) m ok) : ok = false := by
  match a, ha with
  | [], _ =>
    obtain ⟨m', hm⟩ := unq_quoted b h
    have hb : b ≠ [] := hab.resolve_left (fun h => h rfl)
    have e : ([] : List UInt8) ++ (34 :: (q ++ [34])) ++ b = 34 :: (q ++ 34 :: b) := by simp
    rw [e] at k
    have := (k.one (.right hm)).2
    rw [this]
    cases b with
    | nil => exact absurd rfl hb
    | cons => rfl
  | c :: t, ha =>
    have e : (c :: t) ++ (34 :: (q ++ [34])) ++ b = c :: (t ++ (34 :: (q ++ [34])) ++ b) := rfl
    rw [e] at k
    exact (k.one (.wrong (ha c (List.mem_cons_self ..)))).2

end Go.Proofs.YtjjbgoknmofajaaDoor.Wire
