/- The tokens of a pointer: plain lists. -/
import Derived.Test.YtalkajcndllipaaPtrValid
namespace Go.Proofs.Ytalkajcndllipaa
open Go.RowKit

/-- Each tilde is followed by 0 or 1. -/
inductive TOk : List UInt8 → Prop
  | nil : TOk []
  | esc (d : UInt8) (t : List UInt8) : d = 48 ∨ d = 49 → TOk t → TOk (126 :: d :: t)
  | plain (c : UInt8) (t : List UInt8) : c ≠ 126 → TOk t → TOk (c :: t)

/-- What a token's text means. -/
def unesc : List UInt8 → List UInt8
  | [] => []
  | [c] => [c]
  | c :: d :: t => if c = 126 then (if d = 48 then 126 else 47) :: unesc t else c :: unesc (d :: t)

theorem unesc_plain {c : UInt8} (h : c ≠ 126) (t : List UInt8) : unesc (c :: t) = c :: unesc t := by
  cases t with
  | nil => simp [unesc]
  | cons d t => simp [unesc, h]

theorem unesc_esc (d : UInt8) (t : List UInt8) : unesc (126 :: d :: t) = (if d = 48 then 126 else 47) :: unesc t := by simp [unesc]

theorem unesc_len {l : List UInt8} (h : TOk l) : (unesc l).length ≤ l.length := by
  induction h with
  | nil => simp [unesc]
  | esc d t _ _ ih => rw [unesc_esc]; simp; omega
  | plain c t hc _ ih => rw [unesc_plain hc]; simp; omega

/-- Tilde and b give way to c. -/
def repl (b c : UInt8) : List UInt8 → List UInt8
  | [] => []
  | [x] => [x]
  | x :: y :: t => if x = 126 ∧ y = b then c :: repl b c t else x :: repl b c (y :: t)

theorem repl_plain (b c : UInt8) {x : UInt8} (h : x ≠ 126) (t : List UInt8) : repl b c (x :: t) = x :: repl b c t := by
  cases t with
  | nil => simp [repl]
  | cons y t => simp [repl, h]

theorem repl_two {l : List UInt8} (h : TOk l) : repl 48 126 (repl 49 47 l) = unesc l := by
  induction h with
  | nil => simp [repl, unesc]
  | esc d t hd _ ih =>
    rw [unesc_esc]
    rcases hd with rfl | rfl
    · have e : repl 49 47 (126 :: 48 :: t) = 126 :: 48 :: repl 49 47 t := by
        rw [show repl 49 47 (126 :: 48 :: t) = 126 :: repl 49 47 (48 :: t) by simp [repl], repl_plain _ _ (by decide)]
      rw [e, show repl 48 126 (126 :: 48 :: repl 49 47 t) = 126 :: repl 48 126 (repl 49 47 t) by simp [repl], ih]
      rfl
    · have e : repl 49 47 (126 :: 49 :: t) = 47 :: repl 49 47 t := by simp [repl]
      rw [e, repl_plain _ _ (by decide), ih]
      rfl
  | plain c t hc _ ih => rw [repl_plain _ _ hc, repl_plain _ _ hc, ih, unesc_plain hc]

/-- Tilde and b stand at i. -/
def Hit (b : UInt8) (l : List UInt8) (i : Nat) : Prop := l[i]? = some 126 ∧ l[i + 1]? = some b

theorem repl_hit (b c : UInt8) : ∀ (i : Nat) (l : List UInt8), Hit b l i → (∀ j, j < i → ¬ Hit b l j) → repl b c l = l.take i ++ c :: repl b c (l.drop (i + 2))
  | 0, l, h, _ => by
    match l, h with
    | x :: y :: t, h =>
      obtain ⟨h1, h2⟩ := h
      simp at h1 h2
      subst h1 h2
      simp [repl]
    | [], h => simp [Hit] at h
    | [x], h => simp [Hit] at h
  | i + 1, l, h, hno => by
    match l, h with
    | [], h => simp [Hit] at h
    | [x], h => simp [Hit] at h
    | x :: y :: t, h =>
      have h0 := hno 0 (Nat.succ_pos _)
      have e : repl b c (x :: y :: t) = x :: repl b c (y :: t) := by
        have hx : ¬ (x = 126 ∧ y = b) := fun ⟨h1, h2⟩ => h0 (by subst h1 h2; exact ⟨rfl, rfl⟩)
        simp only [repl]
        rw [if_neg hx]
      rw [e, repl_hit b c i (y :: t) (by simpa [Hit] using h) (fun j hj hh => hno (j + 1) (by omega) (by simpa [Hit] using hh))]
      rfl

theorem repl_none (b c : UInt8) : ∀ (l : List UInt8), (∀ j, ¬ Hit b l j) → repl b c l = l
  | [], _ => rfl
  | [x], _ => rfl
  | x :: y :: t, hno => by
    have h0 := hno 0
    have hx : ¬ (x = 126 ∧ y = b) := fun ⟨h1, h2⟩ => h0 (by subst h1 h2; exact ⟨rfl, rfl⟩)
    simp only [repl]
    rw [if_neg hx, repl_none b c (y :: t) (fun j hh => hno (j + 1) (by simpa [Hit] using hh))]

theorem repl_len (b c : UInt8) : ∀ (n : Nat) (l : List UInt8), l.length ≤ n → (repl b c l).length ≤ l.length
  | _, [], _ => by simp [repl]
  | _, [x], _ => by simp [repl]
  | n + 1, x :: y :: t, h => by
    simp only [repl]
    split
    · have := repl_len b c n t (by simp at h ⊢; omega)
      simp; omega
    · have := repl_len b c n (y :: t) (by simp at h ⊢; omega)
      simp at this ⊢; omega
  | 0, x :: y :: t, h => by simp at h

/-- No tilde: nothing gives way. -/
theorem no_tilde {l : List UInt8} (h : ∀ c ∈ l, c ≠ 126) : unesc l = l := by
  induction l with
  | nil => rfl
  | cons c t ih => rw [unesc_plain (h c (by simp)), ih (fun x hx => h x (List.mem_cons_of_mem _ hx))]

/-- What begins a further token, or nothing. -/
def Head (r : List UInt8) : Prop := r = [] ∨ ∃ t, r = 47 :: t

/-- The tokens of a pointer. -/
inductive Toks : List UInt8 → List (List UInt8) → Prop
  | nil : Toks [] []
  | cons (p r : List UInt8) (ts : List (List UInt8)) : (∀ c ∈ p, c ≠ 47) → TOk p → Head r → Toks r ts → Toks (47 :: (p ++ r)) (unesc p :: ts)

theorem TOk.of_tilded : ∀ (n : Nat) (l : List UInt8), l.length ≤ n → Tilded l → TOk l
  | _, [], _, _ => .nil
  | n + 1, c :: t, hn, h => by
    by_cases hc : c = 126
    · subst hc
      obtain ⟨h1, h2⟩ := h 0 (by simp) rfl
      match t, h1, h2, hn, h with
      | d :: t, h1, h2, hn, h =>
        refine .esc d t ?_ (TOk.of_tilded n t (by simp at hn ⊢; omega) (fun j hj hc => ?_))
        · simp at h2
          rcases h2 with h2 | h2
          · exact .inl (UInt8.toNat_inj.1 h2)
          · exact .inr (UInt8.toNat_inj.1 h2)
        · obtain ⟨a, b⟩ := h (j + 2) (by simp; omega) (by simpa using hc)
          exact ⟨by simp at a; omega, by simpa using b⟩
    · refine .plain c t hc (TOk.of_tilded n t (by simp at hn ⊢; omega) (fun j hj hc => ?_))
      obtain ⟨a, b⟩ := h (j + 1) (by simp; omega) (by simpa using hc)
      exact ⟨by simp at a; omega, by simpa using b⟩
  | 0, c :: t, hn, _ => by simp at hn

theorem TOk.tail {c : UInt8} {t : List UInt8} (h : TOk (c :: t)) (hc : c ≠ 126) : TOk t := by
  cases h with
  | esc => exact absurd rfl hc
  | plain _ _ _ h => exact h

theorem TOk.split {p r : List UInt8} (hr : Head r) (h : TOk (p ++ r)) : TOk p ∧ TOk r := by
  generalize hl : p ++ r = l at h
  induction h generalizing p with
  | nil =>
    obtain ⟨rfl, rfl⟩ := List.append_eq_nil_iff.1 hl
    exact ⟨.nil, .nil⟩
  | esc d t hd ht ih =>
    match p, hl with
    | [], hl =>
      subst hl
      exact ⟨.nil, .esc d t hd ht⟩
    | [a], hl =>
      simp at hl
      obtain ⟨rfl, rfl⟩ := hl
      rcases hr with hr | ⟨u, hr⟩
      · cases hr
      · simp at hr
        obtain ⟨rfl, rfl⟩ := hr
        rcases hd with hd | hd <;> exact absurd hd (by decide)
    | a :: b :: p, hl =>
      simp at hl
      obtain ⟨rfl, rfl, h9⟩ := hl
      obtain ⟨h1, h2⟩ := ih h9
      exact ⟨.esc _ _ hd h1, h2⟩
  | plain c t hc ht ih =>
    match p, hl with
    | [], hl =>
      subst hl
      exact ⟨.nil, .plain c t hc ht⟩
    | a :: p, hl =>
      simp at hl
      obtain ⟨rfl, h9⟩ := hl
      obtain ⟨h1, h2⟩ := ih h9
      exact ⟨.plain _ _ hc h1, h2⟩

/-- A list is cut at its first slash. -/
theorem cut (l : List UInt8) : ∃ p r, l = p ++ r ∧ (∀ c ∈ p, c ≠ 47) ∧ Head r := by
  induction l with
  | nil => exact ⟨[], [], rfl, fun _ h => by simp at h, .inl rfl⟩
  | cons c t ih =>
    by_cases hc : c = 47
    · subst hc
      exact ⟨[], 47 :: t, rfl, fun _ h => by simp at h, .inr ⟨t, rfl⟩⟩
    · obtain ⟨p, r, rfl, h1, h2⟩ := ih
      refine ⟨c :: p, r, rfl, fun x hx => ?_, h2⟩
      rcases List.mem_cons.1 hx with rfl | hx
      · exact hc
      · exact h1 x hx

theorem toks_of : ∀ (n : Nat) (l : List UInt8), l.length ≤ n → TOk l → Head l → ∃ ts, Toks l ts
  | _, [], _, _, _ => ⟨[], .nil⟩
  | 0, c :: t, hn, _, _ => by simp at hn
  | n + 1, c :: t, hn, h, hh => by
    rcases hh with hh | ⟨u, hh⟩
    · cases hh
    · simp at hh
      obtain ⟨rfl, rfl⟩ := hh
      obtain ⟨p, r, rfl, h1, h2⟩ := cut t
      obtain ⟨h3, h4⟩ := (h.tail (by decide)).split h2
      obtain ⟨ts, h5⟩ := toks_of n r (by simp at hn ⊢; omega) h4 h2
      exact ⟨_, .cons p r ts h1 h3 h2 h5⟩

theorem Ptr.toks {l : List UInt8} (h : Ptr l) : ∃ ts, Toks l ts := by
  refine toks_of l.length l (Nat.le_refl _) (TOk.of_tilded _ l (Nat.le_refl _) h.tilde) ?_
  cases l with
  | nil => exact .inl rfl
  | cons c t => exact .inr ⟨t, by rw [show c = 47 from UInt8.toNat_inj.1 (h.head (by simp))]⟩

theorem Toks.len {l : List UInt8} {ts : List (List UInt8)} (h : Toks l ts) : ts.length ≤ l.length := by
  induction h with
  | nil => simp
  | cons p r ts _ _ _ _ ih => simp; omega

theorem Toks.sizes {l : List UInt8} {ts : List (List UInt8)} (h : Toks l ts) : ∀ t ∈ ts, t.length ≤ l.length := by
  induction h with
  | nil => simp
  | cons p r ts _ ht _ _ ih =>
    intro t hm
    rcases List.mem_cons.1 hm with rfl | hm
    · have := unesc_len ht; simp; omega
    · have := ih t hm; simp; omega

theorem TOk.append {p r : List UInt8} (h : TOk p) (k : TOk r) : TOk (p ++ r) := by
  induction h with
  | nil => exact k
  | esc d t hd _ ih => exact .esc d _ hd ih
  | plain c t hc _ ih => exact .plain c _ hc ih

theorem Toks.ok {l : List UInt8} {ts : List (List UInt8)} (h : Toks l ts) : TOk l := by
  induction h with
  | nil => exact .nil
  | cons p r ts _ ht _ _ ih => exact .plain 47 _ (by decide) (ht.append ih)

theorem Toks.head {l : List UInt8} {ts : List (List UInt8)} (h : Toks l ts) (h0 : 0 < l.length) : l[0] = 47 := by
  cases h with
  | nil => simp at h0
  | cons p r ts _ _ _ _ => rfl

/-- The reference's way: byte by byte. -/
def addLast : List (List UInt8) → UInt8 → List (List UInt8)
  | [], _ => []
  | [t], c => [t ++ [c]]
  | t :: u :: ts, c => t :: addLast (u :: ts) c

def scan : List UInt8 → List (List UInt8) → List (List UInt8)
  | [], out => out
  | [c], out => if c = 47 then out ++ [[]] else addLast out c
  | c :: d :: t, out => if c = 47 then scan (d :: t) (out ++ [[]]) else if c = 126 then scan t (addLast out (if d = 48 then 126 else 47)) else scan (d :: t) (addLast out c)

theorem scan_slash (t : List UInt8) (out : List (List UInt8)) : scan (47 :: t) out = scan t (out ++ [[]]) := by
  cases t <;> simp [scan]

theorem scan_esc (d : UInt8) (t : List UInt8) (out : List (List UInt8)) : scan (126 :: d :: t) out = scan t (addLast out (if d = 48 then 126 else 47)) := by
  simp [scan]

theorem scan_plain {c : UInt8} (h1 : c ≠ 47) (h2 : c ≠ 126) (t : List UInt8) (out : List (List UInt8)) : scan (c :: t) out = scan t (addLast out c) := by
  cases t <;> simp [scan, h1, h2]

theorem addLast_append (out : List (List UInt8)) (t : List UInt8) (c : UInt8) : addLast (out ++ [t]) c = out ++ [t ++ [c]] := by
  induction out with
  | nil => rfl
  | cons u us ih =>
    cases us with
    | nil => simp [addLast]
    | cons v vs =>
      show addLast (u :: v :: (vs ++ [t])) c = _
      rw [addLast]
      have : v :: (vs ++ [t]) = (v :: vs) ++ [t] := rfl
      rw [this, ih]
      rfl

theorem scan_piece {p : List UInt8} (h : TOk p) (h47 : ∀ c ∈ p, c ≠ 47) (r : List UInt8) (out : List (List UInt8)) (cur : List UInt8) : scan (p ++ r) (out ++ [cur]) = scan r (out ++ [cur ++ unesc p]) := by
  induction h generalizing cur with
  | nil => simp [unesc]
  | esc d t hd _ ih =>
    rw [unesc_esc]
    show scan (126 :: d :: (t ++ r)) _ = _
    rw [scan_esc, addLast_append, ih (fun c hc => h47 c (by simp [hc]))]
    simp
  | plain c t hc _ ih =>
    rw [unesc_plain hc]
    show scan (c :: (t ++ r)) _ = _
    rw [scan_plain (h47 c (by simp)) hc, addLast_append, ih (fun c hc => h47 c (by simp [hc]))]
    simp

theorem Toks.scan {l : List UInt8} {ts : List (List UInt8)} (h : Toks l ts) (out : List (List UInt8)) : scan l out = out ++ ts := by
  induction h generalizing out with
  | nil => simp [Proofs.Ytalkajcndllipaa.scan]
  | cons p r ts h47 ht _ _ ih =>
    rw [scan_slash, scan_piece ht h47, ih]
    simp

end Go.Proofs.Ytalkajcndllipaa
