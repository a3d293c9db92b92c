/- A string read in two pieces, against the reference (plain). -/
import Derived.Test.YtifemmjblamfkaaDoorStrM
namespace Go.Proofs.YtifemmjblamfkaaDoor.Wire
open Go.RowKit Go.Proofs.YtifemmjblamfkaaDoor

/-- A step stays within the text. -/
theorem step_within {vf : Bool} {d : List UInt8} : (∀ n, sStep vf d = .go n → n ≤ d.length) ∧ (sStep vf d = .fine → 1 ≤ d.length) := by
  cases hdd : d with
  | nil => exact ⟨fun n h => (by cases h), fun h => (by cases h)⟩
  | cons a t =>
    rw [← hdd]
    have h1 : 1 ≤ d.length := by rw [hdd]; simp
    refine ⟨fun n hs => ?_, fun _ => h1⟩
    by_cases n34 : a = 34
    · subst n34
      rw [ss_quote hdd] at hs
      cases hs
    by_cases n92 : a = 92
    · subst n92
      rw [ss_esc hdd, hdd] at hs
      match t, hdd with
      | [], hdd => cases hs
      | x :: u, hdd =>
        have h2 : 2 ≤ d.length := by rw [hdd]; simp
        rw [← hdd] at hs
        have hu : sEsc vf d = if simpleB x = true then .go 2 else if x = 117 then (if d.length < 6 then (if prefB false d = true then .short else .bad) else match hex4 ((d.drop 2).take 4) with
            | none => .bad
            | some v1 => if vf = true ∧ 55296 ≤ v1 ∧ v1 < 57344 then sUnit d v1 else .go 6) else .bad := by
          rw [hdd]
          rfl
        rw [hu] at hs
        by_cases q : simpleB x = true
        · rw [if_pos q] at hs
          cases hs
          exact h2
        rw [if_neg q] at hs
        by_cases q2 : x = 117
        · rw [if_pos q2] at hs
          by_cases h6 : d.length < 6
          · rw [if_pos h6] at hs
            split at hs <;> cases hs
          · rw [if_neg h6] at hs
            cases hx : hex4 ((d.drop 2).take 4) with
            | none => rw [hx] at hs; cases hs
            | some v1 =>
              rw [hx] at hs
              simp only at hs
              by_cases hv : vf = true ∧ 55296 ≤ v1 ∧ v1 < 57344
              · rw [if_pos hv] at hs
                unfold sUnit at hs
                by_cases h12 : d.length < 12
                · rw [if_pos h12] at hs
                  split at hs <;> cases hs
                · rw [if_neg h12] at hs
                  split at hs
                  · cases hs
                  · split at hs
                    · split at hs
                      · cases hs
                        omega
                      · cases hs
                    · cases hs
              · rw [if_neg hv] at hs
                cases hs
                omega
        · rw [if_neg q2] at hs
          cases hs
    by_cases n32 : a.toNat < 32
    · rw [ss_ctrl hdd n32] at hs
      cases hs
    by_cases hex : ∃ m, CharAt d m
    · obtain ⟨m, hm⟩ := hex
      rw [ss_char hdd n34 n92 (by omega) hm] at hs
      cases hs
      exact hm.le4.2.2
    · have hno : ∀ m, ¬ CharAt d m := fun m h => hex ⟨m, h⟩
      have h128 : 128 ≤ a.toNat := by
        rcases Nat.lt_or_ge a.toNat 128 with q | q
        · exact absurd (.inl ⟨rfl, a, t, hdd, q⟩) (hno 1)
        · exact q
      rw [ss_bad hdd h128 hno] at hs
      split at hs
      · cases vf with
        | true => cases hs
        | false =>
          cases hs
          exact h1
      · cases hs

theorem run_within {vf : Bool} {l : List UInt8} {k : Nat} {p : Nat × Nat} (h : SRun vf l k p) : k ≤ l.length → p.1 ≤ l.length := by
  induction h with
  | fine hs =>
    intro _
    have := (step_within (d := l.drop _)).2 hs
    rw [List.length_drop] at this
    show _ + 1 ≤ _
    omega
  | short _ => exact fun h => h
  | bad _ => exact fun h => h
  | go hs _ ih =>
    intro _
    have := (step_within (d := l.drop _)).1 _ hs
    rw [List.length_drop] at this
    exact ih (by omega)

theorem run_code {vf : Bool} {l : List UInt8} {k : Nat} {p : Nat × Nat} (h : SRun vf l k p) : p.2 ≤ 2 := by
  induction h with
  | fine _ => exact Nat.zero_le _
  | short _ => exact Nat.le_succ 1
  | bad _ => exact Nat.le_refl _
  | go _ _ ih => exact ih

/-- Reading from the first byte on. -/
inductive SFirst (vf : Bool) (l : List UInt8) : Nat × Nat → Prop
  | nil : l = [] → SFirst vf l (0, 1)
  | noq (c : UInt8) (t : List UInt8) : l = c :: t → c ≠ 34 → SFirst vf l (0, 2)
  | run (t : List UInt8) {p : Nat × Nat} : l = 34 :: t → SRun vf l 1 p → SFirst vf l p

/-- Reading on from the place that was told. -/
def SNext (vf : Bool) (l : List UInt8) (n : Nat) (p : Nat × Nat) : Prop := (n = 0 ∧ SFirst vf l p) ∨ (0 < n ∧ SRun vf l n p)

theorem SNext.code {vf : Bool} {l : List UInt8} {n : Nat} {p : Nat × Nat} (h : SNext vf l n p) : p.2 ≤ 2 := by
  rcases h with ⟨_, h⟩ | ⟨_, h⟩
  · cases h with
    | nil _ => exact Nat.le_succ 1
    | noq _ _ _ _ => exact Nat.le_refl _
    | run _ _ h => exact run_code h
  · exact run_code h

theorem quote_yes {l t : List UInt8} (h : l = 34 :: t) : (mNeed l 34 34 0).1 = true := need_in (c := 34) (by rw [h]; rfl) (by decide) (by decide)

theorem quote_no {l t : List UInt8} {c : UInt8} (h : l = c :: t) (hc : c ≠ 34) : (mNeed l 34 34 0).1 = false := by
  cases e : (mNeed l 34 34 0).1 with
  | false => rfl
  | true =>
    obtain ⟨y, hy, h1, h2⟩ := need_get e
    rw [h] at hy
    cases hy
    exact absurd (UInt8.toNat_inj.1 (by show c.toNat = 34; omega)) hc

theorem quote_nil : (mNeed ([] : List UInt8) 34 34 0).1 = false := by
  cases e : (mNeed ([] : List UInt8) 34 34 0).1 with
  | false => rfl
  | true =>
    obtain ⟨y, hy, _⟩ := need_get e
    cases hy

theorem qrel_quote {lo : Bool} {l t : List UInt8} {r : Bool × Nat} (h : l = 34 :: t) (hq : QRel lo l 0 r) : QRun lo l 1 r := by
  rcases hq with ⟨_, hq⟩ | ⟨e, _⟩
  · exact hq
  · rw [quote_yes h] at e
    cases e

theorem qrel_no {lo : Bool} {l : List UInt8} {r : Bool × Nat} (h : (mNeed l 34 34 0).1 = false) (hq : QRel lo l 0 r) : r = (false, 0) := by
  rcases hq with ⟨e, _⟩ | ⟨_, e⟩
  · rw [h] at e
    cases e
  · exact e

/-- The second reading and the reference. -/
theorem next_agree {vf : Bool} {l : List UInt8} {c : Nat} {p q : Nat × Nat} {r : Bool × Nat} (h1 : SFirst vf (l.take c) p) (h2 : p.2 = 1) (h3 : SNext vf l p.1 q) (hr : QRel (!vf) l 0 r) : SAgree l.length r q := by
  have first : SFirst vf l q → SAgree l.length r q := fun h => by
    cases h with
    | nil e =>
      subst e
      rw [qrel_no quote_nil hr]
      exact .inr (.inl ⟨rfl, rfl⟩)
    | noq x t e hx =>
      rw [qrel_no (quote_no e hx) hr]
      exact .inr (.inr ⟨rfl, rfl, by rw [e]; simp⟩)
    | run t e h =>
      obtain ⟨r', hq, ha⟩ := run_agree h
      rw [QRun.one (qrel_quote e hr) _ hq]
      exact ha
  rcases h3 with ⟨_, h⟩ | ⟨h0, h⟩
  · exact first h
  · cases h1 with
    | nil e => exact absurd h0 (Nat.lt_irrefl 0)
    | noq x t e hx => cases h2
    | run t e h1 =>
      obtain ⟨r', hq, ha⟩ := run_agree h
      have hl : ∃ t, l = 34 :: t := by
        cases l with
        | nil => simp at e
        | cons a t' =>
          cases c with
          | zero => simp at e
          | succ c =>
            simp only [List.take_succ_cons, List.cons.injEq] at e
            exact ⟨t', by rw [e.1]⟩
      obtain ⟨t', hl⟩ := hl
      rw [QRun.one (qrel_quote hl hr) _ (run_resume h1 h2 _ hq)]
      exact ha

/-- The first reading, of a part that ends too early. -/
theorem first_short {vf : Bool} {d : List UInt8} {p : Nat × Nat} {r : Bool × Nat} (h1 : SFirst vf d p) (hr : QRel (!vf) d 0 r) (h : r = (false, d.length)) : p.2 = 1 ∧ p.1 ≤ d.length := by
  cases h1 with
  | nil e => exact ⟨rfl, Nat.zero_le _⟩
  | noq x t e hx =>
    have h0 := qrel_no (quote_no e hx) hr
    rw [h0, e] at h
    simp at h
  | run t e h1 =>
    obtain ⟨r', hq, ha⟩ := run_agree h1
    have e1 := QRun.one (qrel_quote e hr) _ hq
    refine ⟨?_, run_within h1 (by rw [e]; simp)⟩
    rcases ha with ⟨_, ha, _⟩ | ⟨ha, _⟩ | ⟨_, _, ha⟩
    · rw [← e1, h] at ha
      cases ha
    · exact ha
    · rw [← e1, h] at ha
      exact absurd ha (Nat.lt_irrefl _)

theorem QRun.lt {lo : Bool} {l : List UInt8} {k : Nat} {r : Bool × Nat} (h : QRun lo l k r) : r.1 = true → r.2 < l.length := by
  induction h with
  | eof _ => intro h; cases h
  | done h => intro _; exact (List.getElem?_eq_some_iff.1 h).1
  | escNo _ _ => intro h; cases h
  | esc _ _ _ ih => exact ih
  | ctrl _ _ => intro h; cases h
  | plain _ _ _ _ _ _ ih => exact ih
  | rune _ _ _ _ _ ih => exact ih
  | runeNo _ _ _ _ => intro h; cases h

theorem QRel.lt {lo : Bool} {l : List UInt8} {k : Nat} {r : Bool × Nat} (h : QRel lo l k r) (hr : r.1 = true) : r.2 < l.length := by
  rcases h with ⟨_, h⟩ | ⟨_, h⟩
  · exact QRun.lt h hr
  · rw [h] at hr
    cases hr

end Go.Proofs.YtifemmjblamfkaaDoor.Wire
