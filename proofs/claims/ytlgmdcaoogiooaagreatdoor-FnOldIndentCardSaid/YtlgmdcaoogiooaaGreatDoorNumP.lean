/- A number, as the reference reads it, and the scanner over it. -/
import Derived.Test.YtlgmdcaoogiooaaGreatDoorGram
namespace Go.Proofs.YtlgmdcaoogiooaaGreatDoor
open Go.RowKit

/-- The exponent, the fraction, the whole part, the number: whether it is well, and where reading stands then. -/
def mExp (l : List UInt8) (k : Nat) : Bool × Nat :=
  if seeB l k = 101 ∨ seeB l k = 69 then mDigits l (if seeB l (k + 1) = 43 ∨ seeB l (k + 1) = 45 then k + 1 + 1 else k + 1) else (true, k)
def mFrac (l : List UInt8) (k : Nat) : Bool × Nat :=
  if seeB l k = 46 then (if (mDigits l (k + 1)).1 = true then mExp l (mDigits l (k + 1)).2 else mDigits l (k + 1)) else mExp l k
def mInt (l : List UInt8) (k : Nat) : Bool × Nat :=
  if seeB l k = 48 then mFrac l (k + 1) else if (mDigits l k).1 = true then mFrac l (mDigits l k).2 else mDigits l k
def mNumber (l : List UInt8) (k : Nat) : Bool × Nat := mInt l (if seeB l k = 45 then k + 1 else k)

theorem seeB_some {l : List UInt8} {k : Nat} {c : UInt8} (h : l[k]? = some c) : seeB l k = ((c.toNat : Nat) : Int) := by unfold seeB; rw [h]
theorem seeB_none {l : List UInt8} {k : Nat} (h : l[k]? = none) : seeB l k = 0 := by unfold seeB; rw [h]
theorem seeB_get {l : List UInt8} {k : Nat} {c : Nat} (h : seeB l k = (c : Int)) (hc : c ≠ 0) : ∃ d : UInt8, l[k]? = some d ∧ d.toNat = c := by
  unfold seeB at h
  split at h
  · rename_i d hd
    exact ⟨d, hd, by omega⟩
  · omega
theorem seeB_lt {l : List UInt8} {k : Nat} (h : seeB l k ≠ 0) : k < l.length := by
  unfold seeB at h
  split at h
  · rename_i d hd
    exact (List.getElem?_eq_some_iff.1 hd).1
  · exact absurd rfl h

theorem mDigs_ge (l : List UInt8) (k : Nat) : k ≤ mDigs l k := by unfold mDigs; omega
theorem mDigs_len {l : List UInt8} {k : Nat} (h : k ≤ l.length) : mDigs l k ≤ l.length := by
  unfold mDigs
  have := (List.takeWhile_sublist (l := l.drop k) (fun c : UInt8 => decide (isDig c.toNat))).length_le
  rw [List.length_drop] at this
  omega
theorem mDigs_end (l : List UInt8) : ∀ (n k : Nat), l.length - k ≤ n → ∀ c, l[mDigs l k]? = some c → ¬ isDig c.toNat
  | 0, k, h, c, hc => by
    have := (List.getElem?_eq_some_iff.1 hc).1
    have := mDigs_ge l k
    omega
  | n + 1, k, h, c, hc => by
    by_cases hk : k < l.length
    · by_cases hd : isDig (l[k]'hk).toNat
      · rw [mDigs_on hk hd] at hc
        exact mDigs_end l n (k + 1) (by omega) c hc
      · rw [mDigs_off (fun _ => hd), List.getElem?_eq_getElem hk] at hc
        cases hc
        exact hd
    · have := (List.getElem?_eq_some_iff.1 hc).1
      have := mDigs_ge l k
      omega

/-- The scanner goes on: no fault yet, and the value has not ended. -/
structure On (g : Cfg) : Prop where
  wf : WF g
  er : g.er = none
  top : g.top ≠ true

theorem On.to {g : Cfg} (h : On g) {s : St} (h1 : s ≠ .bse) (h2 : s ≠ .err) : On (g.to s) :=
  ⟨⟨fun e => absurd e h1, fun e => absurd e h.top, fun e => absurd h.er e, fun e => absurd e h2⟩, h.er, h.top⟩

theorem on_ev (g : Cfg) (s : St) (y : Int) (c : Nat) : stepEv (g.to s) y c = stepEv g y c := by
  rcases last_cases g.ps with h | ⟨i, p, h⟩
  · rw [evP_none (g := g.to s) h, evP_none h]
    rfl
  · rw [evP_some (g := g.to s) h, evP_some h]
    rfl

theorem after_to (g : Cfg) (s : St) : after (g.to s) = after g := rfl

/-- Two scanners that step alike find the same fault. -/
theorem fin_alike {g1 g2 : Cfg} (h1 : On g1) (h2 : On g2) (n : Nat) (l : List UInt8) (hs : ∀ c t, l = c :: t → (stepC g1 ((n + 1 : Nat) : Int) c.toNat).1 = (stepC g2 ((n + 1 : Nat) : Int) c.toNat).1)
    (h32 : (stepC g1 (n : Int) 32).1.top = (stepC g2 (n : Int) 32).1.top ∧ (stepC g1 (n : Int) 32).1.er = (stepC g2 (n : Int) 32).1.er) : fin g1 n l = fin g2 n l := by
  have A : ∀ g, On g → (eofP g (n : Int)).1.er = if (stepC g (n : Int) 32).1.top = true then (stepC g (n : Int) 32).1.er else if (stepC g (n : Int) 32).1.er = none then some (n : Int) else (stepC g (n : Int) 32).1.er := fun g hg => by
    unfold eofP
    rw [if_neg (show ¬ g.er ≠ none by rw [hg.er]; simp), if_neg hg.top]
    split
    · rfl
    · split
      · rfl
      · rfl
  cases l with
  | nil =>
    show (eofP g1 (n : Int)).1.er = (eofP g2 (n : Int)).1.er
    rw [A g1 h1, A g2 h2, h32.1, h32.2]
  | cons c t => rw [fin_cons h1.wf, fin_cons h2.wf, hs c t rfl]

theorem fin_same {g1 g2 : Cfg} (h1 : On g1) (h2 : On g2) (n : Nat) (l : List UInt8) (hs : ∀ c t, l = c :: t → (stepC g1 ((n + 1 : Nat) : Int) c.toNat).1 = (stepC g2 ((n + 1 : Nat) : Int) c.toNat).1)
    (h32 : (stepC g1 (n : Int) 32).1 = (stepC g2 (n : Int) 32).1) : fin g1 n l = fin g2 n l := fin_alike h1 h2 n l hs ⟨by rw [h32], by rw [h32]⟩

theorem drop_get {l : List UInt8} {k : Nat} {c : UInt8} (h : l[k]? = some c) : l.drop k = c :: l.drop (k + 1) := by
  obtain ⟨hk, hc⟩ := List.getElem?_eq_some_iff.1 h
  rw [List.drop_eq_getElem_cons hk, hc]

theorem drop_head {l t : List UInt8} {k : Nat} {c : UInt8} (h : l.drop k = c :: t) : l[k]? = some c := by
  have := List.getElem?_drop (xs := l) (i := k) (j := 0)
  rw [h] at this
  simpa using this.symm

/-- A byte that it takes. -/
theorem fin_yes {g g1 : Cfg} (h : On g) {l : List UInt8} {k : Nat} {c : UInt8} (hc : l[k]? = some c) (h1 : (stepC g ((k + 1 : Nat) : Int) c.toNat).1 = g1) : fin g k (l.drop k) = fin g1 (k + 1) (l.drop (k + 1)) := by
  rw [drop_get hc, fin_step h.wf h1]

/-- A byte that it does not take, or an end too early. -/
theorem fin_no {g : Cfg} (h : On g) {l : List UInt8} {k : Nat} (hk : k ≤ l.length) (hc : ∀ c, l[k]? = some c → ∃ g1, (stepC g ((k + 1 : Nat) : Int) c.toNat).1 = Cfg.fail g1 ((k + 1 : Nat) : Int))
    (h32 : ∃ g1, g1.top ≠ true ∧ (g1.er = none ∨ g1.er = some (k : Int)) ∧ (stepC g (k : Int) 32).1 = g1) : fin g k (l.drop k) = some ((min (k + 1) l.length : Nat) : Int) := by
  cases e : l[k]? with
  | none =>
    have hk2 : l.length = k := by have := List.getElem?_eq_none_iff.1 e; omega
    obtain ⟨g1, t1, e1, h1⟩ := h32
    rw [List.drop_eq_nil_of_le (by omega), hk2, Nat.min_eq_right (by omega)]
    exact fin_short h.er h.top k h1 t1 e1
  | some c =>
    have hk2 := (List.getElem?_eq_some_iff.1 e).1
    obtain ⟨g1, h1⟩ := hc c e
    rw [drop_get e, fin_bad h.wf h1, Nat.min_eq_left (by omega)]

/-- What is said of a reading from k on: it is well and the scanner goes on behind it, or it tells the scanner's fault. -/
def Says (g : Cfg) (l : List UInt8) (k : Nat) (g1 : Cfg) (r : Bool × Nat) : Prop :=
  r.2 ≤ l.length ∧ (r.1 = true → fin g k (l.drop k) = fin g1 r.2 (l.drop r.2)) ∧ (r.1 = false → fin g k (l.drop k) = some ((min (r.2 + 1) l.length : Nat) : Int))

theorem Says.thru {g g1 g2 : Cfg} {l : List UInt8} {k k1 : Nat} {r : Bool × Nat} (h : fin g k (l.drop k) = fin g1 k1 (l.drop k1)) (h2 : Says g1 l k1 g2 r) : Says g l k g2 r :=
  ⟨h2.1, fun e => h.trans (h2.2.1 e), fun e => h.trans (h2.2.2 e)⟩

/-- Digits, of which there may be none. -/
theorem says_digs {g : Cfg} (h : On g) (hd : ∀ y c, isDig c → stepC g y c = (g, 0)) (l : List UInt8) : ∀ (n k : Nat), l.length - k ≤ n → fin g k (l.drop k) = fin g (mDigs l k) (l.drop (mDigs l k))
  | 0, k, hn => by rw [mDigs_off (fun hk => by omega)]
  | n + 1, k, hn => by
    by_cases hk : k < l.length
    · by_cases hc : isDig (l[k]'hk).toNat
      · rw [mDigs_on hk hc, fin_yes h (List.getElem?_eq_getElem hk) (by rw [hd _ _ hc])]
        exact says_digs h hd l n (k + 1) (by omega)
      · rw [mDigs_off (fun _ => hc)]
    · rw [mDigs_off (fun hk2 => absurd hk2 hk)]

theorem mNeed_pos {l : List UInt8} {lo hi : Int} {k : Nat} (h : (mNeed l lo hi k).1 = true) : ∃ c : UInt8, l[k]? = some c ∧ lo ≤ ((c.toNat : Nat) : Int) ∧ ((c.toNat : Nat) : Int) ≤ hi := by
  unfold mNeed at h
  split at h
  · rename_i c hc
    split at h
    · rename_i q
      exact ⟨c, hc, q⟩
    · cases h
  · cases h

theorem mNeed_neg {l : List UInt8} {lo hi : Int} {k : Nat} (h : ¬ (mNeed l lo hi k).1 = true) : ∀ c : UInt8, l[k]? = some c → ¬ (lo ≤ ((c.toNat : Nat) : Int) ∧ ((c.toNat : Nat) : Int) ≤ hi) := by
  intro c hc q
  apply h
  unfold mNeed
  rw [hc]
  exact congrArg Prod.fst (if_pos q)

/-- One digit or more, in a state that wants one. -/
theorem says_digits {g g1 : Cfg} (h : On g) (h1 : On g1) (hd : ∀ y c, isDig c → stepC g y c = (g1, 0)) (hn : ∀ y c, ¬ isDig c → (stepC g y c).1 = g.fail y) (hd1 : ∀ y c, isDig c → stepC g1 y c = (g1, 0)) (l : List UInt8) (k : Nat) (hk : k ≤ l.length) :
    Says g l k g1 (mDigits l k) := by
  unfold mDigits
  split
  · rename_i q
    obtain ⟨c, hc, q1, q2⟩ := mNeed_pos q
    have hk2 := (List.getElem?_eq_some_iff.1 hc).1
    refine ⟨mDigs_len (by omega), fun _ => ?_, fun e => by cases e⟩
    rw [fin_yes h hc (by rw [hd _ _ ⟨by omega, by omega⟩])]
    exact says_digs h1 hd1 l _ (k + 1) (Nat.le_refl _)
  · rename_i q
    refine ⟨hk, fun e => (by cases e), fun _ => ?_⟩
    exact fin_no h hk (fun c hc => ⟨g, hn _ _ (fun q2 => mNeed_neg q c hc ⟨by have := q2.1; omega, by have := q2.2; omega⟩)⟩)
      ⟨_, by rw [hn _ _ (by unfold isDig; omega)]; exact h.top, .inr (by rw [hn _ _ (by unfold isDig; omega)]; rfl), rfl⟩

/-- The exponent, behind digits that have ended. -/
theorem says_exp {g : Cfg} (h : On g) {s : St} (hs1 : s ≠ .bse) (hs2 : s ≠ .err) (l : List UInt8) (k : Nat) (hk : k ≤ l.length)
    (hstep : ∀ c, (∀ d, l[k]? = some d → c = d.toNat ∨ c = 32) → c = 32 ∨ l[k]?.map (·.toNat) = some c → ∀ y, stepC (g.to s) y c = if c = 101 ∨ c = 69 then (g.to .e, 0) else stepEv (g.to s) y c) :
    Says (g.to s) l k (after g) (mExp l k) := by
  have hon := h.to hs1 hs2
  unfold mExp
  split
  · rename_i q
    have hx : ∃ d : UInt8, l[k]? = some d ∧ (d.toNat = 101 ∨ d.toNat = 69) := by
      rcases q with q | q
      · obtain ⟨d, h1, h2⟩ := seeB_get (c := 101) q (by omega)
        exact ⟨d, h1, .inl h2⟩
      · obtain ⟨d, h1, h2⟩ := seeB_get (c := 69) q (by omega)
        exact ⟨d, h1, .inr h2⟩
    obtain ⟨d, hd, hde⟩ := hx
    have hk2 := (List.getElem?_eq_some_iff.1 hd).1
    have e1 : (stepC (g.to s) ((k + 1 : Nat) : Int) d.toNat).1 = g.to .e := by
      rw [hstep d.toNat (fun d' h' => by rw [hd] at h'; cases h'; exact .inl rfl) (.inr (by rw [hd]; rfl)), if_pos hde]
    have hE : On (g.to .e) := h.to (by simp) (by simp)
    have hE0 : On (g.to .e0) := h.to (by simp) (by simp)
    have hES : On (g.to .esign) := h.to (by simp) (by simp)
    have d0 : ∀ y c, isDig c → stepC (g.to .e0) y c = (g.to .e0, 0) := fun y c hc => if_pos hc
    have hlast : ∀ q, q ≤ l.length → (∀ c, l[q]? = some c → ¬ isDig c.toNat) → fin (g.to .e0) q (l.drop q) = fin (after g) q (l.drop q) := fun q hq hne => by
      have hEv : On (g.to .ev) := h.to (by simp) (by simp)
      have hstep2 : ∀ y c, ¬ isDig c → stepC (g.to .e0) y c = stepC (g.to .ev) y c := fun y c hc => by
        show stepE0 (g.to .e0) y c = stepEv (g.to .ev) y c
        unfold stepE0
        rw [if_neg hc, on_ev, on_ev]
      refine (fin_same hE0 hEv q _ (fun c t e => ?_) ?_).trans ((fin_after hEv.wf hEv.er hEv.top rfl q _).trans (by rw [after_to]))
      · rw [hstep2 _ _ (hne c (drop_head e))]
      · rw [hstep2 _ _ (by unfold isDig; omega)]
    have main : ∀ gs k1, On gs → k1 ≤ l.length → (∀ y c, isDig c → stepC gs y c = (g.to .e0, 0)) → (∀ y c, ¬ isDig c → (stepC gs y c).1 = gs.fail y ∨ (stepC gs y c).1 = g.to .esign) → (∀ c, l[k1]? = some c → ¬ isDig c.toNat → ∀ y, (stepC gs y c.toNat).1 = gs.fail y) → (∀ y, (stepC gs y 32).1 = gs.fail y) → Says gs l k1 (after g) (mDigits l k1) := by
      intro gs k1 hgs hk1 g1 _ g3 g4
      unfold mDigits
      split
      · rename_i q
        obtain ⟨c, hc, q1, q2⟩ := mNeed_pos q
        have hk3 := (List.getElem?_eq_some_iff.1 hc).1
        refine ⟨mDigs_len (by omega), fun _ => ?_, fun e => by cases e⟩
        rw [fin_yes hgs hc (by rw [g1 _ _ ⟨by omega, by omega⟩]), says_digs hE0 d0 l _ (k1 + 1) (Nat.le_refl _)]
        exact hlast _ (mDigs_len (by omega)) (mDigs_end l _ _ (Nat.le_refl _))
      · rename_i q
        refine ⟨hk1, fun e => (by cases e), fun _ => ?_⟩
        exact fin_no hgs hk1 (fun c hc => ⟨gs, g3 c hc (fun q2 => mNeed_neg q c hc ⟨by have := q2.1; omega, by have := q2.2; omega⟩) _⟩)
          ⟨_, by rw [g4]; exact hgs.top, .inr (by rw [g4]; rfl), rfl⟩
    refine Says.thru (fin_yes hon hd e1) ?_
    have nd : ∀ (gs : Cfg) y c, ¬ isDig c → stepESign gs y c = (gs.fail y, 11) := fun gs y c hc => if_neg hc
    have yd : ∀ y c, isDig c → stepESign (g.to .esign) y c = (g.to .e0, 0) := fun y c hc => if_pos hc
    have yd2 : ∀ y c, isDig c → stepESign (g.to .e) y c = (g.to .e0, 0) := fun y c hc => if_pos hc
    by_cases hp : seeB l (k + 1) = 43 ∨ seeB l (k + 1) = 45
    · rw [if_pos hp]
      have hx : ∃ d : UInt8, l[k + 1]? = some d ∧ (d.toNat = 43 ∨ d.toNat = 45) := by
        rcases hp with q | q
        · obtain ⟨d, h1, h2⟩ := seeB_get (c := 43) q (by omega)
          exact ⟨d, h1, .inl h2⟩
        · obtain ⟨d, h1, h2⟩ := seeB_get (c := 45) q (by omega)
          exact ⟨d, h1, .inr h2⟩
      obtain ⟨d2, hd2, hde2⟩ := hx
      have hk3 := (List.getElem?_eq_some_iff.1 hd2).1
      have e2 : (stepC (g.to .e) ((k + 1 + 1 : Nat) : Int) d2.toNat).1 = g.to .esign := by
        show (stepE (g.to .e) _ d2.toNat).1 = _
        unfold stepE
        rw [if_pos hde2]
        rfl
      refine Says.thru (fin_yes hE hd2 e2) ?_
      exact main _ _ hES (by omega) yd (fun y c hc => .inl (by show (stepESign _ y c).1 = _; rw [nd _ _ _ hc])) (fun c _ hc y => by show (stepESign _ y _).1 = _; rw [nd _ _ _ hc]) (fun y => by show (stepESign _ y _).1 = _; rw [nd _ _ _ (by unfold isDig; omega)])
    · rw [if_neg hp]
      have eE : ∀ y c, ¬ (c = 43 ∨ c = 45) → stepC (g.to .e) y c = stepESign (g.to .e) y c := fun y c hc => if_neg hc
      refine main _ _ hE (by omega) (fun y c hc => by rw [eE _ _ (by unfold isDig at hc; omega)]; exact yd2 y c hc) (fun y c hc => ?_) (fun c hc hcd y => ?_) (fun y => by rw [eE _ _ (by omega), nd _ _ _ (by unfold isDig; omega)])
      · by_cases hpm : c = 43 ∨ c = 45
        · exact .inr (by show (stepE _ y c).1 = _; unfold stepE; rw [if_pos hpm]; rfl)
        · exact .inl (by rw [eE _ _ hpm, nd _ _ _ hc])
      · rw [eE _ _ (fun q => hp (by rw [seeB_some hc]; rcases q with q | q <;> rw [q] <;> simp)), nd _ _ _ hcd]
  · rename_i q
    refine ⟨hk, fun _ => ?_, fun e => by cases e⟩
    have hEv : On (g.to .ev) := h.to (by simp) (by simp)
    refine (fin_same hon hEv k _ (fun c t e => ?_) ?_).trans ((fin_after hEv.wf hEv.er hEv.top rfl k _).trans (by rw [after_to]))
    · have hc := drop_head e
      have hne : ¬ (c.toNat = 101 ∨ c.toNat = 69) := fun q2 => q (by rw [seeB_some hc]; rcases q2 with q2 | q2 <;> rw [q2] <;> simp)
      rw [hstep c.toNat (fun d h' => by rw [hc] at h'; cases h'; exact .inl rfl) (.inr (by rw [hc]; rfl)), if_neg hne, on_ev]
      show _ = (stepEv (g.to .ev) _ _).1
      rw [on_ev]
    · rw [hstep 32 (fun d h' => .inr rfl) (.inl rfl), if_neg (by omega), on_ev]
      show _ = (stepEv (g.to .ev) _ _).1
      rw [on_ev]

/-- The fraction, behind digits that have ended. -/
theorem says_frac {g : Cfg} (h : On g) {s : St} (hs : s = .s0 ∨ s = .s1) (l : List UInt8) (k : Nat) (hk : k ≤ l.length) (hne : s = .s1 → ∀ c, l[k]? = some c → ¬ isDig c.toNat) :
    Says (g.to s) l k (after g) (mFrac l k) := by
  have hs1 : s ≠ .bse := by rcases hs with rfl | rfl <;> simp
  have hs2 : s ≠ .err := by rcases hs with rfl | rfl <;> simp
  have hon := h.to hs1 hs2
  have hst : ∀ c, c = 32 ∨ l[k]?.map (·.toNat) = some c → ∀ y, stepC (g.to s) y c = stepS0 (g.to s) y c := by
    intro c hc y
    rcases hs with rfl | rfl
    · rfl
    · show stepS1 _ y c = _
      unfold stepS1
      have : ¬ isDig c := by
        rcases hc with rfl | hc
        · unfold isDig; omega
        · cases e : l[k]? with
          | none => rw [e] at hc; cases hc
          | some d => rw [e] at hc; cases hc; exact hne rfl d e
      rw [if_neg this]
  unfold mFrac
  split
  · rename_i q
    obtain ⟨d, hd, hde⟩ := seeB_get (c := 46) q (by omega)
    have hk2 := (List.getElem?_eq_some_iff.1 hd).1
    have e1 : (stepC (g.to s) ((k + 1 : Nat) : Int) d.toNat).1 = g.to .dot := by
      rw [hst d.toNat (.inr (by rw [hd]; rfl))]
      unfold stepS0
      rw [if_pos hde]
      rfl
    refine Says.thru (fin_yes hon hd e1) ?_
    have hD : On (g.to .dot) := h.to (by simp) (by simp)
    have hD0 : On (g.to .dot0) := h.to (by simp) (by simp)
    have hdg := says_digits hD hD0 (fun y c hc => if_pos hc) (fun y c hc => by show (stepDot _ y c).1 = _; unfold stepDot; rw [if_neg hc]) (fun y c hc => if_pos hc) l (k + 1) (by omega)
    split
    · rename_i q2
      refine Says.thru (hdg.2.1 q2) ?_
      have hend : ∀ c, l[(mDigits l (k + 1)).2]? = some c → ¬ isDig c.toNat := by
        have hq : (mDigits l (k + 1)).1 = true → (mDigits l (k + 1)).2 = mDigs l (k + 1 + 1) := by
          unfold mDigits
          split
          · exact fun _ => rfl
          · exact fun e => (by cases e)
        rw [hq q2]
        exact mDigs_end l _ _ (Nat.le_refl _)
      refine says_exp h (by simp) (by simp) l _ hdg.1 (fun c _ hc y => ?_)
      show stepDot0 _ y c = _
      unfold stepDot0
      have : ¬ isDig c := by
        rcases hc with rfl | hc
        · unfold isDig; omega
        · cases e : l[(mDigits l (k + 1)).2]? with
          | none => rw [e] at hc; cases hc
          | some d => rw [e] at hc; cases hc; exact hend d e
      rw [if_neg this]
      rfl
    · rename_i q2
      exact ⟨hdg.1, fun e => absurd e q2, hdg.2.2⟩
  · rename_i q
    refine says_exp h hs1 hs2 l k hk (fun c _ hc y => ?_)
    rw [hst c hc y]
    unfold stepS0
    have : c ≠ 46 := by
      rcases hc with rfl | hc
      · omega
      · cases e : l[k]? with
        | none => rw [e] at hc; cases hc
        | some d => rw [e] at hc; cases hc; exact fun q2 => q (by have q3 : d.toNat = 46 := q2; rw [seeB_some e, q3]; rfl)
    rw [if_neg this]
    rfl

/-- A number, where a value is wanted: the scanner steps as at the beginning of a value. -/
theorem says_number {g : Cfg} (h : On g) (l : List UInt8) (k : Nat) (hk : k < l.length) (hc0 : seeB l k = 45 ∨ (48 ≤ seeB l k ∧ seeB l k ≤ 57)) (hst : ∀ y c, (c = 45 ∨ isDig c) → stepC g y c = stepBv g y c) :
    Says g l k (after g) (mNumber l k) := by
  have digEnd : ∀ j, (mDigits l j).1 = true → ∀ c, l[(mDigits l j).2]? = some c → ¬ isDig c.toNat := by
    intro j hj
    have hq : (mDigits l j).1 = true → (mDigits l j).2 = mDigs l (j + 1) := by
      unfold mDigits
      split
      · exact fun _ => rfl
      · exact fun e => (by cases e)
    rw [hq hj]
    exact mDigs_end l _ _ (Nat.le_refl _)
  -- one digit at j leads to s0 or s1
  have main : ∀ (gs : Cfg) j, On gs → j ≤ l.length → gs.ps = g.ps → gs.er = g.er → gs.top = g.top → (∀ y, (stepC gs y 48).1 = g.to .s0) → (∀ y c, 49 ≤ c ∧ c ≤ 57 → (stepC gs y c).1 = g.to .s1) → ((∃ c, l[j]? = some c ∧ isDig c.toNat) ∨ (∀ y c, ¬ isDig c → (stepC gs y c).1 = gs.fail y)) → Says gs l j (after g) (mInt l j) := by
    intro gs j hgs hj _ _ _ g0 g1 g2
    have hS1 : On (g.to .s1) := h.to (by simp) (by simp)
    unfold mInt
    split
    · rename_i q
      obtain ⟨d, hd, hde⟩ := seeB_get (c := 48) q (by omega)
      have hk2 := (List.getElem?_eq_some_iff.1 hd).1
      refine Says.thru (fin_yes (g1 := g.to .s0) hgs hd (by rw [hde]; exact g0 _)) ?_
      exact says_frac h (.inl rfl) l (j + 1) (by omega) (fun e => by cases e)
    · rename_i q
      have hdg : Says gs l j (g.to .s1) (mDigits l j) := by
        unfold mDigits
        split
        · rename_i q1
          obtain ⟨c, hc, q2, q3⟩ := mNeed_pos q1
          have hk3 := (List.getElem?_eq_some_iff.1 hc).1
          have hne : c.toNat ≠ 48 := fun e => q (by rw [seeB_some hc, e]; rfl)
          refine ⟨mDigs_len (by omega), fun _ => ?_, fun e => by cases e⟩
          rw [fin_yes hgs hc (g1 _ _ ⟨by omega, by omega⟩)]
          exact says_digs hS1 (fun y c hc => if_pos hc) l _ (j + 1) (Nat.le_refl _)
        · rename_i q1
          refine ⟨hj, fun e => (by cases e), fun _ => ?_⟩
          rcases g2 with ⟨c, hc, hcd⟩ | g2
          · exact absurd ⟨by have := hcd.1; omega, by have := hcd.2; omega⟩ (mNeed_neg q1 c hc)
          · exact fin_no hgs hj (fun c hc => ⟨gs, g2 _ _ (fun q2 => mNeed_neg q1 c hc ⟨by have := q2.1; omega, by have := q2.2; omega⟩)⟩)
              ⟨_, by rw [g2 _ _ (by unfold isDig; omega)]; exact hgs.top, .inr (by rw [g2 _ _ (by unfold isDig; omega)]; rfl), rfl⟩
      split
      · rename_i q2
        exact Says.thru (hdg.2.1 q2) (says_frac h (.inr rfl) l _ hdg.1 (fun _ => digEnd j q2))
      · rename_i q2
        exact ⟨hdg.1, fun e => absurd e q2, hdg.2.2⟩
  unfold mNumber
  by_cases q : seeB l k = 45
  · rw [if_pos q]
    obtain ⟨d, hd, hde⟩ := seeB_get (c := 45) q (by omega)
    have hN : On (g.to .neg) := h.to (by simp) (by simp)
    refine Says.thru (fin_yes (g1 := g.to .neg) h hd (by rw [hde, hst _ _ (.inl rfl)]; unfold stepBv; rfl)) ?_
    refine main _ _ hN (by omega) rfl rfl rfl (fun y => rfl) (fun y c hc => ?_) (.inr (fun y c hc => ?_))
    · show (stepNeg _ y c).1 = _
      unfold stepNeg
      rw [if_neg (by omega), if_pos hc]
      rfl
    · show (stepNeg _ y c).1 = _
      unfold stepNeg
      unfold isDig at hc
      rw [if_neg (by omega), if_neg (by omega)]
  · rw [if_neg q]
    have hc1 : 48 ≤ seeB l k ∧ seeB l k ≤ 57 := by rcases hc0 with e | e; exact absurd e q; exact e
    refine main _ _ h (by omega) rfl rfl rfl (fun y => ?_) (fun y c hc => ?_) (.inl ⟨l[k]'hk, List.getElem?_eq_getElem hk, ?_⟩)
    · rw [hst _ _ (.inr (by unfold isDig; omega))]
      unfold stepBv
      rfl
    · rw [hst _ _ (.inr (by unfold isDig; omega))]
      unfold stepBv
      rw [if_neg (by unfold isSp; omega), if_neg (by omega), if_neg (by omega), if_neg (by omega), if_neg (by omega), if_neg (by omega), if_neg (by omega), if_neg (by omega), if_neg (by omega), if_pos hc]
    · rw [seeB_some (List.getElem?_eq_getElem hk)] at hc1
      exact ⟨by omega, by omega⟩

end Go.Proofs.YtlgmdcaoogiooaaGreatDoor
