/- Indenting over a literal, a string, a number: its bytes are taken as they stand. -/
import Derived.Test.YtlgmdcaoogiooaaGreatDoorLive
import Derived.Test.YtlgmdcaoogiooaaGreatDoorValP
import Derived.Test.YtlgmdcaoogiooaaGreatDoorScanZ
import Derived.Test.YtlgmdcaoogiooaaGreatDoorQdR
import Derived.Lib.DecodeN
import Derived.Lib.RuneBytes
namespace Go.Proofs.YtlgmdcaoogiooaaGreatDoor.Ind
open Go.RowKit Go.Proofs.YtlgmdcaoogiooaaGreatDoor

/-- No indent is due. -/
def Wd (d : Int) (o : List UInt8) : IS := ⟨false, d, o⟩
/-- Ahead of a value. -/
def lead (p i : List UInt8) (s : IS) : IS := indA p i s 1

theorem lead_need (p i : List UInt8) (s : IS) : (lead p i s).need = false := by
  unfold lead indA
  split
  · rfl
  · rename_i h
    cases e : s.need with
    | false => rfl
    | true => exact absurd ⟨e, by decide, by decide⟩ h

theorem lead_W (p i : List UInt8) (d : Int) (o : List UInt8) : lead p i (Wd d o) = Wd d o := rfl
theorem indA_W (p i : List UInt8) (d : Int) (o : List UInt8) (v : Nat) : indA p i (Wd d o) v = Wd d o := by
  unfold indA
  exact if_neg (fun h => by cases h.1)

theorem indA_lead (p i : List UInt8) (s : IS) {v : Nat} (h5 : v ≠ 5) (h8 : v ≠ 8) : indA p i s v = lead p i s := by
  unfold lead indA
  by_cases e : s.need = true
  · rw [if_pos ⟨e, h5, h8⟩, if_pos ⟨e, by decide, by decide⟩]
  · rw [if_neg (fun h => e h.1), if_neg (fun h => e h.1)]

theorem ia_step {p i : List UInt8} {g g1 : Cfg} {k kk : Nat} {s : IS} {l : List UInt8} {c : UInt8} (hc : l[k]? = some c) (h : stepC g ((k : Int) + 1) c.toNat = (g1, kk)) (h11 : kk ≠ 11) :
    indAll p i g k s (l.drop k) = indAll p i g1 (k + 1) (indStep p i s c.toNat kk) (l.drop (k + 1)) := by
  rw [drop_get hc, indAll_on h h11]

theorem ia_same {p i : List UInt8} {g1 g2 : Cfg} {k : Nat} {s : IS} {l : List UInt8} (h : ∀ c, l[k]? = some c → ∀ y, stepC g1 y c.toNat = stepC g2 y c.toNat) :
    indAll p i g1 k s (l.drop k) = indAll p i g2 k s (l.drop k) := by
  cases e : l.drop k with
  | nil => rfl
  | cons c t =>
    have hc := h c (drop_head e) ((k + 1 : Nat) : Int)
    show (if (stepC g1 ((k + 1 : Nat) : Int) c.toNat).2 = 11 then s else indAll p i (stepC g1 ((k + 1 : Nat) : Int) c.toNat).1 (k + 1) (indStep p i s c.toNat (stepC g1 ((k + 1 : Nat) : Int) c.toNat).2) t) =
      (if (stepC g2 ((k + 1 : Nat) : Int) c.toNat).2 = 11 then s else indAll p i (stepC g2 ((k + 1 : Nat) : Int) c.toNat).1 (k + 1) (indStep p i s c.toNat (stepC g2 ((k + 1 : Nat) : Int) c.toNat).2) t)
    rw [hc]

/-- The bytes from k to k1 are taken as they stand. -/
def Goes (g : Cfg) (l : List UInt8) (k : Nat) (g1 : Cfg) (k1 : Nat) : Prop :=
  k ≤ k1 ∧ k1 ≤ l.length ∧ ∀ p i d o, indAll p i g k (Wd d o) (l.drop k) = indAll p i g1 k1 (Wd d (o ++ (l.drop k).take (k1 - k))) (l.drop k1)

theorem Goes.refl {g : Cfg} {l : List UInt8} {k : Nat} (hk : k ≤ l.length) : Goes g l k g k :=
  ⟨Nat.le_refl _, hk, fun p i d o => by rw [Nat.sub_self, List.take_zero, List.append_nil]⟩

theorem take_split {l : List UInt8} {k k1 k2 : Nat} (h1 : k ≤ k1) (h2 : k1 ≤ k2) : (l.drop k).take (k2 - k) = (l.drop k).take (k1 - k) ++ (l.drop k1).take (k2 - k1) := by
  have : k2 - k = (k1 - k) + (k2 - k1) := by omega
  rw [this, List.take_add, List.drop_drop, show k + (k1 - k) = k1 by omega]

theorem Goes.trans {g g1 g2 : Cfg} {l : List UInt8} {k k1 k2 : Nat} (a : Goes g l k g1 k1) (b : Goes g1 l k1 g2 k2) : Goes g l k g2 k2 :=
  ⟨Nat.le_trans a.1 b.1, b.2.1, fun p i d o => by rw [a.2.2, b.2.2, take_split a.1 b.1, List.append_assoc]⟩

theorem Goes.same {g g1 g2 : Cfg} {l : List UInt8} {k k1 : Nat} (a : Goes g l k g1 k1) (h : ∀ c, l[k1]? = some c → ∀ y, stepC g1 y c.toNat = stepC g2 y c.toNat) : Goes g l k g2 k1 :=
  ⟨a.1, a.2.1, fun p i d o => by rw [a.2.2, ia_same h]⟩

theorem back (c : UInt8) : UInt8.ofNat c.toNat = c := by simp

theorem step_W0 (p i : List UInt8) (d : Int) (o : List UInt8) (c : UInt8) : indStep p i (Wd d o) c.toNat 0 = Wd d (o ++ [c]) := by
  rw [st_cont rfl, indA_W, back]
  rfl

theorem take_one {l : List UInt8} {k : Nat} {c : UInt8} (hc : l[k]? = some c) : (l.drop k).take (k + 1 - k) = [c] := by
  rw [drop_get hc, Nat.add_sub_cancel_left]
  rfl

theorem Goes.one {g g1 : Cfg} {l : List UInt8} {k : Nat} {c : UInt8} (hc : l[k]? = some c) (h : ∀ y, stepC g y c.toNat = (g1, 0)) : Goes g l k g1 (k + 1) :=
  ⟨Nat.le_succ _, (List.getElem?_eq_some_iff.1 hc).1, fun p i d o => by rw [ia_step hc (h _) (by decide), step_W0, take_one hc]⟩

theorem goes_digs {g : Cfg} (hd : ∀ y c, isDig c → stepC g y c = (g, 0)) (l : List UInt8) : ∀ (n k : Nat), k ≤ l.length → l.length - k ≤ n → Goes g l k g (mDigs l k)
  | 0, k, hk, hn => by rw [mDigs_off (fun hk => by omega)]; exact Goes.refl hk
  | n + 1, k, hk, hn => by
    by_cases hlt : k < l.length
    · by_cases hc : isDig (l[k]'hlt).toNat
      · rw [mDigs_on hlt hc]
        exact (Goes.one (List.getElem?_eq_getElem hlt) (fun y => hd _ _ hc)).trans (goes_digs hd l n (k + 1) (by omega) (by omega))
      · rw [mDigs_off (fun _ => hc)]; exact Goes.refl hk
    · rw [mDigs_off (fun h => absurd h hlt)]; exact Goes.refl hk

theorem mDigits_yes {l : List UInt8} {k q : Nat} (e : mDigits l k = (true, q)) : ∃ c : UInt8, l[k]? = some c ∧ isDig c.toNat ∧ q = mDigs l (k + 1) := by
  unfold mDigits at e
  split at e
  · rename_i h
    obtain ⟨c, hc, q1, q2⟩ := mNeed_pos h
    cases e
    exact ⟨c, hc, ⟨by omega, by omega⟩, rfl⟩
  · cases e

theorem goes_digits {g g1 : Cfg} (h : ∀ y c, isDig c → stepC g y c = (g1, 0)) (h1 : ∀ y c, isDig c → stepC g1 y c = (g1, 0)) {l : List UInt8} {k q : Nat} (e : mDigits l k = (true, q)) :
    Goes g l k g1 q ∧ ∀ c, l[q]? = some c → ¬ isDig c.toNat := by
  obtain ⟨c, hc, hd, rfl⟩ := mDigits_yes e
  have hk := (List.getElem?_eq_some_iff.1 hc).1
  exact ⟨(Goes.one hc (fun y => h y _ hd)).trans (goes_digs h1 l _ (k + 1) hk (Nat.le_refl _)), mDigs_end l _ _ (Nat.le_refl _)⟩

theorem ev_after (g : Cfg) (y : Int) (c : Nat) : stepEv g y c = stepC (after g) y c := by
  unfold after
  split
  · rename_i h; exact evP_none h
  · exact (on_ev g .ev y c).symm

theorem goes_exp {g : Cfg} {s : St} {l : List UInt8} {k q : Nat} (hk : k ≤ l.length) (hst : ∀ c, l[k]? = some c → ∀ y, stepC (g.to s) y c.toNat = if c.toNat = 101 ∨ c.toNat = 69 then (g.to .e, 0) else stepEv (g.to s) y c.toNat)
    (e : mExp l k = (true, q)) : Goes (g.to s) l k (after g) q := by
  unfold mExp at e
  split at e
  · rename_i h
    have hx : ∃ d : UInt8, l[k]? = some d ∧ (d.toNat = 101 ∨ d.toNat = 69) := by
      rcases h with h | h
      · obtain ⟨d, h1, h2⟩ := seeB_get (c := 101) h (by omega)
        exact ⟨d, h1, .inl h2⟩
      · obtain ⟨d, h1, h2⟩ := seeB_get (c := 69) h (by omega)
        exact ⟨d, h1, .inr h2⟩
    obtain ⟨d, hd, hde⟩ := hx
    have a : Goes (g.to s) l k (g.to .e) (k + 1) := Goes.one hd (fun y => by rw [hst d hd y, if_pos hde])
    have hdig : ∀ y c, isDig c → stepC (g.to .e0) y c = (g.to .e0, 0) := fun y c hc => if_pos hc
    have last : ∀ {gs : Cfg} {k1 : Nat}, Goes gs l k1 (g.to .e0) q → (∀ c, l[q]? = some c → ¬ isDig c.toNat) → Goes gs l k1 (after g) q := fun hg hn => hg.same (fun c hc y => by
      show stepE0 (g.to .e0) y c.toNat = _
      unfold stepE0
      rw [if_neg (hn c hc), on_ev, ev_after])
    by_cases hp : seeB l (k + 1) = 43 ∨ seeB l (k + 1) = 45
    · rw [if_pos hp] at e
      have hx : ∃ d : UInt8, l[k + 1]? = some d ∧ (d.toNat = 43 ∨ d.toNat = 45) := by
        rcases hp with h | h
        · obtain ⟨d, h1, h2⟩ := seeB_get (c := 43) h (by omega)
          exact ⟨d, h1, .inl h2⟩
        · obtain ⟨d, h1, h2⟩ := seeB_get (c := 45) h (by omega)
          exact ⟨d, h1, .inr h2⟩
      obtain ⟨d2, hd2, hde2⟩ := hx
      have b : Goes (g.to .e) l (k + 1) (g.to .esign) (k + 1 + 1) := Goes.one hd2 (fun y => by
        show stepE (g.to .e) y d2.toNat = _
        unfold stepE
        rw [if_pos hde2]
        rfl)
      obtain ⟨c1, c2⟩ := goes_digits (g := g.to .esign) (g1 := g.to .e0) (fun y c hc => if_pos hc) hdig e
      exact last (a.trans (b.trans c1)) c2
    · rw [if_neg hp] at e
      obtain ⟨c1, c2⟩ := goes_digits (g := g.to .e) (g1 := g.to .e0) (fun y c hc => by
        show stepE (g.to .e) y c = _
        unfold stepE
        rw [if_neg (by unfold isDig at hc; omega)]
        exact if_pos hc) hdig e
      exact last (a.trans c1) c2
  · rename_i h
    cases e
    refine (Goes.refl hk).same (fun c hc y => ?_)
    rw [hst c hc y, if_neg (fun h2 => h (by rw [seeB_some hc]; rcases h2 with h2 | h2 <;> rw [h2] <;> simp)), on_ev, ev_after]

theorem goes_frac {g : Cfg} {s : St} (hs : s = .s0 ∨ s = .s1) {l : List UInt8} {k q : Nat} (hk : k ≤ l.length) (hne : s = .s1 → ∀ c, l[k]? = some c → ¬ isDig c.toNat) (e : mFrac l k = (true, q)) : Goes (g.to s) l k (after g) q := by
  have hst : ∀ c, l[k]? = some c → ∀ y, stepC (g.to s) y c.toNat = stepS0 (g.to s) y c.toNat := fun c hc y => by
    rcases hs with rfl | rfl
    · rfl
    · show stepS1 _ y _ = _
      unfold stepS1
      rw [if_neg (hne rfl c hc)]
  unfold mFrac at e
  split at e
  · rename_i h
    obtain ⟨d, hd, hde⟩ := seeB_get (c := 46) h (by omega)
    have a : Goes (g.to s) l k (g.to .dot) (k + 1) := Goes.one hd (fun y => by
      rw [hst d hd y]
      unfold stepS0
      rw [if_pos hde]
      rfl)
    split at e
    · rename_i h2
      have e2 : mDigits l (k + 1) = (true, (mDigits l (k + 1)).2) := by rw [← h2]
      obtain ⟨c1, c2⟩ := goes_digits (g := g.to .dot) (g1 := g.to .dot0) (fun y c hc => if_pos hc) (fun y c hc => if_pos hc) e2
      refine a.trans (c1.trans (goes_exp c1.2.1 (fun c hc y => ?_) e))
      show stepDot0 (g.to .dot0) y c.toNat = _
      unfold stepDot0
      rw [if_neg (c2 c hc)]
      rfl
    · rename_i h2
      rw [e] at h2
      exact absurd rfl h2
  · rename_i h
    refine goes_exp hk (fun c hc y => ?_) e
    rw [hst c hc y]
    unfold stepS0
    rw [if_neg (fun h2 => h (by rw [seeB_some hc, h2]; rfl))]
    rfl

/-- A number's whole part and what follows, behind its sign. -/
theorem goes_int {g gs : Cfg} {l : List UInt8} {k q : Nat} (h0 : ∀ y, stepC gs y 48 = (g.to .s0, 0)) (h1 : ∀ y c, 49 ≤ c ∧ c ≤ 57 → stepC gs y c = (g.to .s1, 0)) (e : mInt l k = (true, q)) : Goes gs l k (after g) q := by
  unfold mInt at e
  split at e
  · rename_i h
    obtain ⟨d, hd, hde⟩ := seeB_get (c := 48) h (by omega)
    have hk := (List.getElem?_eq_some_iff.1 hd).1
    exact (Goes.one hd (fun y => by rw [hde]; exact h0 y)).trans (goes_frac (.inl rfl) hk (fun e => by cases e) e)
  · rename_i h
    split at e
    · rename_i h2
      have e2 : mDigits l k = (true, (mDigits l k).2) := by rw [← h2]
      obtain ⟨c, hc, hd, hq⟩ := mDigits_yes e2
      have hk := (List.getElem?_eq_some_iff.1 hc).1
      have hn : c.toNat ≠ 48 := fun q => h (by rw [seeB_some hc, q]; rfl)
      have hd2 := hd
      unfold isDig at hd2
      have a := (Goes.one hc (fun y => h1 y _ ⟨by omega, by omega⟩)).trans (goes_digs (g := g.to .s1) (fun y c hc => if_pos hc) l _ (k + 1) hk (Nat.le_refl _))
      rw [← hq] at a
      exact a.trans (goes_frac (.inr rfl) a.2.1 (fun _ => by rw [hq]; exact mDigs_end l _ _ (Nat.le_refl _)) e)
    · rename_i h2
      rw [e] at h2
      exact absurd rfl h2

/-- A value's bytes, behind what is due ahead of it. -/
def Goes1 (g : Cfg) (l : List UInt8) (k : Nat) (g1 : Cfg) (k1 : Nat) : Prop :=
  k < k1 ∧ k1 ≤ l.length ∧ ∀ p i s, indAll p i g k s (l.drop k) = indAll p i g1 k1 (Wd (lead p i s).dep ((lead p i s).out ++ (l.drop k).take (k1 - k))) (l.drop k1)

theorem Goes1.of {g g1 g2 : Cfg} {l : List UInt8} {k k2 : Nat} {c : UInt8} (hc : l[k]? = some c) (hne : c.toNat ≠ 123 ∧ c.toNat ≠ 91 ∧ c.toNat ≠ 44 ∧ c.toNat ≠ 58 ∧ c.toNat ≠ 125 ∧ c.toNat ≠ 93) (h : ∀ y, stepC g y c.toNat = (g1, 1)) (b : Goes g1 l (k + 1) g2 k2) : Goes1 g l k g2 k2 := by
  refine ⟨b.1, b.2.1, fun p i s => ?_⟩
  rw [ia_step hc (h _) (by decide), st_other (by decide) (by decide) hne, back, indA_lead p i s (by decide) (by decide), lead_need]
  have := b.2.2 p i (lead p i s).dep ((lead p i s).out ++ [c])
  rw [take_split (Nat.le_succ k) b.1, take_one hc, ← List.append_assoc]
  exact this

theorem goes_number {g : Cfg} (hs : g.st = .bv) {l : List UInt8} {k q : Nat} (e : mNumber l k = (true, q)) : Goes1 g l k (after g) q := by
  have hst : ∀ y c, stepC g y c = stepBv g y c := fun y c => by unfold stepC; rw [hs]
  unfold mNumber at e
  by_cases h : seeB l k = 45
  · rw [if_pos h] at e
    obtain ⟨d, hd, hde⟩ := seeB_get (c := 45) h (by omega)
    refine Goes1.of hd (by omega) (g1 := g.to .neg) (fun y => by rw [hde, hst]; rfl) (goes_int (g := g) (gs := g.to .neg) (fun y => rfl) (fun y c hc => ?_) e)
    show stepNeg (g.to .neg) y c = _
    unfold stepNeg
    rw [if_neg (by omega), if_pos hc]
    rfl
  · rw [if_neg h] at e
    unfold mInt at e
    split at e
    · rename_i h2
      obtain ⟨d, hd, hde⟩ := seeB_get (c := 48) h2 (by omega)
      have hk := (List.getElem?_eq_some_iff.1 hd).1
      exact Goes1.of hd (by omega) (g1 := g.to .s0) (fun y => by rw [hde, hst]; rfl) (goes_frac (.inl rfl) hk (fun e => by cases e) e)
    · rename_i h2
      split at e
      · rename_i h3
        have e2 : mDigits l k = (true, (mDigits l k).2) := by rw [← h3]
        obtain ⟨c, hc, hd, hq⟩ := mDigits_yes e2
        have hk := (List.getElem?_eq_some_iff.1 hc).1
        have hn : c.toNat ≠ 48 := fun q => h2 (by rw [seeB_some hc, q]; rfl)
        have hd2 := hd
        unfold isDig at hd2
        have a := goes_digs (g := g.to .s1) (fun y c hc => if_pos hc) l _ (k + 1) hk (Nat.le_refl _)
        rw [← hq] at a
        refine Goes1.of hc (by omega) (g1 := g.to .s1) (fun y => ?_) (a.trans (goes_frac (.inr rfl) a.2.1 (fun _ => by rw [hq]; exact mDigs_end l _ _ (Nat.le_refl _)) e))
        rw [hst]
        unfold stepBv
        rw [if_neg (by unfold isSp; omega), if_neg (by omega), if_neg (by omega), if_neg (by omega), if_neg (by omega), if_neg (by omega), if_neg (by omega), if_neg (by omega), if_neg (by omega), if_pos (by omega)]
      · rename_i h3
        rw [e] at h3
        exact absurd rfl h3

theorem goes_want {g : Cfg} {s s2 : St} {want : UInt8} (hst : ∀ y, stepC (g.to s) y want.toNat = (g.to s2, 0)) {l t : List UInt8} {k q : Nat} (e : mWord l (want :: t) k = (true, q)) : Goes (g.to s) l k (g.to s2) (k + 1) ∧ mWord l t (k + 1) = (true, q) := by
  unfold mWord at e
  split at e
  · rename_i h
    exact ⟨Goes.one h hst, e⟩
  · cases e

theorem goes_end {g : Cfg} {l : List UInt8} {k : Nat} (hk : k ≤ l.length) : Goes (g.to .ev) l k (after g) k :=
  (Goes.refl hk).same (fun c _ y => by
    show stepEv (g.to .ev) y c.toNat = _
    rw [on_ev, ev_after])

theorem goes_hex1 {g : Cfg} {s s2 : St} (hst : ∀ y c, stepC (g.to s) y c = stepHex (g.to s) y c s2) {l : List UInt8} {k q : Nat} {t : List (Int × Int)} (e : mHexs l ((0, 15) :: t) k = (true, q)) : Goes (g.to s) l k (g.to s2) (k + 1) ∧ mHexs l t (k + 1) = (true, q) := by
  cases h : (mHex l 0 15 k).1 with
  | false => rw [mHexs_false h] at e; cases e
  | true =>
    rw [mHexs_true h] at e
    obtain ⟨_, q1, q2⟩ := mHex_true h
    have hk2 := hexAt_lt q1
    have hget := List.getElem?_eq_getElem hk2
    have hx : isHex (l[k]'hk2).toNat := by
      rw [isHex_hexI]
      unfold hexAt at q1 q2
      rw [hget] at q1 q2
      exact ⟨q1, q2⟩
    refine ⟨Goes.one hget (fun y => ?_), e⟩
    rw [hst]
    unfold stepHex
    rw [if_pos hx]
    rfl

theorem goes_escape {g : Cfg} {l : List UInt8} {k k' : Nat} (e : mEscape true l k = (true, k')) : Goes (g.to .esc) l k (g.to .str) k' := by
  unfold mEscape at e
  split at e
  · rename_i q
    simp only [simpleE, Bool.or_eq_true, beq_iff_eq] at q
    cases e
    have hlt : k < l.length := seeB_lt (by omega)
    have hget := List.getElem?_eq_getElem hlt
    rw [seeB_some hget] at q
    refine Goes.one hget (fun y => ?_)
    show stepEsc _ _ _ = _
    unfold stepEsc
    rw [if_pos (by unfold isEsc; omega)]
    rfl
  · rename_i q
    split at e
    · rename_i q2
      obtain ⟨d, hd, hde⟩ := seeB_get (c := 117) q2 (by omega)
      have hu : mUnit true false l (k + 1) = ((mHexs l [(0, 15), (0, 15), (0, 15), (0, 15)] (k + 1)).1, (mHexs l [(0, 15), (0, 15), (0, 15), (0, 15)] (k + 1)).2, false) := by unfold mUnit; exact if_pos rfl
      rw [hu, if_neg (by simp)] at e
      have a : Goes (g.to .esc) l k (g.to .u0) (k + 1) := Goes.one hd (fun y => by
        show stepEsc _ _ _ = _
        unfold stepEsc
        rw [if_neg (by unfold isEsc; omega), if_pos hde]
        rfl)
      have e1 : mHexs l [(0, 15), (0, 15), (0, 15), (0, 15)] (k + 1) = (true, k') := e
      obtain ⟨b1, e2⟩ := goes_hex1 (g := g) (s := .u0) (s2 := .u1) (fun _ _ => rfl) e1
      obtain ⟨b2, e3⟩ := goes_hex1 (g := g) (s := .u1) (s2 := .u2) (fun _ _ => rfl) e2
      obtain ⟨b3, e4⟩ := goes_hex1 (g := g) (s := .u2) (s2 := .u3) (fun _ _ => rfl) e3
      obtain ⟨b4, e5⟩ := goes_hex1 (g := g) (s := .u3) (s2 := .str) (fun _ _ => rfl) e4
      cases e5
      exact a.trans (b1.trans (b2.trans (b3.trans b4)))
    · cases e

theorem goes_qrun {g : Cfg} {l : List UInt8} : ∀ {k : Nat} {r : Bool × Nat}, QRun true l k r → r.1 = true → Goes (g.to .str) l k (g.to .str) r.2 ∧ l[r.2]? = some 34 := by
  intro k r hq
  induction hq with
  | eof _ => intro e; cases e
  | done h1 => exact fun _ => ⟨Goes.refl (Nat.le_of_lt (List.getElem?_eq_some_iff.1 h1).1), h1⟩
  | escNo _ _ => intro e; cases e
  | esc h1 h2 _ ih =>
    intro e
    obtain ⟨i1, i2⟩ := ih e
    exact ⟨(Goes.one h1 (fun y => rfl)).trans ((goes_escape h2).trans i1), i2⟩
  | ctrl _ _ => intro e; cases e
  | @plain k c r h1 h2 h3 h4 _ _ ih =>
    intro e
    obtain ⟨i1, i2⟩ := ih e
    refine ⟨(Goes.one h1 (fun y => ?_)).trans i1, i2⟩
    show stepStr _ _ _ = _
    unfold stepStr
    rw [if_neg (show ¬ c.toNat = 34 from fun e => h3 (UInt8.toNat_inj.1 e)), if_neg (show ¬ c.toNat = 92 from fun e => h4 (UInt8.toNat_inj.1 e)), if_neg (by omega)]
  | rune _ _ h3 => cases h3
  | runeNo _ _ h3 => cases h3

/-- A string, where the scanner steps to its inside at a quotation mark. -/
theorem goes_quoted {g : Cfg} {s : St} (hst : ∀ y, stepC (g.to s) y 34 = (g.to .str, 1)) {l : List UInt8} {k q : Nat} (h : QRel true l k (true, q)) (h34 : l[q]? = some 34) : Goes1 (g.to s) l k (g.to .ev) (q + 1) := by
  rcases h with ⟨h1, h2⟩ | ⟨_, h⟩
  · obtain ⟨c, hc, q1, q2⟩ := mNeed_pos h1
    have hce : c.toNat = 34 := by omega
    obtain ⟨a, _⟩ := goes_qrun (g := g) h2 rfl
    refine Goes1.of hc (by omega) (fun y => by rw [hce]; exact hst y) (a.trans (Goes.one h34 (fun y => rfl)))
  · cases h

theorem goes_leaf {g : Cfg} (hs : g.st = .bv) {l : List UInt8} {j q c : Nat} (h : Leaf l j q c) : Goes1 g l j (after g) q := by
  have hgto : g = g.to .bv := by cases g; simp only at hs; subst hs; rfl
  have hst : ∀ y c, stepC g y c = stepBv g y c := fun y c => by unfold stepC; rw [hs]
  have first : ∀ {w : UInt8} {t : List UInt8} {q : Nat}, mWord l (w :: t) j = (true, q) → l[j]? = some w ∧ mWord l t (j + 1) = (true, q) := by
    intro w t q e
    unfold mWord at e
    split at e
    · rename_i h; exact ⟨h, e⟩
    · cases e
  cases h with
  | null e =>
    obtain ⟨h0, e⟩ := first e
    obtain ⟨b1, e⟩ := goes_want (g := g) (s := .n) (s2 := .nu) (want := 117) (fun _ => rfl) e
    obtain ⟨b2, e⟩ := goes_want (g := g) (s := .nu) (s2 := .nul) (want := 108) (fun _ => rfl) e
    obtain ⟨b3, e⟩ := goes_want (g := g) (s := .nul) (s2 := .ev) (want := 108) (fun _ => rfl) e
    cases e
    exact Goes1.of h0 (by decide) (g1 := g.to .n) (fun y => by rw [hst]; rfl) (b1.trans (b2.trans (b3.trans (goes_end b3.2.1))))
  | yes e =>
    obtain ⟨h0, e⟩ := first e
    obtain ⟨b1, e⟩ := goes_want (g := g) (s := .t) (s2 := .tr) (want := 114) (fun _ => rfl) e
    obtain ⟨b2, e⟩ := goes_want (g := g) (s := .tr) (s2 := .tru) (want := 117) (fun _ => rfl) e
    obtain ⟨b3, e⟩ := goes_want (g := g) (s := .tru) (s2 := .ev) (want := 101) (fun _ => rfl) e
    cases e
    exact Goes1.of h0 (by decide) (g1 := g.to .t) (fun y => by rw [hst]; rfl) (b1.trans (b2.trans (b3.trans (goes_end b3.2.1))))
  | no e =>
    obtain ⟨h0, e⟩ := first e
    obtain ⟨b1, e⟩ := goes_want (g := g) (s := .f) (s2 := .fa) (want := 97) (fun _ => rfl) e
    obtain ⟨b2, e⟩ := goes_want (g := g) (s := .fa) (s2 := .fal) (want := 108) (fun _ => rfl) e
    obtain ⟨b3, e⟩ := goes_want (g := g) (s := .fal) (s2 := .fals) (want := 115) (fun _ => rfl) e
    obtain ⟨b4, e⟩ := goes_want (g := g) (s := .fals) (s2 := .ev) (want := 101) (fun _ => rfl) e
    cases e
    exact Goes1.of h0 (by decide) (g1 := g.to .f) (fun y => by rw [hst]; rfl) (b1.trans (b2.trans (b3.trans (b4.trans (goes_end b4.2.1)))))
  | str h1 h2 =>
    have a := goes_quoted (g := g) (s := .bv) (fun y => rfl) h1 h2
    rw [← hgto] at a
    have b := goes_end (g := g) a.2.1
    refine ⟨a.1, a.2.1, fun p i s => ?_⟩
    rw [a.2.2, b.2.2, Nat.sub_self, List.take_zero, List.append_nil]
  | num _ h2 => exact goes_number hs h2

end Go.Proofs.YtlgmdcaoogiooaaGreatDoor.Ind

namespace Go.Proofs.YtlgmdcaoogiooaaGreatDoor.Ind
open Go.RowKit Go.Proofs.YtlgmdcaoogiooaaGreatDoor

/-- Parts behind the first one, each on a line of its own. -/
def joinT (p i : List UInt8) (d1 : Int) : List (List UInt8) → List UInt8
  | [] => []
  | y :: ys => 44 :: (nlB p i d1 ++ y ++ joinT p i d1 ys)
def joinL (p i : List UInt8) (d1 : Int) : List (List UInt8) → List UInt8
  | [] => []
  | x :: xs => x ++ joinT p i d1 xs

/-- Parts between two brackets. -/
def within (p i : List UInt8) (a b : UInt8) (d : Int) (parts : List (List UInt8)) : List UInt8 :=
  match parts with
  | [] => [a, b]
  | x :: xs => a :: (nlB p i (d + 1) ++ joinL p i (d + 1) (x :: xs) ++ nlB p i d ++ [b])

mutual
/-- The reference's text of a tree, with indents. -/
def wr (p i : List UInt8) : Tr → Int → List UInt8
  | .mk kind text names kids, d => if kind = 123 then within p i 123 125 d (wrM p i names kids (d + 1)) else if kind = 91 then within p i 91 93 d (wrK p i kids (d + 1)) else text.data.toList
def wrK (p i : List UInt8) : List Tr → Int → List (List UInt8)
  | [], _ => []
  | T :: ts, d => wr p i T d :: wrK p i ts d
def wrM (p i : List UInt8) : List ByteArray → List Tr → Int → List (List UInt8)
  | nm :: ns, T :: ts, d => (nm.data.toList ++ [58, 32] ++ wr p i T d) :: wrM p i ns ts d
  | _, _, _ => []
end

theorem wr_obj (p i : List UInt8) (t : ByteArray) (ns : List ByteArray) (ks : List Tr) (d : Int) : wr p i (.mk 123 t ns ks) d = within p i 123 125 d (wrM p i ns ks (d + 1)) := by
  unfold wr
  exact if_pos rfl
theorem wr_arr (p i : List UInt8) (t : ByteArray) (ns : List ByteArray) (ks : List Tr) (d : Int) : wr p i (.mk 91 t ns ks) d = within p i 91 93 d (wrK p i ks (d + 1)) := by
  unfold wr
  rw [if_neg (by decide)]
  exact if_pos rfl
theorem wr_leaf (p i : List UInt8) (c : Nat) (t : ByteArray) (ns : List ByteArray) (ks : List Tr) (d : Int) (h : c ≠ 123 ∧ c ≠ 91) : wr p i (.mk c t ns ks) d = t.data.toList := by
  unfold wr
  rw [if_neg h.1, if_neg h.2]

theorem joinL_more (p i : List UInt8) (d1 : Int) (x y : List UInt8) (ys : List (List UInt8)) : joinL p i d1 (x :: y :: ys) = x ++ [44] ++ nlB p i d1 ++ joinL p i d1 (y :: ys) := by
  show x ++ (44 :: (nlB p i d1 ++ y ++ joinT p i d1 ys)) = x ++ [44] ++ nlB p i d1 ++ (y ++ joinT p i d1 ys)
  simp

/-- White space that is skipped. -/
theorem ia_space {p i : List UInt8} {g : Cfg} (hsp : ∀ y c, isSp c → stepC g y c = (g, 9)) (s : IS) (l : List UInt8) : ∀ (n k : Nat), l.length - k ≤ n → indAll p i g k s (l.drop k) = indAll p i g (mSpace l k) s (l.drop (mSpace l k))
  | 0, k, hn => by rw [mSpace_off (fun hk => by omega)]
  | n + 1, k, hn => by
    by_cases hk : k < l.length
    · by_cases hc : isSp (l[k]'hk).toNat
      · rw [mSpace_on hk hc, ia_step (List.getElem?_eq_getElem hk) (hsp _ _ hc) (by decide), st_space]
        exact ia_space hsp s l n (k + 1) (by omega)
      · rw [mSpace_off (fun _ => hc)]
    · rw [mSpace_off (fun hk2 => absurd hk2 hk)]

theorem sp_bv {g : Cfg} (hs : g.st = .bv) (y : Int) (c : Nat) (hc : isSp c) : stepC g y c = (g, 9) := by
  unfold stepC
  rw [hs]
  exact if_pos hc
theorem sp_ev (g : Cfg) (q : Nat) (y : Int) (c : Nat) (hc : isSp c) : stepC (g.push .ev q) y c = (g.push .ev q, 9) := by
  show stepEv _ y c = _
  rw [evP_some (i := g.ps) (p := q) rfl, if_pos hc]
  rfl
theorem sp_bs (g : Cfg) (y : Int) (c : Nat) (hc : isSp c) : stepC (g.push .bs 0) y c = (g.push .bs 0, 9) := if_pos hc
theorem sp_bse (g : Cfg) (y : Int) (c : Nat) (hc : isSp c) : stepC (g.push .bse 0) y c = (g.push .bse 0, 9) := if_pos hc
theorem sp_bve (g : Cfg) (y : Int) (c : Nat) (hc : isSp c) : stepC (g.push .bve 2) y c = (g.push .bve 2, 9) := if_pos hc

theorem c_colon (g : Cfg) (y : Int) : stepC (g.push .ev 0) y 58 = (g.push .bv 1, 3) := by
  show stepEv _ y 58 = _
  rw [evP_some (i := g.ps) (p := 0) rfl]
  simp [isSp, Cfg.turn, Cfg.push]
theorem c_comma1 (g : Cfg) (y : Int) : stepC (g.push .ev 1) y 44 = (g.push .bs 0, 4) := by
  show stepEv _ y 44 = _
  rw [evP_some (i := g.ps) (p := 1) rfl]
  simp [isSp, Cfg.turn, Cfg.push]
theorem c_shut1 (g : Cfg) (y : Int) : stepC (g.push .ev 1) y 125 = (after g, 5) := by
  show stepEv _ y 125 = _
  rw [evP_some (i := g.ps) (p := 1) rfl]
  simp [isSp, pop_push]
theorem c_comma2 (g : Cfg) (y : Int) : stepC (g.push .ev 2) y 44 = (g.push .bv 2, 7) := by
  show stepEv _ y 44 = _
  rw [evP_some (i := g.ps) (p := 2) rfl]
  simp [isSp, Cfg.to, Cfg.push]
theorem c_shut2 (g : Cfg) (y : Int) : stepC (g.push .ev 2) y 93 = (after g, 8) := by
  show stepEv _ y 93 = _
  rw [evP_some (i := g.ps) (p := 2) rfl]
  simp [isSp, pop_push]
theorem c_bve_shut (g : Cfg) (y : Int) : stepC (g.push .bve 2) y 93 = (after g, 8) := by
  show stepBve _ y 93 = _
  unfold stepBve
  rw [if_neg (by unfold isSp; omega), if_pos rfl, evP_some (i := g.ps) (p := 2) rfl]
  simp [isSp, pop_push]
theorem c_bse_shut (g : Cfg) (y : Int) : stepC (g.push .bse 0) y 125 = (after g, 5) := by
  have h := step_bse_shut g y
  have h2 : (stepC (g.push .bse 0) y 125).2 = 5 := by
    show (stepBse _ y 125).2 = _
    unfold stepBse
    rw [if_neg (by unfold isSp; omega), if_pos rfl, evP_some (i := g.ps) (p := 1) (by show (g.ps ++ [0]).dropLast ++ [1] = _; rw [List.dropLast_concat])]
    simp [isSp]
  exact Prod.ext h h2
theorem c_obj {g : Cfg} (hs : g.st = .bv) (y : Int) : stepC g y 123 = (g.push .bse 0, 2) := by
  unfold stepC
  rw [hs]
  rfl
theorem c_arr {g : Cfg} (hs : g.st = .bv) (y : Int) : stepC g y 91 = (g.push .bve 2, 6) := by
  unfold stepC
  rw [hs]
  rfl

theorem bve_bv {p i : List UInt8} {g : Cfg} {k : Nat} {s : IS} {l : List UInt8} (hk : ∀ c, l[k]? = some c → ¬ isSp c.toNat ∧ c ≠ 93) : indAll p i (g.push .bve 2) k s (l.drop k) = indAll p i (g.push .bv 2) k s (l.drop k) := by
  refine ia_same (fun c hc y => ?_)
  obtain ⟨q1, q2⟩ := hk c hc
  show stepBve _ _ _ = stepBv _ _ _
  unfold stepBve
  rw [if_neg q1, if_neg (show ¬ c.toNat = 93 from fun e => q2 (UInt8.toNat_inj.1 e))]
  unfold stepBv
  rw [if_neg q1, if_neg q1]
  rfl

theorem bse_bs {p i : List UInt8} {g : Cfg} {k : Nat} {s : IS} {l : List UInt8} (hk : ∀ c, l[k]? = some c → ¬ isSp c.toNat ∧ c ≠ 125) : indAll p i (g.push .bse 0) k s (l.drop k) = indAll p i (g.push .bs 0) k s (l.drop k) := by
  refine ia_same (fun c hc y => ?_)
  obtain ⟨q1, q2⟩ := hk c hc
  show stepBse _ _ _ = stepBs _ _ _
  unfold stepBse
  rw [if_neg q1, if_neg (show ¬ c.toNat = 125 from fun e => q2 (UInt8.toNat_inj.1 e))]
  unfold stepBs
  rw [if_neg q1, if_neg q1]
  rfl

/-- What is written between k and k1. -/
def GV (g : Cfg) (l : List UInt8) (k : Nat) (g1 : Cfg) (k1 : Nat) (f : List UInt8 → List UInt8 → Int → List UInt8) : Prop :=
  ∀ p i s, indAll p i g k s (l.drop k) = indAll p i g1 k1 (Wd (lead p i s).dep ((lead p i s).out ++ f p i (lead p i s).dep)) (l.drop k1)

/-- .. inside brackets, from the first part on to behind the bracket. -/
def GB (g : Cfg) (l : List UInt8) (k : Nat) (g1 : Cfg) (k1 : Nat) (b : UInt8) (f : List UInt8 → List UInt8 → Int → List UInt8) : Prop :=
  ∀ p i s, indAll p i g k s (l.drop k) = indAll p i g1 k1 (Wd ((lead p i s).dep - 1) ((lead p i s).out ++ f p i (lead p i s).dep ++ nlB p i ((lead p i s).dep - 1) ++ [b])) (l.drop k1)

theorem step_colonW (p i : List UInt8) (d : Int) (o : List UInt8) : indStep p i (Wd d o) 58 3 = Wd d (o ++ [58, 32]) := by
  rw [st_colon (by decide) (by decide) rfl, indA_W]
  rfl
theorem step_commaW (p i : List UInt8) (d : Int) (o : List UInt8) {v : Nat} (h9 : v ≠ 9) (h0 : v ≠ 0) : indStep p i (Wd d o) 44 v = Wd d (o ++ [44] ++ nlB p i d) := by
  rw [st_comma h9 h0 rfl, indA_W]
  rfl
theorem step_shutW (p i : List UInt8) (d : Int) (o : List UInt8) (c : UInt8) (hc : c.toNat = 125 ∨ c.toNat = 93) {v : Nat} (h9 : v ≠ 9) (h0 : v ≠ 0) : indStep p i (Wd d o) c.toNat v = Wd (d - 1) (o ++ nlB p i (d - 1) ++ [c]) := by
  rw [st_shut h9 h0 hc (by rw [indA_W]; rfl), indA_W, back]
  rfl
theorem step_open (p i : List UInt8) (s : IS) (c : UInt8) (hc : c.toNat = 123 ∨ c.toNat = 91) {v : Nat} (h9 : v ≠ 9) (h0 : v ≠ 0) (h5 : v ≠ 5) (h8 : v ≠ 8) : indStep p i s c.toNat v = ⟨true, (lead p i s).dep, (lead p i s).out ++ [c]⟩ := by
  rw [st_open h9 h0 hc, indA_lead p i s h5 h8, back]
theorem step_empty (p i : List UInt8) (d : Int) (o : List UInt8) (c : UInt8) {v : Nat} (hv : (c.toNat = 125 ∧ v = 5) ∨ (c.toNat = 93 ∧ v = 8)) : indStep p i ⟨true, d, o⟩ c.toNat v = Wd d (o ++ [c]) := by
  have hA : indA p i ⟨true, d, o⟩ v = ⟨true, d, o⟩ := if_neg (fun h => by rcases hv with ⟨_, e⟩ | ⟨_, e⟩ <;> omega)
  rw [st_shut0 (by omega) (by omega) (by omega) (by rw [hA]), hA, back]
  rfl
theorem lead_true (p i : List UInt8) (d : Int) (o : List UInt8) : lead p i ⟨true, d, o⟩ = Wd (d + 1) (o ++ nlB p i (d + 1)) := rfl

/-- A name and its colon. -/
theorem goes_name {g gs : Cfg} {st : St} (hgs : gs = g.push st 0) (hst : ∀ y, stepC gs y 34 = (g.push .str 0, 1)) {s : ByteArray} {j c : Nat} {nm : ByteArray} (h : NameOk s j nm c) :
    ∀ p i s0, indAll p i gs j s0 (s.data.toList.drop j) = indAll p i (g.push .bv 1) c (Wd (lead p i s0).dep ((lead p i s0).out ++ nm.data.toList ++ [58, 32])) (s.data.toList.drop c) := by
  obtain ⟨q, h1, h2, rfl, h3, rfl⟩ := h
  intro p i s0
  have a := goes_quoted (g := g.push st 0) (s := st) (fun y => by have := hst y; rw [hgs] at this; exact this) h1 h2
  have e0 : (g.push st 0).to st = gs := by rw [hgs]; rfl
  have e1 : (g.push st 0).to .ev = g.push .ev 0 := rfl
  rw [e0, e1] at a
  rw [a.2.2, ia_space (sp_ev g 0) _ _ _ _ (Nat.le_refl _), ia_step h3 (c_colon g _) (by decide)]
  have hx : (s.extract j (q + 1)).data.toList = (s.data.toList.drop j).take (q + 1 - j) := by
    rw [ByteArray.data_extract, Array.toList_extract, List.extract_eq_take_drop]
  rw [hx]
  show indAll p i _ _ (indStep p i (Wd _ _) 58 3) _ = _
  rw [step_colonW]

theorem elems_ne {s : ByteArray} {i q : Nat} {ks : List Tr} (h : Elems s i q ks) : ∃ T ts, ks = T :: ts := by
  cases h with
  | last _ _ _ => exact ⟨_, _, rfl⟩
  | more _ _ _ _ => exact ⟨_, _, rfl⟩
theorem mems_ne {s : ByteArray} {i q : Nat} {ns : List ByteArray} {ks : List Tr} (h : Mems s i q ns ks) : ∃ n ns' T ts, ns = n :: ns' ∧ ks = T :: ts := by
  cases h with
  | last _ _ _ _ => exact ⟨_, _, _, _, rfl, rfl⟩
  | more _ _ _ _ _ => exact ⟨_, _, _, _, rfl, rfl⟩

theorem name_first {s : ByteArray} {j c : Nat} {nm : ByteArray} (h : NameOk s j nm c) : s.data.toList[j]? = some 34 := by
  obtain ⟨q, h1, _⟩ := h
  rcases h1 with ⟨h1, _⟩ | ⟨_, h⟩
  · obtain ⟨d, hd, q1, q2⟩ := mNeed_pos h1
    rw [hd]
    exact congrArg some (UInt8.toNat_inj.1 (show d.toNat = 34 by omega))
  · cases h
theorem mems_first {s : ByteArray} {i q : Nat} {ns : List ByteArray} {ks : List Tr} (h : Mems s i q ns ks) : s.data.toList[i]? = some 34 := by
  cases h with
  | last hn _ _ _ => exact name_first hn
  | more hn _ _ _ _ => exact name_first hn

mutual
theorem goes_val {s : ByteArray} {k q : Nat} {T : Tr} (h : Val s k q T) (g : Cfg) (hs : g.st = .bv) : GV g s.data.toList k (after g) q (fun p i d => wr p i T d) := by
  intro p i s0
  rw [ia_space (sp_bv hs) s0 _ _ _ (Nat.le_refl _)]
  match h with
  | .leaf (c := c) hl =>
    have a := goes_leaf hs hl
    have hc : c ≠ 123 ∧ c ≠ 91 := by cases hl <;> decide
    rw [a.2.2]
    dsimp only
    rw [wr_leaf p i c _ _ _ _ hc, ByteArray.data_extract, Array.toList_extract, List.extract_eq_take_drop]
  | .obj0 h1 h2 h3 =>
    subst h2
    rw [ia_step h1 (c_obj hs _) (by decide), show (123 : UInt8).toNat = 123 from rfl]
    have e := step_open p i s0 123 (.inl rfl) (v := 2) (by decide) (by decide) (by decide) (by decide)
    rw [show (123 : UInt8).toNat = 123 from rfl] at e
    rw [e, ia_space (sp_bse g) _ _ _ _ (Nat.le_refl _), ia_step h3 (c_bse_shut g _) (by decide)]
    have e2 := step_empty p i (lead p i s0).dep ((lead p i s0).out ++ [123]) 125 (v := 5) (.inl ⟨rfl, rfl⟩)
    rw [e2, List.append_assoc]
    rfl
  | .obj (ns := ns) (ks := ks) h1 h2 h3 =>
    subst h2
    have e := step_open p i s0 123 (.inl rfl) (v := 2) (by decide) (by decide) (by decide) (by decide)
    rw [ia_step h1 (c_obj hs _) (by decide), e, ia_space (sp_bse g) _ _ _ _ (Nat.le_refl _)]
    have hns : ∀ c, s.data.toList[mSpace s.data.toList (mSpace s.data.toList k + 1)]? = some c → ¬ isSp c.toNat ∧ c ≠ 125 := fun c hc => ⟨not_sp_at _ _ c hc, fun e => by
      have hq := mems_first h3
      rw [hq] at hc
      cases hc
      cases e⟩
    rw [bse_bs hns, goes_mems h3 g p i _, lead_true]
    obtain ⟨n, ns', T, ts, e1, e2⟩ := mems_ne h3
    subst e1 e2
    show indAll p i _ _ (Wd ((lead p i s0).dep + 1 - 1) _) _ = _
    dsimp only
    rw [wr_obj, Int.add_sub_cancel]
    simp [within, wrM, Wd]
  | .arr0 h1 h2 h3 =>
    subst h2
    have e := step_open p i s0 91 (.inr rfl) (v := 6) (by decide) (by decide) (by decide) (by decide)
    rw [ia_step h1 (c_arr hs _) (by decide), e, ia_space (sp_bve g) _ _ _ _ (Nat.le_refl _), ia_step h3 (c_bve_shut g _) (by decide)]
    have e2 := step_empty p i (lead p i s0).dep ((lead p i s0).out ++ [91]) 93 (v := 8) (.inr ⟨rfl, rfl⟩)
    rw [e2, List.append_assoc]
    rfl
  | .arr (ks := ks) h1 h2 h3 h4 =>
    subst h2
    have e := step_open p i s0 91 (.inr rfl) (v := 6) (by decide) (by decide) (by decide) (by decide)
    rw [ia_step h1 (c_arr hs _) (by decide), e, ia_space (sp_bve g) _ _ _ _ (Nat.le_refl _)]
    have hns : ∀ c, s.data.toList[mSpace s.data.toList (mSpace s.data.toList k + 1)]? = some c → ¬ isSp c.toNat ∧ c ≠ 93 := fun c hc => ⟨not_sp_at _ _ c hc, fun e => h3 (by rw [hc, e])⟩
    rw [bve_bv hns, goes_elems h4 g p i _, lead_true]
    obtain ⟨T, ts, e1⟩ := elems_ne h4
    subst e1
    show indAll p i _ _ (Wd ((lead p i s0).dep + 1 - 1) _) _ = _
    dsimp only
    rw [wr_arr, Int.add_sub_cancel]
    simp [within, wrK, Wd]
theorem goes_mems {s : ByteArray} {j q : Nat} {ns : List ByteArray} {ks : List Tr} (h : Mems s j q ns ks) (g : Cfg) : GB (g.push .bs 0) s.data.toList j (after g) q 125 (fun p i d => joinL p i d (wrM p i ns ks d)) := by
  intro p i s0
  match h with
  | .last hn hv he h125 =>
    subst he
    rw [goes_name rfl (fun y => rfl) hn p i s0, goes_val hv (g.push .bv 1) rfl p i _, lead_W, after_push, ia_space (sp_ev g 1) _ _ _ _ (Nat.le_refl _), ia_step h125 (c_shut1 g _) (by decide)]
    have e := fun d o => step_shutW p i d o 125 (.inl rfl) (v := 5) (by decide) (by decide)
    rw [e]
    simp [joinL, joinT, wrM, Wd]
  | .more hn hv he h44 hm =>
    subst he
    rw [goes_name rfl (fun y => rfl) hn p i s0, goes_val hv (g.push .bv 1) rfl p i _, lead_W, after_push, ia_space (sp_ev g 1) _ _ _ _ (Nat.le_refl _), ia_step h44 (c_comma1 g _) (by decide)]
    have e := fun d o => step_commaW p i d o (v := 4) (by decide) (by decide)
    rw [show (44 : UInt8).toNat = 44 from rfl, e]
    rw [ia_space (sp_bs g) _ _ _ _ (Nat.le_refl _), goes_mems hm g p i _, lead_W]
    obtain ⟨n, ns', T, ts, e1, e2⟩ := mems_ne hm
    subst e1 e2
    show _ = indAll p i _ _ (Wd _ (_ ++ joinL p i _ (_ :: _ :: _) ++ _ ++ _)) _
    rw [joinL_more]
    simp [wrM, Wd]
theorem goes_elems {s : ByteArray} {j q : Nat} {ks : List Tr} (h : Elems s j q ks) (g : Cfg) : GB (g.push .bv 2) s.data.toList j (after g) q 93 (fun p i d => joinL p i d (wrK p i ks d)) := by
  intro p i s0
  match h with
  | .last hv he h93 =>
    subst he
    rw [goes_val hv (g.push .bv 2) rfl p i _, after_push, ia_space (sp_ev g 2) _ _ _ _ (Nat.le_refl _), ia_step h93 (c_shut2 g _) (by decide)]
    have e := fun d o => step_shutW p i d o 93 (.inr rfl) (v := 8) (by decide) (by decide)
    rw [e]
    simp [joinL, joinT, wrK, Wd]
  | .more hv he h44 hm =>
    subst he
    rw [goes_val hv (g.push .bv 2) rfl p i _, after_push, ia_space (sp_ev g 2) _ _ _ _ (Nat.le_refl _), ia_step h44 (c_comma2 g _) (by decide)]
    have e := fun d o => step_commaW p i d o (v := 7) (by decide) (by decide)
    rw [show (44 : UInt8).toNat = 44 from rfl, e]
    rw [goes_elems hm g p i _, lead_W]
    obtain ⟨T, ts, e1⟩ := elems_ne hm
    subst e1
    show _ = indAll p i _ _ (Wd _ (_ ++ joinL p i _ (_ :: _ :: _) ++ _ ++ _)) _
    rw [joinL_more]
    simp [wrK, Wd]
end

/-- The last byte of a value is no white space. -/
def LastN (l : List UInt8) (q : Nat) : Prop := 1 ≤ q ∧ ∃ c : UInt8, l[q - 1]? = some c ∧ ¬ isSp c.toNat
def LastD (l : List UInt8) (q : Nat) : Prop := 1 ≤ q ∧ ∃ c : UInt8, l[q - 1]? = some c ∧ isDig c.toNat

theorem LastD.n {l : List UInt8} {q : Nat} (h : LastD l q) : LastN l q := by
  obtain ⟨h1, c, hc, hd⟩ := h
  exact ⟨h1, c, hc, by unfold isDig at hd; unfold isSp; omega⟩

theorem digs_last {l : List UInt8} : ∀ (n k : Nat), l.length - k ≤ n → LastD l k → LastD l (mDigs l k)
  | 0, k, hn, h => by rw [mDigs_off (fun hk => by omega)]; exact h
  | n + 1, k, hn, h => by
    by_cases hlt : k < l.length
    · by_cases hc : isDig (l[k]'hlt).toNat
      · rw [mDigs_on hlt hc]
        exact digs_last n (k + 1) (by omega) ⟨by omega, _, by rw [Nat.add_sub_cancel]; exact List.getElem?_eq_getElem hlt, hc⟩
      · rw [mDigs_off (fun _ => hc)]; exact h
    · rw [mDigs_off (fun h => absurd h hlt)]; exact h

theorem digits_last {l : List UInt8} {k q : Nat} (e : mDigits l k = (true, q)) : LastD l q := by
  obtain ⟨c, hc, hd, rfl⟩ := mDigits_yes e
  exact digs_last _ _ (Nat.le_refl _) ⟨by omega, c, by rw [Nat.add_sub_cancel]; exact hc, hd⟩

theorem exp_last {l : List UInt8} {k q : Nat} (h : LastD l k) (e : mExp l k = (true, q)) : LastD l q := by
  unfold mExp at e
  split at e
  · exact digits_last e
  · cases e; exact h

theorem frac_last {l : List UInt8} {k q : Nat} (h : LastD l k) (e : mFrac l k = (true, q)) : LastD l q := by
  unfold mFrac at e
  split at e
  · split at e
    · rename_i h2
      exact exp_last (digits_last (show mDigits l (k + 1) = (true, (mDigits l (k + 1)).2) by rw [← h2])) e
    · exact digits_last e
  · exact exp_last h e

theorem int_last {l : List UInt8} {k q : Nat} (e : mInt l k = (true, q)) : LastD l q := by
  unfold mInt at e
  split at e
  · rename_i h
    obtain ⟨d, hd, hde⟩ := seeB_get (c := 48) h (by omega)
    exact frac_last ⟨by omega, d, by rw [Nat.add_sub_cancel]; exact hd, by unfold isDig; omega⟩ e
  · split at e
    · rename_i h2
      exact frac_last (digits_last (show mDigits l k = (true, (mDigits l k).2) by rw [← h2])) e
    · exact digits_last e

theorem word_last {l : List UInt8} : ∀ {t : List UInt8} {k q : Nat}, mWord l t k = (true, q) → t ≠ [] → (∀ c ∈ t, ¬ isSp c.toNat) → LastN l q
  | [], _, _, _, h, _ => absurd rfl h
  | [c], k, q, e, _, hc => by
    unfold mWord at e
    split at e
    · rename_i h
      cases e
      exact ⟨by omega, c, by rw [Nat.add_sub_cancel]; exact h, hc c (by simp)⟩
    · cases e
  | c :: d :: t, k, q, e, _, hc => by
    unfold mWord at e
    split at e
    · exact word_last e (by simp) (fun x hx => hc x (List.mem_cons_of_mem _ hx))
    · cases e

theorem leaf_last {l : List UInt8} {j q c : Nat} (h : Leaf l j q c) : LastN l q := by
  cases h with
  | null e => exact word_last e (by simp) (by decide)
  | yes e => exact word_last e (by simp) (by decide)
  | no e => exact word_last e (by simp) (by decide)
  | str _ h2 => exact ⟨by omega, 34, by rw [Nat.add_sub_cancel]; exact h2, by decide⟩
  | num _ h2 => exact (int_last h2).n

theorem mems_last {s : ByteArray} : ∀ {ks : List Tr} {i q : Nat} {ns : List ByteArray}, Mems s i q ns ks → LastN s.data.toList q
  | _, _, _, _, .last _ _ _ h => ⟨by omega, 125, by rw [Nat.add_sub_cancel]; exact h, by decide⟩
  | _, _, _, _, .more _ _ _ _ hm => mems_last hm

theorem elems_last {s : ByteArray} : ∀ {ks : List Tr} {i q : Nat}, Elems s i q ks → LastN s.data.toList q
  | _, _, _, .last _ _ h => ⟨by omega, 93, by rw [Nat.add_sub_cancel]; exact h, by decide⟩
  | _, _, _, .more _ _ _ hm => elems_last hm

theorem val_last {s : ByteArray} {k q : Nat} {T : Tr} (h : Val s k q T) : LastN s.data.toList q := by
  cases h with
  | leaf h => exact leaf_last h
  | obj0 _ _ h => exact ⟨by omega, 125, by rw [Nat.add_sub_cancel]; exact h, by decide⟩
  | obj _ _ h => exact mems_last h
  | arr0 _ _ h => exact ⟨by omega, 93, by rw [Nat.add_sub_cancel]; exact h, by decide⟩
  | arr _ _ _ h => exact elems_last h

/-- Behind the whole value white space is taken as it stands. -/
theorem ia_end {p i : List UInt8} {g : Cfg} (hs : g.st = .et) (d : Int) (l : List UInt8) : ∀ (n k : Nat) (o : List UInt8), l.length - k ≤ n → mSpace l k = l.length → indAll p i g k (Wd d o) (l.drop k) = Wd d (o ++ l.drop k)
  | 0, k, o, hn, _ => by
    rw [List.drop_eq_nil_of_le (by omega), List.append_nil]
    rfl
  | n + 1, k, o, hn, he => by
    by_cases hk : k < l.length
    · have hc : isSp (l[k]'hk).toNat := by
        by_cases hc : isSp (l[k]'hk).toNat
        · exact hc
        · rw [mSpace_off (fun _ => hc)] at he
          omega
      have hget := List.getElem?_eq_getElem hk
      have hst : ∀ y, stepC g y (l[k]'hk).toNat = (g, 10) := fun y => by
        unfold stepC
        rw [hs]
        exact if_pos hc
      have hc2 := hc
      unfold isSp at hc2
      rw [mSpace_on hk hc] at he
      rw [ia_step hget (hst _) (by decide), st_other (by decide) (by decide) (by omega), indA_W, back]
      have := ia_end (p := p) (i := i) hs d l n (k + 1) (o ++ [l[k]'hk]) (by omega) he
      have e : o ++ l.drop k = o ++ [l[k]'hk] ++ l.drop (k + 1) := by rw [drop_get hget]; simp
      rw [e]
      exact this
    · rw [List.drop_eq_nil_of_le (by omega), List.append_nil]
      rfl

/-- The whole text. -/
theorem ind_tree {s : ByteArray} {v : Nat} {T : Tr} (h : Val s 0 v T) (he : mSpace s.data.toList v = s.size) (p i : List UInt8) : (indAll p i newCfg 0 ⟨false, 0, []⟩ s.data.toList).out = wr p i T 0 ++ s.data.toList.drop v := by
  have h1 := goes_val h newCfg rfl p i ⟨false, 0, []⟩
  rw [List.drop_zero] at h1
  rw [h1]
  have h2 := ia_end (p := p) (i := i) (g := after newCfg) rfl (lead p i ⟨false, 0, []⟩).dep s.data.toList _ v ((lead p i ⟨false, 0, []⟩).out ++ wr p i T (lead p i ⟨false, 0, []⟩).dep) (Nat.le_refl _) (by rw [he, size_eq])
  rw [h2]
  rfl

end Go.Proofs.YtlgmdcaoogiooaaGreatDoor.Ind

namespace Go.Proofs.YtlgmdcaoogiooaaGreatDoor.Wire
open Go.RowKit Go.Proofs.YtlgmdcaoogiooaaGreatDoor

def bad : List UInt8 := [239, 191, 189]

/-- A digit of base 16. -/
def hexd (a : Nat) : Option Nat := if 48 ≤ a ∧ a ≤ 57 then some (a - 48) else if 97 ≤ a ∧ a ≤ 102 then some (a - 87) else if 65 ≤ a ∧ a ≤ 70 then some (a - 55) else none

/-- Digits of base 16, read from left to right. -/
def hexFold : Nat → List UInt8 → Option Nat
  | v, [] => some v
  | v, c :: t => match hexd c.toNat with
    | some d => hexFold (v * 16 + d) t
    | none => none

/-- Four digits of base 16. -/
def hex4 (l : List UInt8) : Option Nat := if l.length = 4 then hexFold 0 l else none

abbrev enc (r : Nat) : List UInt8 := Lib.encodeRune (r : Int)

theorem hex4_lt {l : List UInt8} {v : Nat} (h : hex4 l = some v) : v < 65536 := by
  have hd : ∀ {a d}, hexd a = some d → d < 16 := fun {a d} h => by
    unfold hexd at h
    split at h
    · cases h; omega
    · split at h
      · cases h; omega
      · split at h
        · cases h; omega
        · cases h
  unfold hex4 at h
  split at h
  · rename_i h4
    match l, h4 with
    | [a, b, c, d], _ =>
      simp only [hexFold] at h
      cases ha : hexd a.toNat with
      | none => rw [ha] at h; cases h
      | some x =>
        rw [ha] at h
        simp only at h
        cases hb : hexd b.toNat with
        | none => rw [hb] at h; cases h
        | some y =>
          rw [hb] at h
          simp only at h
          cases hc : hexd c.toNat with
          | none => rw [hc] at h; cases h
          | some z =>
            rw [hc] at h
            simp only at h
            cases he : hexd d.toNat with
            | none => rw [he] at h; cases h
            | some u =>
              rw [he] at h
              simp only [Option.some.injEq] at h
              have := hd ha
              have := hd hb
              have := hd hc
              have := hd he
              omega
  · cases h

/-- The number of an escape of four digits at the beginning, if there is one. -/
def unitS (s : List UInt8) : Option Nat := if 6 ≤ s.length ∧ s.take 2 = [92, 117] then hex4 ((s.drop 2).take 4) else none

/-- What an escape stands for, how long it is, and whether it stands for a character. -/
def escS (s : List UInt8) : List UInt8 × Nat × Bool :=
  match s with
  | _ :: r :: _ =>
    if r = 98 then ([8], 2, true) else if r = 102 then ([12], 2, true) else if r = 110 then ([10], 2, true) else if r = 114 then ([13], 2, true) else if r = 116 then ([9], 2, true)
    else if r = 117 then
      if (unitS s).getD 0 < 55296 ∨ 57343 < (unitS s).getD 0 then (enc ((unitS s).getD 0), 6, true)
      else if (unitS s).getD 0 < 56320 ∧ (unitS (s.drop 6)).isSome = true ∧ 56320 ≤ (unitS (s.drop 6)).getD 0 ∧ (unitS (s.drop 6)).getD 0 ≤ 57343 then (enc (65536 + ((unitS s).getD 0 - 55296) * 1024 + ((unitS (s.drop 6)).getD 0 - 56320)), 12, true)
      else (bad, 6, false)
    else ([r], 2, true)
  | _ => ([], 2, true)

theorem drop_of_get {l : List UInt8} {k : Nat} {c : UInt8} (h : l[k]? = some c) : l.drop k = c :: l.drop (k + 1) := by
  obtain ⟨hk, e⟩ := List.getElem?_eq_some_iff.1 h
  rw [List.drop_eq_getElem_cons hk, e]

theorem enc_len (r : Nat) : (enc r).length ≤ 4 := by
  unfold enc Lib.encodeRune
  rw [List.length_map]
  exact (Lib.encodeRuneZ_length _).2

theorem escS_len (s : List UInt8) : (escS s).1.length ≤ (escS s).2.1 ∧ 2 ≤ (escS s).2.1 ∧ (escS s).2.1 ≤ 12 := by
  unfold escS
  split
  · repeat' split
    all_goals dsimp only
    all_goals first
      | exact ⟨Nat.le_trans (enc_len _) (by decide : 4 ≤ 6), (by decide : 2 ≤ 6), (by decide : 6 ≤ 12)⟩
      | exact ⟨Nat.le_trans (enc_len _) (by decide : 4 ≤ 12), (by decide : 2 ≤ 12), (by decide : 12 ≤ 12)⟩
      | exact ⟨(by decide : 3 ≤ 6), (by decide : 2 ≤ 6), (by decide : 6 ≤ 12)⟩
      | exact ⟨(by decide : 1 ≤ 2), (by decide : 2 ≤ 2), (by decide : 2 ≤ 12)⟩
  · exact ⟨by decide, by decide, by decide⟩

end Go.Proofs.YtlgmdcaoogiooaaGreatDoor.Wire
