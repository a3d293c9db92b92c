/- A string, as the reference reads it by loose rules, white space, and the scanner over both. -/
import Derived.Test.YtlgmdcaoogiooaaGreatDoorNumP
import Derived.Test.YtlgmdcaoogiooaaGreatDoorQdR
import Derived.Test.YtlgmdcaoogiooaaGreatDoorSpcW
namespace Go.Proofs.YtlgmdcaoogiooaaGreatDoor
open Go.RowKit

theorem isHex_hexI {a : Nat} : isHex a ↔ 0 ≤ hexI a ∧ hexI a ≤ 15 := by
  unfold isHex hexI hexD
  constructor
  · rintro (h | h | h)
    · rw [if_pos h]; show (0 : Int) ≤ ((a - 48 : Nat) : Int) ∧ ((a - 48 : Nat) : Int) ≤ 15; omega
    · rw [if_neg (by omega), if_pos h]; show (0 : Int) ≤ ((a - 87 : Nat) : Int) ∧ ((a - 87 : Nat) : Int) ≤ 15; omega
    · rw [if_neg (by omega), if_neg (by omega), if_pos h]; show (0 : Int) ≤ ((a - 55 : Nat) : Int) ∧ ((a - 55 : Nat) : Int) ≤ 15; omega
  · intro h
    by_cases h1 : 48 ≤ a ∧ a ≤ 57
    · exact .inl h1
    · by_cases h2 : 97 ≤ a ∧ a ≤ 102
      · exact .inr (.inl h2)
      · by_cases h3 : 65 ≤ a ∧ a ≤ 70
        · exact .inr (.inr h3)
        · rw [if_neg h1, if_neg h2, if_neg h3] at h
          exact absurd h.1 (by decide)

/-- A digit of base 16, and what stands behind it. -/
theorem says_hex1 {g g1 : Cfg} (h : On g) {s s2 : St} (hs : s ≠ .bse) (hs' : s ≠ .err) (hst : ∀ y c, stepC (g.to s) y c = stepHex (g.to s) y c s2) (l : List UInt8) (k : Nat) (hk : k ≤ l.length) (t : List (Int × Int))
    (ht : k + 1 ≤ l.length → Says (g.to s2) l (k + 1) g1 (mHexs l t (k + 1))) : Says (g.to s) l k g1 (mHexs l ((0, 15) :: t) k) := by
  have hon := h.to hs hs'
  cases e : (mHex l 0 15 k).1 with
  | true =>
    rw [mHexs_true e]
    obtain ⟨_, q1, q2⟩ := mHex_true e
    have hk2 := hexAt_lt q1
    have hget := List.getElem?_eq_getElem hk2
    have hx : isHex (l[k]'hk2).toNat := by
      rw [isHex_hexI]
      unfold hexAt at q1 q2
      rw [hget] at q1 q2
      exact ⟨q1, q2⟩
    refine Says.thru (fin_yes (g1 := g.to s2) hon hget ?_) (ht (by omega))
    rw [hst]
    unfold stepHex
    rw [if_pos hx]
    rfl
  | false =>
    rw [mHexs_false e]
    refine ⟨hk, fun e => (by cases e), fun _ => ?_⟩
    have hno : ∀ y c, ¬ isHex c → (stepC (g.to s) y c).1 = (g.to s).fail y := fun y c hc => by
      rw [hst]
      unfold stepHex
      rw [if_neg hc]
    refine fin_no hon hk (fun c hc => ⟨g.to s, hno _ _ (fun hx => ?_)⟩) ⟨_, by rw [hno _ _ (by unfold isHex; omega)]; exact hon.top, .inr (by rw [hno _ _ (by unfold isHex; omega)]; rfl), rfl⟩
    rw [isHex_hexI] at hx
    unfold mHex hexAt at e
    rw [hc] at e
    rw [if_neg (by show ¬ (hexI c.toNat < 0 ∨ 15 < hexI c.toNat); omega)] at e
    cases e

/-- What follows a backslash. -/
theorem says_escape {g : Cfg} (h : On g) (l : List UInt8) (k : Nat) (hk : k ≤ l.length) : Says (g.to .esc) l k (g.to .str) (mEscape true l k) := by
  have hE : On (g.to .esc) := h.to (by simp) (by simp)
  unfold mEscape
  split
  · rename_i q
    simp only [simpleE, Bool.or_eq_true, beq_iff_eq] at q
    have hlt : k < l.length := seeB_lt (by omega)
    have hget := List.getElem?_eq_getElem hlt
    rw [seeB_some hget] at q
    refine ⟨hlt, fun _ => fin_yes (g1 := g.to .str) hE hget ?_, fun e => by cases e⟩
    show (stepEsc _ _ _).1 = _
    unfold stepEsc
    rw [if_pos (by unfold isEsc; omega)]
    rfl
  · rename_i q
    simp only [simpleE, Bool.or_eq_true, beq_iff_eq] at q
    split
    · rename_i q2
      obtain ⟨d, hd, hde⟩ := seeB_get (c := 117) q2 (by omega)
      have hk2 := (List.getElem?_eq_some_iff.1 hd).1
      have hu : mUnit true false l (k + 1) = ((mHexs l [(0, 15), (0, 15), (0, 15), (0, 15)] (k + 1)).1, (mHexs l [(0, 15), (0, 15), (0, 15), (0, 15)] (k + 1)).2, false) := by unfold mUnit; exact if_pos rfl
      rw [hu, if_neg (by simp)]
      refine Says.thru (fin_yes (g1 := g.to .u0) hE hd ?_) ?_
      · show (stepEsc _ _ _).1 = _
        unfold stepEsc
        rw [if_neg (by unfold isEsc; omega), if_pos hde]
        rfl
      · show Says (g.to .u0) l (k + 1) (g.to .str) (mHexs l [(0, 15), (0, 15), (0, 15), (0, 15)] (k + 1))
        refine says_hex1 h (s2 := .u1) (by simp) (by simp) (fun _ _ => rfl) l _ (by omega) _ (fun h1 => ?_)
        refine says_hex1 h (s2 := .u2) (by simp) (by simp) (fun _ _ => rfl) l _ h1 _ (fun h2 => ?_)
        refine says_hex1 h (s2 := .u3) (by simp) (by simp) (fun _ _ => rfl) l _ h2 _ (fun h3 => ?_)
        refine says_hex1 h (s2 := .str) (by simp) (by simp) (fun _ _ => rfl) l _ h3 _ (fun h4 => ?_)
        exact ⟨h4, fun _ => rfl, fun e => by cases e⟩
    · rename_i q2
      refine ⟨hk, fun e => (by cases e), fun _ => ?_⟩
      have hno : ∀ y c, ¬ isEsc c → c ≠ 117 → (stepC (g.to .esc) y c).1 = (g.to .esc).fail y := fun y c hc hc2 => by
        show (stepEsc _ y c).1 = _
        unfold stepEsc
        rw [if_neg hc, if_neg hc2]
      refine fin_no hE hk (fun c hc => ⟨g.to .esc, hno _ _ (fun hx => ?_) (fun e => q2 (by rw [seeB_some hc, e]; rfl))⟩) ⟨_, by rw [hno _ _ (by unfold isEsc; omega) (by omega)]; exact hE.top, .inr (by rw [hno _ _ (by unfold isEsc; omega) (by omega)]; rfl), rfl⟩
      rw [seeB_some hc] at q
      unfold isEsc at hx
      omega

/-- Reading on in a string. -/
def SaysQ (g : Cfg) (l : List UInt8) (k : Nat) (r : Bool × Nat) : Prop :=
  k ≤ r.2 ∧ r.2 ≤ l.length ∧ (r.1 = true → l[r.2]? = some 34 ∧ fin (g.to .str) k (l.drop k) = fin (g.to .str) r.2 (l.drop r.2)) ∧ (r.1 = false → fin (g.to .str) k (l.drop k) = some ((min (r.2 + 1) l.length : Nat) : Int))

theorem says_qrun {g : Cfg} (h : On g) {l : List UInt8} : ∀ {k : Nat} {r : Bool × Nat}, QRun true l k r → k ≤ l.length → SaysQ g l k r := by
  have hS : On (g.to .str) := h.to (by simp) (by simp)
  have s32 : ∀ y, (stepC (g.to .str) y 32).1 = g.to .str := fun y => rfl
  intro k r hq
  induction hq with
  | eof h1 =>
    intro hk
    refine ⟨Nat.le_refl _, hk, fun e => (by cases e), fun _ => ?_⟩
    refine fin_no hS hk (fun c hc => ?_) ⟨_, hS.top, .inl hS.er, s32 _⟩
    have := (List.getElem?_eq_some_iff.1 hc).1
    omega
  | done h1 =>
    intro hk
    exact ⟨Nat.le_refl _, hk, fun _ => ⟨h1, rfl⟩, fun e => by cases e⟩
  | @escNo k k' h1 h2 =>
    intro hk
    have hk2 := (List.getElem?_eq_some_iff.1 h1).1
    have hE := says_escape h l (k + 1) (by omega)
    have hle := mEscape_le true l (k + 1)
    rw [h2] at hE hle
    have e1 := fin_yes (g1 := g.to .esc) hS h1 rfl
    exact ⟨by simp only at hle ⊢; omega, hE.1, fun e => (by cases e), fun e => e1.trans (hE.2.2 e)⟩
  | @esc k k' r h1 h2 _ ih =>
    intro hk
    have hk2 := (List.getElem?_eq_some_iff.1 h1).1
    have hE := says_escape h l (k + 1) (by omega)
    have hle := mEscape_le true l (k + 1)
    rw [h2] at hE hle
    have e1 := fin_yes (g1 := g.to .esc) hS h1 rfl
    have e2 := e1.trans (hE.2.1 rfl)
    obtain ⟨i0, i1, i2, i3⟩ := ih hE.1
    exact ⟨by simp only at hle; omega, i1, fun e => ⟨(i2 e).1, e2.trans (i2 e).2⟩, fun e => e2.trans (i3 e)⟩
  | @ctrl k c h1 h2 =>
    intro hk
    refine ⟨Nat.le_refl _, hk, fun e => (by cases e), fun _ => ?_⟩
    refine fin_no hS hk (fun c' hc => ⟨g.to .str, ?_⟩) ⟨_, hS.top, .inl hS.er, s32 _⟩
    rw [h1] at hc
    cases hc
    show (stepStr _ _ _).1 = _
    unfold stepStr
    rw [if_neg (by omega), if_neg (by omega), if_pos h2]
  | @plain k c r h1 h2 h3 h4 _ _ ih =>
    intro hk
    have hk2 := (List.getElem?_eq_some_iff.1 h1).1
    have e1 := fin_yes (g1 := g.to .str) hS h1 (by
      show (stepStr _ _ _).1 = _
      unfold stepStr
      rw [if_neg (show ¬ c.toNat = 34 from fun e => h3 (UInt8.toNat_inj.1 e)), if_neg (show ¬ c.toNat = 92 from fun e => h4 (UInt8.toNat_inj.1 e)), if_neg (by omega)])
    obtain ⟨i0, i1, i2, i3⟩ := ih (by omega)
    exact ⟨by omega, i1, fun e => ⟨(i2 e).1, e1.trans (i2 e).2⟩, fun e => e1.trans (i3 e)⟩
  | rune _ _ h3 => cases h3
  | runeNo _ _ h3 => cases h3

/-- A string, where the scanner steps to its inside at a quotation mark and else finds a fault. -/
theorem says_quoted {g : Cfg} (h : On g) {s : St} (hs : s ≠ .bse) (hs' : s ≠ .err) {l : List UInt8} {k : Nat} (hk : k ≤ l.length) {r : Bool × Nat} (hq : QRel true l k r)
    (hst : ∀ y, (stepC (g.to s) y 34).1 = g.to .str) (hno : ∀ c, l[k]? = some c → c ≠ 34 → ∀ y, ∃ g1, (stepC (g.to s) y c.toNat).1 = Cfg.fail g1 y) (h32 : ∀ y, ∃ g1, g1.top ≠ true ∧ (g1.er = none ∨ g1.er = some y) ∧ (stepC (g.to s) y 32).1 = g1) :
    k ≤ r.2 ∧ r.2 ≤ l.length ∧ (r.1 = true → k < r.2 ∧ l[k]? = some 34 ∧ l[r.2]? = some 34 ∧ fin (g.to s) k (l.drop k) = fin (g.to .ev) (r.2 + 1) (l.drop (r.2 + 1))) ∧ (r.1 = false → fin (g.to s) k (l.drop k) = some ((min (r.2 + 1) l.length : Nat) : Int)) := by
  have hon := h.to hs hs'
  have hS : On (g.to .str) := h.to (by simp) (by simp)
  rcases hq with ⟨h1, h2⟩ | ⟨h1, rfl⟩
  · obtain ⟨c, hc, q1, q2⟩ := mNeed_pos h1
    have hk2 := (List.getElem?_eq_some_iff.1 hc).1
    have hce : c.toNat = 34 := by omega
    have hc34 : c = 34 := UInt8.toNat_inj.1 hce
    have e1 := fin_yes (g1 := g.to .str) hon hc (by rw [hce]; exact hst _)
    obtain ⟨i0, i1, i2, i3⟩ := says_qrun h h2 (by omega)
    refine ⟨by omega, i1, fun e => ⟨by omega, by rw [hc, hc34], (i2 e).1, ?_⟩, fun e => e1.trans (i3 e)⟩
    rw [e1, (i2 e).2, fin_yes (g1 := g.to .ev) hS (i2 e).1 rfl]
  · refine ⟨Nat.le_refl _, hk, fun e => (by cases e), fun _ => ?_⟩
    refine fin_no hon hk (fun c hc => hno c hc (fun e => ?_) _) (h32 _)
    subst e
    exact mNeed_neg (by rw [h1]; simp) _ hc ⟨by decide, by decide⟩

/-- White space, where it changes nothing. -/
theorem says_space {g : Cfg} (h : WF g) (hsp : ∀ y c, isSp c → (stepC g y c).1 = g) (l : List UInt8) : ∀ (n k : Nat), l.length - k ≤ n → fin g k (l.drop k) = fin g (mSpace l k) (l.drop (mSpace l k))
  | 0, k, hn => by rw [mSpace_off (fun hk => by omega)]
  | n + 1, k, hn => by
    by_cases hk : k < l.length
    · by_cases hc : isSp (l[k]'hk).toNat
      · rw [mSpace_on hk hc, drop_get (List.getElem?_eq_getElem hk), fin_step h (hsp _ _ hc)]
        exact says_space h hsp l n (k + 1) (by omega)
      · rw [mSpace_off (fun _ => hc)]
    · rw [mSpace_off (fun hk2 => absurd hk2 hk)]

theorem mSpace_ge (l : List UInt8) (k : Nat) : k ≤ mSpace l k := by unfold mSpace; omega
theorem mSpace_len {l : List UInt8} {k : Nat} (h : k ≤ l.length) : mSpace l k ≤ l.length := by
  unfold mSpace
  have := (List.takeWhile_sublist (l := l.drop k) (fun c : UInt8 => decide (isSp c.toNat))).length_le
  rw [List.length_drop] at this
  omega
theorem mSpace_end (l : List UInt8) : ∀ (n k : Nat), l.length - k ≤ n → ∀ c, l[mSpace l k]? = some c → ¬ isSp c.toNat
  | 0, k, h, c, hc => by
    have := (List.getElem?_eq_some_iff.1 hc).1
    have := mSpace_ge l k
    omega
  | n + 1, k, h, c, hc => by
    by_cases hk : k < l.length
    · by_cases hd : isSp (l[k]'hk).toNat
      · rw [mSpace_on hk hd] at hc
        exact mSpace_end l n (k + 1) (by omega) c hc
      · rw [mSpace_off (fun _ => hd), List.getElem?_eq_getElem hk] at hc
        cases hc
        exact hd
    · have := (List.getElem?_eq_some_iff.1 hc).1
      have := mSpace_ge l k
      omega

end Go.Proofs.YtlgmdcaoogiooaaGreatDoor
