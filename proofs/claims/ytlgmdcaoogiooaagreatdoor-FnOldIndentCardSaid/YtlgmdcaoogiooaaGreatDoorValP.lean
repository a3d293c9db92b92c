/- Values, as the reference reads them by loose rules, and the scanner over them. -/
import Derived.Test.YtlgmdcaoogiooaaGreatDoorStrP
import Derived.Test.YtlgmdcaoogiooaaGreatDoorNumW
namespace Go.Proofs.YtlgmdcaoogiooaaGreatDoor
open Go.RowKit

/-- The tree of a value: its kind, its text, the names of an object, what is in it. -/
inductive Tr where
  | mk (kind : Nat) (text : ByteArray) (names : List ByteArray) (kids : List Tr)

/-- A literal, a string or a number from j to q. -/
inductive Leaf (l : List UInt8) : Nat → Nat → Nat → Prop
  | null {j q : Nat} : mWord l [110, 117, 108, 108] j = (true, q) → Leaf l j q 110
  | yes {j q : Nat} : mWord l [116, 114, 117, 101] j = (true, q) → Leaf l j q 116
  | no {j q : Nat} : mWord l [102, 97, 108, 115, 101] j = (true, q) → Leaf l j q 102
  | str {j p : Nat} : QRel true l j (true, p) → l[p]? = some 34 → Leaf l j (p + 1) 34
  | num {j q : Nat} : (seeB l j = 45 ∨ (48 ≤ seeB l j ∧ seeB l j ≤ 57)) → mNumber l j = (true, q) → Leaf l j q 48

/-- The name at i, and the colon behind it. -/
def NameOk (s : ByteArray) (i : Nat) (nm : ByteArray) (q : Nat) : Prop :=
  ∃ p, QRel true s.data.toList i (true, p) ∧ s.data.toList[p]? = some 34 ∧ nm = s.extract i (p + 1) ∧ s.data.toList[mSpace s.data.toList (p + 1)]? = some 58 ∧ q = mSpace s.data.toList (p + 1) + 1

mutual
/-- A value from k to q, with the white space ahead of it. -/
inductive Val (s : ByteArray) : Nat → Nat → Tr → Prop
  | leaf {k q c : Nat} : Leaf s.data.toList (mSpace s.data.toList k) q c → Val s k q (.mk c (s.extract (mSpace s.data.toList k) q) [] [])
  | obj0 {k i : Nat} : s.data.toList[mSpace s.data.toList k]? = some 123 → i = mSpace s.data.toList (mSpace s.data.toList k + 1) → s.data.toList[i]? = some 125 → Val s k (i + 1) (.mk 123 ⟨#[]⟩ [] [])
  | obj {k i q : Nat} {ns : List ByteArray} {ks : List Tr} : s.data.toList[mSpace s.data.toList k]? = some 123 → i = mSpace s.data.toList (mSpace s.data.toList k + 1) → Mems s i q ns ks → Val s k q (.mk 123 ⟨#[]⟩ ns ks)
  | arr0 {k i : Nat} : s.data.toList[mSpace s.data.toList k]? = some 91 → i = mSpace s.data.toList (mSpace s.data.toList k + 1) → s.data.toList[i]? = some 93 → Val s k (i + 1) (.mk 91 ⟨#[]⟩ [] [])
  | arr {k i q : Nat} {ks : List Tr} : s.data.toList[mSpace s.data.toList k]? = some 91 → i = mSpace s.data.toList (mSpace s.data.toList k + 1) → s.data.toList[i]? ≠ some 93 → Elems s i q ks → Val s k q (.mk 91 ⟨#[]⟩ [] ks)
/-- The members of an object, from the first name on to behind the brace. -/
inductive Mems (s : ByteArray) : Nat → Nat → List ByteArray → List Tr → Prop
  | last {i c v e : Nat} {nm : ByteArray} {T : Tr} : NameOk s i nm c → Val s c v T → e = mSpace s.data.toList v → s.data.toList[e]? = some 125 → Mems s i (e + 1) [nm] [T]
  | more {i c v e q : Nat} {nm : ByteArray} {T : Tr} {ns : List ByteArray} {ks : List Tr} : NameOk s i nm c → Val s c v T → e = mSpace s.data.toList v → s.data.toList[e]? = some 44 → Mems s (mSpace s.data.toList (e + 1)) q ns ks → Mems s i q (nm :: ns) (T :: ks)
/-- The elements of an array. -/
inductive Elems (s : ByteArray) : Nat → Nat → List Tr → Prop
  | last {i v e : Nat} {T : Tr} : Val s i v T → e = mSpace s.data.toList v → s.data.toList[e]? = some 93 → Elems s i (e + 1) [T]
  | more {i v e q : Nat} {T : Tr} {ks : List Tr} : Val s i v T → e = mSpace s.data.toList v → s.data.toList[e]? = some 44 → Elems s (e + 1) q ks → Elems s i q (T :: ks)
end

theorem On.push {g : Cfg} (h : On g) {s : St} {p : Nat} (h1 : s = .bse → p = 0) (h2 : s ≠ .err) : On (g.push s p) :=
  ⟨⟨fun e => ⟨g.ps, by show g.ps ++ [p] = _; rw [h1 e]⟩, fun e => absurd e h.top, fun e => absurd h.er e, fun e => absurd e h2⟩, h.er, h.top⟩

theorem pop_push (g : Cfg) (s : St) (p : Nat) : (g.push s p).pop = after g := by
  unfold Cfg.pop after Cfg.push
  simp only [List.dropLast_concat]
  split
  · rename_i e
    rw [e]
  · rfl

theorem after_push (g : Cfg) (s : St) (p : Nat) : after (g.push s p) = g.push .ev p := by
  unfold after
  rw [if_neg (by show ¬ g.ps ++ [p] = []; simp)]
  rfl

theorem after_bv (g : Cfg) : after (g.to .bv) = after g := rfl

/-- Behind a member's name: a colon. -/
theorem step_colon (g : Cfg) (y : Int) : (stepC (g.push .ev 0) y 58).1 = g.push .bv 1 := by
  show (stepEv _ y 58).1 = _
  rw [evP_some (i := g.ps) (p := 0) rfl]
  simp [isSp, Cfg.turn, Cfg.push]

theorem step_ev_no (g : Cfg) (p : Nat) (y : Int) (c : Nat) (hsp : ¬ isSp c) (h0 : p = 0 → c ≠ 58) (h1 : p = 1 → c ≠ 44 ∧ c ≠ 125) (h2 : p = 2 → c ≠ 44 ∧ c ≠ 93) : (stepC (g.push .ev p) y c).1 = (g.push .ev p).fail y := by
  show (stepEv _ y c).1 = _
  rw [evP_some (i := g.ps) (p := p) rfl, if_neg hsp]
  split
  · rename_i e; rw [if_neg (h0 e)]
  · split
    · rename_i e; rw [if_neg (h1 e).1, if_neg (h1 e).2]
    · split
      · rename_i e; rw [if_neg (h2 e).1, if_neg (h2 e).2]
      · rfl

theorem step_ev_sp (g : Cfg) (p : Nat) (y : Int) (c : Nat) (hsp : isSp c) : (stepC (g.push .ev p) y c).1 = g.push .ev p := by
  show (stepEv _ y c).1 = _
  rw [evP_some (i := g.ps) (p := p) rfl, if_pos hsp]
  rfl

theorem step_comma1 (g : Cfg) (y : Int) : (stepC (g.push .ev 1) y 44).1 = g.push .bs 0 := by
  show (stepEv _ y 44).1 = _
  rw [evP_some (i := g.ps) (p := 1) rfl]
  simp [isSp, Cfg.turn, Cfg.push]
theorem step_shut1 (g : Cfg) (y : Int) : (stepC (g.push .ev 1) y 125).1 = after g := by
  show (stepEv _ y 125).1 = _
  rw [evP_some (i := g.ps) (p := 1) rfl]
  simp [isSp, pop_push]
theorem step_comma2 (g : Cfg) (y : Int) : (stepC (g.push .ev 2) y 44).1 = g.push .bv 2 := by
  show (stepEv _ y 44).1 = _
  rw [evP_some (i := g.ps) (p := 2) rfl]
  simp [isSp, Cfg.to, Cfg.push]
theorem step_shut2 (g : Cfg) (y : Int) : (stepC (g.push .ev 2) y 93).1 = after g := by
  show (stepEv _ y 93).1 = _
  rw [evP_some (i := g.ps) (p := 2) rfl]
  simp [isSp, pop_push]
theorem step_bve_shut (g : Cfg) (y : Int) : (stepC (g.push .bve 2) y 93).1 = after g := by
  show (stepBve _ y 93).1 = _
  unfold stepBve
  rw [if_neg (by unfold isSp; omega), if_pos rfl, evP_some (i := g.ps) (p := 2) rfl]
  simp [isSp, pop_push]
theorem step_bse_shut (g : Cfg) (y : Int) : (stepC (g.push .bse 0) y 125).1 = after g := by
  show (stepBse _ y 125).1 = _
  unfold stepBse
  rw [if_neg (by unfold isSp; omega), if_pos rfl, evP_some (i := g.ps) (p := 1) (by show (g.ps ++ [0]).dropLast ++ [1] = _; rw [List.dropLast_concat])]
  simp only [isSp]
  show (if _ then _ else _ : Cfg × Nat).1 = _
  simp [Cfg.pop, after, Cfg.push]
  split
  · rename_i e
    rw [e]
  · rfl

/-- Where an element may begin or the bracket stands: no bracket there. -/
theorem fin_bve {g : Cfg} (h : On g) (l : List UInt8) (k : Nat) (hk : ∀ c, l[k]? = some c → ¬ isSp c.toNat ∧ c ≠ 93) : fin (g.push .bve 2) k (l.drop k) = fin (g.push .bv 2) k (l.drop k) := by
  have h1 : On (g.push .bve 2) := h.push (fun e => by cases e) (by simp)
  have h2 : On (g.push .bv 2) := h.push (fun e => by cases e) (by simp)
  refine fin_alike h1 h2 k _ (fun c t e => ?_) ⟨rfl, rfl⟩
  obtain ⟨q1, q2⟩ := hk c (drop_head e)
  show (stepBve _ _ _).1 = (stepBv _ _ _).1
  unfold stepBve
  rw [if_neg q1, if_neg (show ¬ c.toNat = 93 from fun e => q2 (UInt8.toNat_inj.1 e))]
  unfold stepBv
  rw [if_neg q1, if_neg q1]
  rfl

/-- Where a name may begin or the brace stands: no brace there. -/
theorem fin_bse {g : Cfg} (h : On g) (l : List UInt8) (k : Nat) (hk : ∀ c, l[k]? = some c → ¬ isSp c.toNat ∧ c ≠ 125) : fin (g.push .bse 0) k (l.drop k) = fin (g.push .bs 0) k (l.drop k) := by
  have h1 : On (g.push .bse 0) := h.push (fun e => rfl) (by simp)
  have h2 : On (g.push .bs 0) := h.push (fun e => by cases e) (by simp)
  refine fin_alike h1 h2 k _ (fun c t e => ?_) ⟨rfl, rfl⟩
  obtain ⟨q1, q2⟩ := hk c (drop_head e)
  show (stepBse _ _ _).1 = (stepBs _ _ _).1
  unfold stepBse
  rw [if_neg q1, if_neg (show ¬ c.toNat = 125 from fun e => q2 (UInt8.toNat_inj.1 e))]
  unfold stepBs
  rw [if_neg q1, if_neg q1]
  rfl

/-- White space ahead of a value, behind one, ahead of a name. -/
theorem space_bv {g : Cfg} (h : On g) (hs : g.st = .bv) (l : List UInt8) (k : Nat) : fin g k (l.drop k) = fin g (mSpace l k) (l.drop (mSpace l k)) :=
  says_space h.wf (fun y c hc => by unfold stepC; rw [hs]; show (stepBv g y c).1 = g; unfold stepBv; rw [if_pos hc]) l _ k (Nat.le_refl _)
theorem space_ev {g : Cfg} (h : On g) (p : Nat) (l : List UInt8) (k : Nat) : fin (g.push .ev p) k (l.drop k) = fin (g.push .ev p) (mSpace l k) (l.drop (mSpace l k)) :=
  says_space (h.push (fun e => by cases e) (by simp)).wf (fun y c hc => step_ev_sp g p y c hc) l _ k (Nat.le_refl _)
theorem space_bs {g : Cfg} (h : On g) (l : List UInt8) (k : Nat) : fin (g.push .bs 0) k (l.drop k) = fin (g.push .bs 0) (mSpace l k) (l.drop (mSpace l k)) :=
  says_space (h.push (fun e => by cases e) (by simp)).wf (fun y c hc => by show (stepBs _ y c).1 = _; unfold stepBs; rw [if_pos hc]) l _ k (Nat.le_refl _)
theorem space_bse {g : Cfg} (h : On g) (l : List UInt8) (k : Nat) : fin (g.push .bse 0) k (l.drop k) = fin (g.push .bse 0) (mSpace l k) (l.drop (mSpace l k)) :=
  says_space (h.push (fun e => rfl) (by simp)).wf (fun y c hc => by show (stepBse _ y c).1 = _; unfold stepBse; rw [if_pos hc]) l _ k (Nat.le_refl _)
theorem space_bve {g : Cfg} (h : On g) (l : List UInt8) (k : Nat) : fin (g.push .bve 2) k (l.drop k) = fin (g.push .bve 2) (mSpace l k) (l.drop (mSpace l k)) :=
  says_space (h.push (fun e => by cases e) (by simp)).wf (fun y c hc => by show (stepBve _ y c).1 = _; unfold stepBve; rw [if_pos hc]) l _ k (Nat.le_refl _)

theorem not_sp_at (l : List UInt8) (k : Nat) : ∀ c, l[mSpace l k]? = some c → ¬ isSp c.toNat := mSpace_end l _ k (Nat.le_refl _)

/-- A wanted byte. -/
theorem says_want {g : Cfg} (h : On g) {s s2 : St} (hs : s ≠ .bse) (hs' : s ≠ .err) {want : UInt8} (hst : ∀ y c, stepC (g.to s) y c = stepWant (g.to s) y c want.toNat s2) (hw : want.toNat ≠ 32) {g1 : Cfg} (l : List UInt8) (k : Nat) (hk : k ≤ l.length) (t : List UInt8)
    (ht : k + 1 ≤ l.length → Says (g.to s2) l (k + 1) g1 (mWord l t (k + 1))) : Says (g.to s) l k g1 (mWord l (want :: t) k) := by
  have hon := h.to hs hs'
  by_cases hc : l[k]? = some want
  · have e : mWord l (want :: t) k = mWord l t (k + 1) := if_pos hc
    have hk2 := (List.getElem?_eq_some_iff.1 hc).1
    rw [e]
    refine Says.thru (fin_yes (g1 := g.to s2) hon hc ?_) (ht hk2)
    rw [hst]
    unfold stepWant
    rw [if_pos rfl]
    rfl
  · have e : mWord l (want :: t) k = (false, k) := if_neg hc
    rw [e]
    have hno : ∀ y c, c ≠ want.toNat → (stepC (g.to s) y c).1 = (g.to s).fail y := fun y c hcw => by
      rw [hst]
      unfold stepWant
      rw [if_neg hcw]
    refine ⟨hk, fun e => (by cases e), fun _ => fin_no hon hk (fun c hc2 => ⟨g.to s, hno _ _ (fun q => hc ?_)⟩) ⟨_, by rw [hno _ _ (fun q => hw q.symm)]; exact hon.top, .inr (by rw [hno _ _ (fun q => hw q.symm)]; rfl), rfl⟩⟩
    rw [hc2, UInt8.toNat_inj.1 q]

theorem says_end {g : Cfg} (h : On g) (l : List UInt8) (k : Nat) (hk : k ≤ l.length) : Says (g.to .ev) l k (after g) (true, k) := by
  have hEv : On (g.to .ev) := h.to (by simp) (by simp)
  exact ⟨hk, fun _ => (fin_after hEv.wf hEv.er hEv.top rfl k _).trans (by rw [after_to]), fun e => by cases e⟩

/-- What 'scalar' reads at a place that is no white space: whether it is well, and where reading stands then. -/
def ScalarR (l : List UInt8) (j : Nat) (r : Bool × Nat) : Prop :=
  (seeB l j = 110 ∧ r = mWord l [110, 117, 108, 108] j) ∨ (seeB l j = 116 ∧ r = mWord l [116, 114, 117, 101] j) ∨ (seeB l j = 102 ∧ r = mWord l [102, 97, 108, 115, 101] j) ∨
  (seeB l j = 34 ∧ ((∃ p, QRel true l j (false, p) ∧ r = (false, p)) ∨ (∃ p, QRel true l j (true, p) ∧ r = mNeed l 34 34 p))) ∨
  ((seeB l j = 45 ∨ (48 ≤ seeB l j ∧ seeB l j ≤ 57)) ∧ r = mNumber l j) ∨
  ((seeB l j ≠ 110 ∧ seeB l j ≠ 116 ∧ seeB l j ≠ 102 ∧ seeB l j ≠ 34 ∧ seeB l j ≠ 45 ∧ ¬ (48 ≤ seeB l j ∧ seeB l j ≤ 57)) ∧ r = (false, j))

theorem says_scalar {g : Cfg} (h : On g) (hs : g.st = .bv) {l : List UInt8} {j : Nat} (hj : j ≤ l.length) (hsp : ∀ c, l[j]? = some c → ¬ isSp c.toNat) (hb : seeB l j ≠ 123 ∧ seeB l j ≠ 91) {r : Bool × Nat} (hr : ScalarR l j r) : Says g l j (after g) r := by
  have hst : ∀ y c, stepC g y c = stepBv g y c := fun y c => by unfold stepC; rw [hs]
  have first : ∀ (w : UInt8) (s : St), seeB l j = ((w.toNat : Nat) : Int) → w.toNat ≠ 0 → (∀ y, (stepBv g y w.toNat).1 = g.to s) → ∀ t r', r' = mWord l (w :: t) j → (j + 1 ≤ l.length → Says (g.to s) l (j + 1) (after g) (mWord l t (j + 1))) → Says g l j (after g) r' := by
    intro w s h1 h0 h2 t r' hr' h3
    obtain ⟨d, hd, hde⟩ := seeB_get h1 h0
    have hdw : d = w := UInt8.toNat_inj.1 hde
    rw [hdw] at hd
    have hk2 := (List.getElem?_eq_some_iff.1 hd).1
    have e : mWord l (w :: t) j = mWord l t (j + 1) := if_pos hd
    rw [hr', e]
    exact Says.thru (fin_yes (g1 := g.to s) h hd (by rw [hst]; exact h2 _)) (h3 hk2)
  rcases hr with ⟨h1, h2⟩ | ⟨h1, h2⟩ | ⟨h1, h2⟩ | ⟨h1, h2⟩ | ⟨h1, rfl⟩ | ⟨h1, rfl⟩
  · refine first 110 .n h1 (by decide) (fun y => rfl) _ _ h2 (fun q1 => ?_)
    refine says_want h (want := 117) (s2 := .nu) (by simp) (by simp) (fun _ _ => rfl) (by decide) l _ q1 _ (fun q2 => ?_)
    refine says_want h (want := 108) (s2 := .nul) (by simp) (by simp) (fun _ _ => rfl) (by decide) l _ q2 _ (fun q3 => ?_)
    exact says_want h (want := 108) (s2 := .ev) (by simp) (by simp) (fun _ _ => rfl) (by decide) l _ q3 _ (fun q4 => says_end h l _ q4)
  · refine first 116 .t h1 (by decide) (fun y => rfl) _ _ h2 (fun q1 => ?_)
    refine says_want h (want := 114) (s2 := .tr) (by simp) (by simp) (fun _ _ => rfl) (by decide) l _ q1 _ (fun q2 => ?_)
    refine says_want h (want := 117) (s2 := .tru) (by simp) (by simp) (fun _ _ => rfl) (by decide) l _ q2 _ (fun q3 => ?_)
    exact says_want h (want := 101) (s2 := .ev) (by simp) (by simp) (fun _ _ => rfl) (by decide) l _ q3 _ (fun q4 => says_end h l _ q4)
  · refine first 102 .f h1 (by decide) (fun y => rfl) _ _ h2 (fun q1 => ?_)
    refine says_want h (want := 97) (s2 := .fa) (by simp) (by simp) (fun _ _ => rfl) (by decide) l _ q1 _ (fun q2 => ?_)
    refine says_want h (want := 108) (s2 := .fal) (by simp) (by simp) (fun _ _ => rfl) (by decide) l _ q2 _ (fun q3 => ?_)
    refine says_want h (want := 115) (s2 := .fals) (by simp) (by simp) (fun _ _ => rfl) (by decide) l _ q3 _ (fun q4 => ?_)
    exact says_want h (want := 101) (s2 := .ev) (by simp) (by simp) (fun _ _ => rfl) (by decide) l _ q4 _ (fun q5 => says_end h l _ q5)
  · obtain ⟨d, hd, hde⟩ := seeB_get (c := 34) h1 (by decide)
    have hd34 : d = 34 := UInt8.toNat_inj.1 hde
    rw [hd34] at hd
    have hgto : g = g.to .bv := by cases g; simp only at hs; subst hs; rfl
    have hno : ∀ c, l[j]? = some c → c ≠ 34 → ∀ y, ∃ g1, (stepC (g.to .bv) y c.toNat).1 = Cfg.fail g1 y := fun c hc hne => by
      rw [hd] at hc
      cases hc
      exact absurd rfl hne
    have hq := fun (r : Bool × Nat) (hq : QRel true l j r) => says_quoted h (s := .bv) (by simp) (by simp) hj hq (fun y => rfl) hno (fun y => ⟨g.to .bv, h.top, .inl h.er, rfl⟩)
    rw [← hgto] at hq
    rcases h2 with ⟨p, hp, rfl⟩ | ⟨p, hp, rfl⟩
    · obtain ⟨_, q1, _, q3⟩ := hq _ hp
      exact ⟨q1, fun e => (by cases e), fun e => q3 e⟩
    · obtain ⟨_, q1, q2, _⟩ := hq _ hp
      obtain ⟨_, _, q4, q5⟩ := q2 rfl
      have hk2 := (List.getElem?_eq_some_iff.1 q4).1
      have e : mNeed l 34 34 p = (true, p + 1) := by
        unfold mNeed
        simp only at q4
        rw [q4]
        exact if_pos ⟨by decide, by decide⟩
      rw [e]
      exact Says.thru q5 (says_end h l _ hk2)
  · have hlt : j < l.length := seeB_lt (by omega)
    exact says_number h l j hlt h1 (fun y c _ => hst y c)
  · refine ⟨hj, fun e => (by cases e), fun _ => ?_⟩
    refine fin_no h hj (fun c hc => ⟨g, ?_⟩) ⟨g, h.top, .inl h.er, by rw [hst]; unfold stepBv; rw [if_pos (by unfold isSp; omega)]⟩
    have hcs := seeB_some hc
    rw [hcs] at h1 hb
    rw [hst]
    unfold stepBv
    rw [if_neg (hsp c hc), if_neg (by omega), if_neg (by omega), if_neg (by omega), if_neg (by omega), if_neg (by omega), if_neg (by omega), if_neg (by omega), if_neg (by omega), if_neg (by omega)]

/-- What 'name' reads at a place that is no white space. -/
def NameR (l : List UInt8) (j : Nat) (r : Bool × Nat) : Prop :=
  (r = (false, j) ∧ seeB l j ≠ 34) ∨ (∃ p, QRel true l j (false, p) ∧ r = (false, p)) ∨ (∃ p, QRel true l j (true, p) ∧ r = mNeed l 58 58 (mSpace l (p + 1)))

theorem says_name {g : Cfg} (h : On g) {l : List UInt8} {j : Nat} (hj : j ≤ l.length) (hsp : ∀ c, l[j]? = some c → ¬ isSp c.toNat) {r : Bool × Nat} (hr : NameR l j r) : Says (g.push .bs 0) l j (g.push .bv 1) r ∧ j ≤ r.2 := by
  have hB : On (g.push .bs 0) := h.push (fun e => by cases e) (by simp)
  have hno : ∀ c, l[j]? = some c → c ≠ 34 → ∀ y, ∃ g1, (stepC (g.push .bs 0) y c.toNat).1 = Cfg.fail g1 y := fun c hc hne y => ⟨g.push .bs 0, by
    show (stepBs _ y _).1 = _
    unfold stepBs
    rw [if_neg (hsp c hc), if_neg (show ¬ c.toNat = 34 from fun e => hne (UInt8.toNat_inj.1 e))]⟩
  have hq := fun (r : Bool × Nat) (hq : QRel true l j r) => says_quoted hB (s := .bs) (by simp) (by simp) hj hq (fun y => rfl) hno (fun y => ⟨g.push .bs 0, hB.top, .inl hB.er, rfl⟩)
  have hto : (g.push .bs 0).to .bs = g.push .bs 0 := rfl
  have hto2 : (g.push .bs 0).to .ev = g.push .ev 0 := rfl
  rw [hto] at hq
  rcases hr with ⟨rfl, hne⟩ | ⟨p, hp, rfl⟩ | ⟨p, hp, rfl⟩
  · refine ⟨⟨hj, fun e => (by cases e), fun _ => fin_no hB hj (fun c hc => hno c hc (fun e => hne (by rw [seeB_some hc, e]; rfl)) _) ⟨g.push .bs 0, hB.top, .inl hB.er, rfl⟩⟩, Nat.le_refl _⟩
  · obtain ⟨q0, q1, _, q3⟩ := hq _ hp
    exact ⟨⟨q1, fun e => (by cases e), q3⟩, q0⟩
  · obtain ⟨q0, q1, q2, _⟩ := hq _ hp
    obtain ⟨_, _, q4, q5⟩ := q2 rfl
    have hk2 := (List.getElem?_eq_some_iff.1 q4).1
    simp only at hk2 q0 q5
    rw [hto2] at q5
    have e1 := q5.trans (space_ev h 0 l (p + 1))
    have hle := mSpace_len (l := l) (k := p + 1) hk2
    have hge := mSpace_ge l (p + 1)
    have hE : On (g.push .ev 0) := h.push (fun e => by cases e) (by simp)
    refine ⟨Says.thru e1 ?_, ?_⟩
    · cases hd : l[mSpace l (p + 1)]? with
      | none =>
        have e : mNeed l 58 58 (mSpace l (p + 1)) = (false, mSpace l (p + 1)) := by unfold mNeed; rw [hd]
        rw [e]
        exact ⟨hle, fun e => (by cases e), fun _ => fin_no hE hle (fun c hc => by rw [hd] at hc; cases hc) ⟨_, hE.top, .inl hE.er, step_ev_sp g 0 _ 32 (by unfold isSp; omega)⟩⟩
      | some c =>
        by_cases hc : c = 58
        · have e : mNeed l 58 58 (mSpace l (p + 1)) = (true, mSpace l (p + 1) + 1) := by unfold mNeed; rw [hd, hc]; exact if_pos ⟨by decide, by decide⟩
          rw [e]
          have hk3 := (List.getElem?_eq_some_iff.1 hd).1
          refine ⟨hk3, fun _ => fin_yes hE hd (by rw [hc]; exact step_colon g _), fun e => by cases e⟩
        · have hcn : ¬ c.toNat = 58 := fun e => hc (UInt8.toNat_inj.1 e)
          have e : mNeed l 58 58 (mSpace l (p + 1)) = (false, mSpace l (p + 1)) := by unfold mNeed; rw [hd]; exact if_neg (by omega)
          rw [e]
          refine ⟨hle, fun e => (by cases e), fun _ => fin_no hE hle (fun c' hc' => ⟨g.push .ev 0, ?_⟩) ⟨_, hE.top, .inl hE.er, step_ev_sp g 0 _ 32 (by unfold isSp; omega)⟩⟩
          have hsp2 := not_sp_at l (p + 1) c' hc'
          rw [hd] at hc'
          cases hc'
          exact step_ev_no g 0 _ _ hsp2 (fun _ => hcn) (fun e => by cases e) (fun e => by cases e)
    · unfold mNeed
      split
      · split
        · show j ≤ _ + 1; omega
        · show j ≤ mSpace l (p + 1); omega
      · show j ≤ mSpace l (p + 1); omega

/-- Behind a member or an element: a comma, the end, or a wrong byte. -/
theorem says_behind {g : Cfg} (h : On g) {l : List UInt8} {k p : Nat} {shut : UInt8} (hp : (p = 1 ∧ shut = 125) ∨ (p = 2 ∧ shut = 93)) (hk : k ≤ l.length) :
    (l[mSpace l k]? = some shut → Says (g.push .ev p) l k (after g) (true, mSpace l k + 1)) ∧
    (l[mSpace l k]? ≠ some shut → (mNeed l 44 44 (mSpace l k)).1 = true → mSpace l k + 1 ≤ l.length ∧ fin (g.push .ev p) k (l.drop k) = fin (g.push (if p = 1 then .bs else .bv) (if p = 1 then 0 else 2)) (mSpace l k + 1) (l.drop (mSpace l k + 1))) ∧
    (l[mSpace l k]? ≠ some shut → (mNeed l 44 44 (mSpace l k)).1 = false → ∀ g1, Says (g.push .ev p) l k g1 (false, mSpace l k)) := by
  have hE : On (g.push .ev p) := h.push (fun e => by cases e) (by simp)
  have hle := mSpace_len hk
  refine ⟨fun hd => Says.thru (space_ev h p l k) ?_, fun hd hn => ?_, fun hd hn g1 => Says.thru (space_ev h p l k) ?_⟩
  · have hk3 := (List.getElem?_eq_some_iff.1 hd).1
    refine ⟨hk3, fun _ => fin_yes hE hd ?_, fun e => by cases e⟩
    rcases hp with ⟨rfl, rfl⟩ | ⟨rfl, rfl⟩
    · exact step_shut1 g _
    · exact step_shut2 g _
  · obtain ⟨c, hc, q1, q2⟩ := mNeed_pos hn
    have hk3 := (List.getElem?_eq_some_iff.1 hc).1
    have hc44 : c.toNat = 44 := by omega
    refine ⟨hk3, (space_ev h p l k).trans (fin_yes hE hc ?_)⟩
    rw [hc44]
    rcases hp with ⟨rfl, rfl⟩ | ⟨rfl, rfl⟩
    · exact step_comma1 g _
    · exact step_comma2 g _
  · refine ⟨hle, fun e => (by cases e), fun _ => fin_no hE hle (fun c hc => ⟨g.push .ev p, ?_⟩) ⟨_, hE.top, .inl hE.er, step_ev_sp g p _ 32 (by unfold isSp; omega)⟩⟩
    have hsp2 := not_sp_at l k c hc
    have h44 : c.toNat ≠ 44 := fun e => mNeed_neg (by rw [hn]; simp) c hc ⟨by omega, by omega⟩
    have hsh : c ≠ shut := fun e => hd (by rw [hc, e])
    rcases hp with ⟨rfl, rfl⟩ | ⟨rfl, rfl⟩
    · exact step_ev_no g 1 _ _ hsp2 (fun e => by cases e) (fun _ => ⟨h44, fun e => hsh (UInt8.toNat_inj.1 e)⟩) (fun e => by cases e)
    · exact step_ev_no g 2 _ _ hsp2 (fun e => by cases e) (fun e => by cases e) (fun _ => ⟨h44, fun e => hsh (UInt8.toNat_inj.1 e)⟩)

end Go.Proofs.YtlgmdcaoogiooaaGreatDoor
