/- What a string of the reference stands for, in plain words; it is what unquoting gives. -/
import Derived.Test.YtjjbgoknmofajaaDoorUnqS
import Derived.Test.YtjjbgoknmofajaaDoorQdR
namespace Go.Proofs.YtjjbgoknmofajaaDoor.Wire
open Go.RowKit Go.Proofs.YtjjbgoknmofajaaDoor

/-- The number of an escape of four digits at the beginning, if there is one. -/
def unitS (s : List UInt8) : Option Nat := if 6 ≤ s.length ∧ s.take 2 = [92, 117] then hex4 ((s.drop 2).take 4) else none

/-- What an escape stands for, how long it is, and whether it stands for a character. -/
def escS (s : List UInt8) : List UInt8 × Nat × Bool :=
  match s with
  | _ :: r :: _ =>
    if r = 98 then ([8], 2, true) else if r = 102 then ([12], 2, true) else if r = 110 then ([10], 2, true) else if r = 114 then ([13], 2, true) else if r = 116 then ([9], 2, true)
    else if r = 117 then
      if (unitS s).getD 0 < 55296 ∨ 57343 < (unitS s).getD 0 then (enc ((unitS s).getD 0), 6, true)
      else if (unitS s).getD 0 < 56320 ∧ (unitS (s.drop 6)).isSome = true ∧ 56320 ≤ (unitS (s.drop 6)).getD 0 ∧ (unitS (s.drop 6)).getD 0 ≤ 57343 then (enc (65536 + ((unitS s).getD 0 - 55296) * 1024 + ((unitS (s.drop 6)).getD 0 - 56320)), 12, true)
      else (bad, 6, false)
    else ([r], 2, true)
  | _ => ([], 2, true)

/-- Decoding: no byte is broken, and something stands behind each backslash. -/
inductive Dec : List UInt8 → List UInt8 → Prop
  | nil : Dec [] []
  | esc {r : UInt8} {t q : List UInt8} : Dec ((92 :: r :: t).drop (escS (92 :: r :: t)).2.1) q → Dec (92 :: r :: t) ((escS (92 :: r :: t)).1 ++ q)
  | char {c : UInt8} {t q : List UInt8} {n : Nat} : c ≠ 92 → CharAt (c :: t) n → Dec ((c :: t).drop n) q → Dec (c :: t) ((c :: t).take n ++ q)

theorem hexd_same : hexD = hexd := rfl

theorem hexAt_some {l : List UInt8} {k : Nat} (h : 0 ≤ hexAt l k) : ∃ c d, l[k]? = some c ∧ hexd c.toNat = some d ∧ hexAt l k = (d : Int) := by
  unfold hexAt at h ⊢
  cases hc : l[k]? with
  | none => rw [hc] at h; simp at h
  | some c =>
    rw [hc] at h
    simp only at h ⊢
    unfold hexI at h ⊢
    cases hd : hexD c.toNat with
    | none => rw [hd] at h; simp at h
    | some d => exact ⟨c, d, rfl, hd, rfl⟩

theorem drop_of_get {l : List UInt8} {k : Nat} {c : UInt8} (h : l[k]? = some c) : l.drop k = c :: l.drop (k + 1) := by
  obtain ⟨hk, e⟩ := List.getElem?_eq_some_iff.1 h
  rw [List.drop_eq_getElem_cons hk, e]

/-- Four digits that stand there. -/
theorem hex4_at {l : List UInt8} {k : Nat} (h0 : 0 ≤ hexAt l k) (h1 : 0 ≤ hexAt l (k + 1)) (h2 : 0 ≤ hexAt l (k + 1 + 1)) (h3 : 0 ≤ hexAt l (k + 1 + 1 + 1)) :
    ∃ a b c d : UInt8, ∃ v : Nat, l.drop k = a :: b :: c :: d :: l.drop (k + 4) ∧ hex4 [a, b, c, d] = some v ∧ (v : Int) = ((hexAt l k * 16 + hexAt l (k + 1)) * 16 + hexAt l (k + 1 + 1)) * 16 + hexAt l (k + 1 + 1 + 1) := by
  obtain ⟨a, x, ha, hx, e0⟩ := hexAt_some h0
  obtain ⟨b, y, hb, hy, e1⟩ := hexAt_some h1
  obtain ⟨c, z, hc, hz, e2⟩ := hexAt_some h2
  obtain ⟨d, u, hd, hu, e3⟩ := hexAt_some h3
  refine ⟨a, b, c, d, (((0 * 16 + x) * 16 + y) * 16 + z) * 16 + u, ?_, ?_, ?_⟩
  · rw [drop_of_get ha, drop_of_get hb, drop_of_get hc, drop_of_get hd]
  · show (if 4 = 4 then hexFold 0 [a, b, c, d] else none) = _
    rw [if_pos rfl]
    simp only [hexFold, hx, hy, hz, hu]
  · rw [e0, e1, e2, e3]
    omega

theorem mHexs_cons {l : List UInt8} {a b : Int} {t : List (Int × Int)} {k : Nat} {k' : Nat} (h : mHexs l ((a, b) :: t) k = (true, k')) : a ≤ hexAt l k ∧ hexAt l k ≤ b ∧ mHexs l t (k + 1) = (true, k') := by
  cases hr : (mHex l a b k).1 with
  | true => rw [mHexs_true hr] at h; exact ⟨(mHex_true hr).2.1, (mHex_true hr).2.2, h⟩
  | false => rw [mHexs_false hr] at h; cases h

end Go.Proofs.YtjjbgoknmofajaaDoor.Wire
namespace Go.Proofs.YtjjbgoknmofajaaDoor
open Go.RowKit Go.Proofs.YtjjbgoknmofajaaDoor.Wire

theorem QRun.le {lo : Bool} {l : List UInt8} {k : Nat} {r : Bool × Nat} (h : QRun lo l k r) : k ≤ r.2 := by
  induction h with
  | eof _ => exact Nat.le_refl _
  | done _ => exact Nat.le_refl _
  | @escNo k k' _ h => have := mEscape_le lo l (k + 1); rw [h] at this; exact Nat.le_trans (Nat.le_succ _) this
  | @esc k k' r _ h _ ih => have := mEscape_le lo l (k + 1); rw [h] at this; exact Nat.le_trans (Nat.le_trans (Nat.le_succ _) this) ih
  | ctrl _ _ => exact Nat.le_refl _
  | plain _ _ _ _ _ _ ih => exact Nat.le_trans (Nat.le_succ _) ih
  | rune _ _ _ h _ ih =>
    obtain ⟨n, _, _, e⟩ := mRune_yes (l := l) (by rw [h])
    rw [h] at e
    cases e
    exact Nat.le_trans (Nat.le_add_right _ _) ih
  | @runeNo k k' c _ _ _ h =>
    unfold mRune at h
    cases hs : runeSpec (seeB l k) with
    | none => rw [hs] at h; cases h; exact Nat.le_refl _
    | some rs =>
      rw [hs] at h
      have key : ∀ (rs : List (Int × Int)) (k : Nat), k ≤ (mNeeds l rs k).2 := by
        intro rs
        induction rs with
        | nil => intro k; exact Nat.le_refl _
        | cons p t ih =>
          intro k
          obtain ⟨a, b⟩ := p
          cases hr : (mNeed l a b k).1 with
          | true => rw [mNeeds_true hr]; exact Nat.le_trans (Nat.le_succ _) (ih (k + 1))
          | false => rw [mNeeds_false hr]; exact Nat.le_refl _
      have := key rs (k + 1)
      simp only at h
      rw [h] at this
      exact Nat.le_trans (Nat.le_succ _) this

end Go.Proofs.YtjjbgoknmofajaaDoor
namespace Go.Proofs.YtjjbgoknmofajaaDoor.Wire
open Go.RowKit Go.Proofs.YtjjbgoknmofajaaDoor

/-- What 'escape' has read when it says yes (strictly). -/
theorem escape_cases {l : List UInt8} {k k' : Nat} (h : mEscape false l k = (true, k')) :
    (simpleE (seeB l k) = true ∧ k' = k + 1) ∨
    (seeB l k = 117 ∧ k' = k + 5 ∧ ∃ a b c d v, l.drop (k + 1) = a :: b :: c :: d :: l.drop (k + 5) ∧ hex4 [a, b, c, d] = some v ∧ ¬(55296 ≤ v ∧ v < 57344)) ∨
    (seeB l k = 117 ∧ k' = k + 11 ∧ ∃ a b c d v a' b' c' d' v', l.drop (k + 1) = a :: b :: c :: d :: 92 :: 117 :: a' :: b' :: c' :: d' :: l.drop (k + 11) ∧ hex4 [a, b, c, d] = some v ∧ hex4 [a', b', c', d'] = some v' ∧ 55296 ≤ v ∧ v < 56320 ∧ 56320 ≤ v' ∧ v' < 57344) := by
  unfold mEscape at h
  by_cases h1 : simpleE (seeB l k) = true
  · rw [if_pos h1] at h
    cases h
    exact .inl ⟨h1, rfl⟩
  rw [if_neg h1] at h
  by_cases h2 : seeB l k = 117
  · rw [if_pos h2] at h
    obtain ⟨u, hu⟩ : ∃ u, mUnit false false l (k + 1) = u := ⟨_, rfl⟩
    rw [hu] at h
    obtain ⟨ok, k1, half⟩ := u
    simp only at h
    -- the first unit
    have hfirst : ok = true → k1 = k + 5 ∧ ∃ a b c d v, l.drop (k + 1) = a :: b :: c :: d :: l.drop (k + 5) ∧ hex4 [a, b, c, d] = some v ∧ (half = false → ¬(55296 ≤ v ∧ v < 57344)) ∧ (half = true → 55296 ≤ v ∧ v < 56320) := by
      rintro rfl
      unfold mUnit at hu
      rw [if_neg (by decide), if_neg (by decide)] at hu
      by_cases h13 : hexAt l (k + 1) = 13
      · rw [if_pos h13] at hu
        obtain ⟨m, hm⟩ : ∃ m, mHexs l [(0, 15), (0, 11), (0, 15), (0, 15)] (k + 1) = m := ⟨_, rfl⟩
        rw [hm] at hu
        obtain ⟨mo, mk⟩ := m
        simp only [Prod.mk.injEq] at hu
        obtain ⟨rfl, rfl, hhalf⟩ := hu
        have hk1 := mHexs_lt _ _ _ hm
        obtain ⟨p0, p0', hm⟩ := mHexs_cons hm
        obtain ⟨p1, p1', hm⟩ := mHexs_cons hm
        obtain ⟨p2, p2', hm⟩ := mHexs_cons hm
        obtain ⟨p3, p3', hm⟩ := mHexs_cons hm
        obtain ⟨a, b, c, d, v, e1, e2, e3⟩ := hex4_at (k := k + 1) (by omega) (by omega) (by omega) (by omega)
        refine ⟨by simp at hk1; omega, a, b, c, d, v, by simpa [Nat.add_assoc] using e1, e2, fun hf => ?_, fun ht => ?_⟩
        · rw [hf] at hhalf
          have : ¬ 8 ≤ hexAt l (k + 1 + 1) := by simpa using hhalf
          omega
        · rw [ht] at hhalf
          have : 8 ≤ hexAt l (k + 1 + 1) := by simpa using hhalf
          omega
      · rw [if_neg h13] at hu
        obtain ⟨m, hm⟩ : ∃ m, mHexs l [(0, 15), (0, 15), (0, 15), (0, 15)] (k + 1) = m := ⟨_, rfl⟩
        rw [hm] at hu
        obtain ⟨mo, mk⟩ := m
        simp only [Prod.mk.injEq] at hu
        obtain ⟨rfl, rfl, hhalf⟩ := hu
        have hk1 := mHexs_lt _ _ _ hm
        obtain ⟨p0, p0', hm⟩ := mHexs_cons hm
        obtain ⟨p1, p1', hm⟩ := mHexs_cons hm
        obtain ⟨p2, p2', hm⟩ := mHexs_cons hm
        obtain ⟨p3, p3', hm⟩ := mHexs_cons hm
        obtain ⟨a, b, c, d, v, e1, e2, e3⟩ := hex4_at (k := k + 1) (by omega) (by omega) (by omega) (by omega)
        refine ⟨by simp at hk1; omega, a, b, c, d, v, by simpa [Nat.add_assoc] using e1, e2, fun _ => by omega, fun ht => ?_⟩
        rw [ht] at hhalf
        cases hhalf
    by_cases hc : ok = true ∧ half = true
    · obtain ⟨rfl, rfl⟩ := hc
      rw [if_pos ⟨rfl, rfl⟩] at h
      obtain ⟨rfl, a, b, c, d, v, e1, e2, _, e3⟩ := hfirst rfl
      have e3 := e3 rfl
      cases hn1 : (mNeed l 92 92 (k + 5)).1 with
      | false => rw [hn1, if_neg (by decide)] at h; cases h
      | true =>
        rw [hn1, if_pos rfl] at h
        cases hn2 : (mNeed l 117 117 (k + 5 + 1)).1 with
        | false => rw [hn2, if_neg (by decide)] at h; cases h
        | true =>
          rw [hn2, if_pos rfl] at h
          obtain ⟨x1, hx1, hxl, hxh, _⟩ := need_true hn1
          obtain ⟨x2, hx2, hyl, hyh, _⟩ := need_true hn2
          have hx1' : x1 = 92 := UInt8.toNat_inj.1 (by show x1.toNat = 92; omega)
          have hx2' : x2 = 117 := UInt8.toNat_inj.1 (by show x2.toNat = 117; omega)
          subst hx1' hx2'
          unfold mUnit at h
          rw [if_neg (by decide), if_pos rfl] at h
          obtain ⟨m, hm⟩ : ∃ m, mHexs l [(13, 13), (12, 15), (0, 15), (0, 15)] (k + 5 + 1 + 1) = m := ⟨_, rfl⟩
          rw [hm] at h
          obtain ⟨mo, mk⟩ := m
          simp only [Prod.mk.injEq] at h
          obtain ⟨rfl, rfl⟩ := h
          have hk1 := mHexs_lt _ _ _ hm
          obtain ⟨p0, p0', hm⟩ := mHexs_cons hm
          obtain ⟨p1, p1', hm⟩ := mHexs_cons hm
          obtain ⟨p2, p2', hm⟩ := mHexs_cons hm
          obtain ⟨p3, p3', hm⟩ := mHexs_cons hm
          obtain ⟨a', b', c', d', v', f1, f2, f3⟩ := hex4_at (l := l) (k := k + 5 + 1 + 1) (by omega) (by omega) (by omega) (by omega)
          refine .inr (.inr ⟨h2, by simp only [List.length_cons, List.length_nil] at hk1; omega, a, b, c, d, v, a', b', c', d', v', ?_, e2, f2, e3.1, e3.2, by omega, by omega⟩)
          rw [e1, drop_of_get hx1, drop_of_get hx2, f1]
    · rw [if_neg hc] at h
      simp only [Prod.mk.injEq] at h
      obtain ⟨rfl, rfl⟩ := h
      have hh : half = false := by
        cases half with
        | false => rfl
        | true => exact absurd ⟨rfl, rfl⟩ hc
      obtain ⟨e0, a, b, c, d, v, e1, e2, e3, _⟩ := hfirst rfl
      exact .inr (.inl ⟨h2, e0, a, b, c, d, v, e1, e2, e3 hh⟩)
  · rw [if_neg h2] at h
    cases h

theorem see_get {l : List UInt8} {k : Nat} {c : UInt8} (h : l[k]? = some c) : seeB l k = (c.toNat : Int) := by unfold seeB; rw [h]

theorem see_back {l : List UInt8} {k : Nat} {c : UInt8} (hc : 0 < c.toNat) (h : seeB l k = (c.toNat : Int)) : l[k]? = some c := by
  unfold seeB at h
  cases hl : l[k]? with
  | none => rw [hl] at h; simp at h; omega
  | some x =>
    rw [hl] at h
    simp only at h
    rw [UInt8.toNat_inj.1 (show x.toNat = c.toNat by omega)]

theorem simple_byte {l : List UInt8} {k : Nat} (h : simpleE (seeB l k) = true) : ∃ r : UInt8, l[k]? = some r ∧ (r = 34 ∨ r = 92 ∨ r = 47 ∨ r = 98 ∨ r = 102 ∨ r = 110 ∨ r = 114 ∨ r = 116) := by
  simp only [simpleE, Bool.or_eq_true, beq_iff_eq] at h
  rcases h with ((((((h | h) | h) | h) | h) | h) | h) | h
  · exact ⟨34, see_back (by decide) h, by simp⟩
  · exact ⟨92, see_back (by decide) h, by simp⟩
  · exact ⟨47, see_back (by decide) h, by simp⟩
  · exact ⟨98, see_back (by decide) h, by simp⟩
  · exact ⟨102, see_back (by decide) h, by simp⟩
  · exact ⟨110, see_back (by decide) h, by simp⟩
  · exact ⟨114, see_back (by decide) h, by simp⟩
  · exact ⟨116, see_back (by decide) h, by simp⟩

theorem esc_simple {r : UInt8} (h : r = 34 ∨ r = 92 ∨ r = 47 ∨ r = 98 ∨ r = 102 ∨ r = 110 ∨ r = 114 ∨ r = 116) (t : List UInt8) : ∃ d, simpleX r = some d ∧ escS (92 :: r :: t) = ([d], 2, true) := by
  rcases h with rfl | rfl | rfl | rfl | rfl | rfl | rfl | rfl
  · exact ⟨34, rfl, rfl⟩
  · exact ⟨92, rfl, rfl⟩
  · exact ⟨47, rfl, rfl⟩
  · exact ⟨8, rfl, rfl⟩
  · exact ⟨12, rfl, rfl⟩
  · exact ⟨10, rfl, rfl⟩
  · exact ⟨13, rfl, rfl⟩
  · exact ⟨9, rfl, rfl⟩

theorem unitS_at {a b c d : UInt8} {t : List UInt8} : unitS (92 :: 117 :: a :: b :: c :: d :: t) = hex4 [a, b, c, d] := by
  unfold unitS
  rw [if_pos ⟨by simp, rfl⟩]
  rfl

theorem esc_unit {a b c d : UInt8} {t : List UInt8} {v : Nat} (hv : hex4 [a, b, c, d] = some v) (hs : ¬(55296 ≤ v ∧ v < 57344)) : escS (92 :: 117 :: a :: b :: c :: d :: t) = (enc v, 6, true) := by
  show (if (unitS (92 :: 117 :: a :: b :: c :: d :: t)).getD 0 < 55296 ∨ 57343 < (unitS (92 :: 117 :: a :: b :: c :: d :: t)).getD 0 then (enc ((unitS (92 :: 117 :: a :: b :: c :: d :: t)).getD 0), 6, true) else _) = _
  rw [unitS_at, hv]
  exact if_pos (by show v < 55296 ∨ 57343 < v; omega)

theorem esc_pair {a b c d a' b' c' d' : UInt8} {t : List UInt8} {v v' : Nat} (hv : hex4 [a, b, c, d] = some v) (hv' : hex4 [a', b', c', d'] = some v') (h1 : 55296 ≤ v) (h2 : v < 56320) (h3 : 56320 ≤ v') (h4 : v' < 57344) :
    escS (92 :: 117 :: a :: b :: c :: d :: 92 :: 117 :: a' :: b' :: c' :: d' :: t) = (enc ((v - 55296) * 1024 + (v' - 56320) + 65536), 12, true) := by
  have e1 : unitS (92 :: 117 :: a :: b :: c :: d :: 92 :: 117 :: a' :: b' :: c' :: d' :: t) = some v := by rw [unitS_at, hv]
  have e2 : unitS ((92 :: 117 :: a :: b :: c :: d :: 92 :: 117 :: a' :: b' :: c' :: d' :: t).drop 6) = some v' := by
    show unitS (92 :: 117 :: a' :: b' :: c' :: d' :: t) = some v'
    rw [unitS_at, hv']
  show (if (unitS (92 :: 117 :: a :: b :: c :: d :: 92 :: 117 :: a' :: b' :: c' :: d' :: t)).getD 0 < 55296 ∨ 57343 < (unitS (92 :: 117 :: a :: b :: c :: d :: 92 :: 117 :: a' :: b' :: c' :: d' :: t)).getD 0 then _
    else if (unitS (92 :: 117 :: a :: b :: c :: d :: 92 :: 117 :: a' :: b' :: c' :: d' :: t)).getD 0 < 56320 ∧ (unitS ((92 :: 117 :: a :: b :: c :: d :: 92 :: 117 :: a' :: b' :: c' :: d' :: t).drop 6)).isSome = true ∧ 56320 ≤ (unitS ((92 :: 117 :: a :: b :: c :: d :: 92 :: 117 :: a' :: b' :: c' :: d' :: t).drop 6)).getD 0 ∧ (unitS ((92 :: 117 :: a :: b :: c :: d :: 92 :: 117 :: a' :: b' :: c' :: d' :: t).drop 6)).getD 0 ≤ 57343
      then (enc (65536 + ((unitS (92 :: 117 :: a :: b :: c :: d :: 92 :: 117 :: a' :: b' :: c' :: d' :: t)).getD 0 - 55296) * 1024 + ((unitS ((92 :: 117 :: a :: b :: c :: d :: 92 :: 117 :: a' :: b' :: c' :: d' :: t).drop 6)).getD 0 - 56320)), 12, true) else _) = _
  rw [e1, e2]
  simp only [Option.getD_some, Option.isSome_some]
  rw [if_neg (by omega), if_pos ⟨h2, trivial, h3, by omega⟩]
  rw [show 65536 + (v - 55296) * 1024 + (v' - 56320) = (v - 55296) * 1024 + (v' - 56320) + 65536 by omega]

/-- What lies between k and the end is what lies ahead of the last quotation mark. -/
theorem split_last {l : List UInt8} {k e : Nat} (hk : k ≤ e) (he : l[e]? = some 34) (hl : l.length = e + 1) : l.drop k = (l.drop k).take (e - k) ++ [34] := by
  have h1 := List.take_append_drop (e - k) (l.drop k)
  rw [List.drop_drop, show k + (e - k) = e by omega] at h1
  have h2 : l.drop e = [34] := by
    rw [drop_of_get he, List.drop_of_length_le (by omega)]
  rw [h2] at h1
  exact h1.symm

theorem take_cons (c : UInt8) (t : List UInt8) (n : Nat) (h : 0 < n) : (c :: t).take n = c :: t.take (n - 1) := by
  obtain ⟨m, rfl⟩ : ∃ m, n = m + 1 := ⟨n - 1, by omega⟩
  rfl

set_option maxRecDepth 100000 in
/-- A string that is read strictly stands for what unquoting gives. -/
theorem run_dec {l : List UInt8} {k : Nat} {r : Bool × Nat} (h : QRun false l k r) (hr : r.1 = true) (he : l.length = r.2 + 1) (h34 : l[r.2]? = some 34) :
    ∃ q, Dec ((l.drop k).take (r.2 - k)) q ∧ Unq (l.drop k) q true := by
  induction h with
  | eof _ => cases hr
  | @done k hk =>
    refine ⟨[], ?_, ?_⟩
    · show Dec ((l.drop k).take (k - k)) []
      rw [Nat.sub_self]
      exact .nil
    · have hd := drop_of_get hk
      have hz : l.drop (k + 1) = [] := List.drop_of_length_le (by show l.length ≤ k + 1; rw [he]; exact Nat.le_refl _)
      rw [hz] at hd
      rw [hd]
      exact .stop (step_quote rfl)
  | escNo _ _ => cases hr
  | ctrl _ _ => cases hr
  | runeNo _ _ _ _ => cases hr
  | @esc k k' r hk hesc hrun ih =>
    obtain ⟨q, hq, hu⟩ := ih hr he h34
    have hle := hrun.le
    have hd := drop_of_get hk
    rcases escape_cases hesc with ⟨hs, rfl⟩ | ⟨h117, rfl, a, b, c, d, v, e1, e2, e3⟩ | ⟨h117, rfl, a, b, c, d, v, a', b', c', d', v', e1, e2, e3, g1, g2, g3, g4⟩
    · obtain ⟨x, hx, hx8⟩ := simple_byte hs
      have hd2 := drop_of_get hx
      have hl2 : l.drop k = 92 :: x :: l.drop (k + 1 + 1) := by rw [hd, hd2]
      have htk : (l.drop k).take (r.2 - k) = 92 :: x :: (l.drop (k + 1 + 1)).take (r.2 - (k + 1 + 1)) := by
        rw [hl2, take_cons _ _ _ (by omega), take_cons _ _ _ (by omega)]
        congr 3
      obtain ⟨y, hy1, hy2⟩ := esc_simple hx8 ((l.drop (k + 1 + 1)).take (r.2 - (k + 1 + 1)))
      refine ⟨[y] ++ q, ?_, ?_⟩
      · rw [htk]
        have := Dec.esc (r := x) (t := (l.drop (k + 1 + 1)).take (r.2 - (k + 1 + 1))) (q := q) (by rw [hy2]; exact hq)
        rw [hy2] at this
        exact this
      · have hst := step_simple (l := l.drop k) hl2 hy1
        have := Unq.go hst (q := q) (b := true) (by rw [hl2]; exact hu)
        simpa using this
    · have h2 := see_back (c := 117) (by decide) h117
      have hl2 : l.drop k = 92 :: 117 :: a :: b :: c :: d :: l.drop (k + 1 + 5) := by rw [hd, drop_of_get h2, e1]
      have htk : (l.drop k).take (r.2 - k) = 92 :: 117 :: a :: b :: c :: d :: (l.drop (k + 1 + 5)).take (r.2 - (k + 1 + 5)) := by
        rw [hl2, take_cons _ _ _ (by omega), take_cons _ _ _ (by omega), take_cons _ _ _ (by omega), take_cons _ _ _ (by omega), take_cons _ _ _ (by omega), take_cons _ _ _ (by omega)]
        congr 7
      have hes := esc_unit (t := (l.drop (k + 1 + 5)).take (r.2 - (k + 1 + 5))) e2 e3
      refine ⟨enc v ++ q, ?_, ?_⟩
      · rw [htk]
        have := Dec.esc (r := 117) (t := a :: b :: c :: d :: (l.drop (k + 1 + 5)).take (r.2 - (k + 1 + 5))) (q := q) (by simp only [hes]; exact hq)
        simp only [hes] at this
        exact this
      · have hst : step (l.drop k) = .go 6 (enc v) true := by
          rw [step_u_val (v := v) hl2 (by rw [hl2]; simp) (by rw [hl2]; simpa using e2)]
          exact unit_plain e3
        have := Unq.go hst (q := q) (b := true) (by rw [hl2]; exact hu)
        simpa using this
    · have h2 := see_back (c := 117) (by decide) h117
      have hl2 : l.drop k = 92 :: 117 :: a :: b :: c :: d :: 92 :: 117 :: a' :: b' :: c' :: d' :: l.drop (k + 1 + 11) := by rw [hd, drop_of_get h2, e1]
      have htk : (l.drop k).take (r.2 - k) = 92 :: 117 :: a :: b :: c :: d :: 92 :: 117 :: a' :: b' :: c' :: d' :: (l.drop (k + 1 + 11)).take (r.2 - (k + 1 + 11)) := by
        rw [hl2, take_cons _ _ _ (by omega), take_cons _ _ _ (by omega), take_cons _ _ _ (by omega), take_cons _ _ _ (by omega), take_cons _ _ _ (by omega), take_cons _ _ _ (by omega),
          take_cons _ _ _ (by omega), take_cons _ _ _ (by omega), take_cons _ _ _ (by omega), take_cons _ _ _ (by omega), take_cons _ _ _ (by omega), take_cons _ _ _ (by omega)]
        congr 13
      have hes := esc_pair (t := (l.drop (k + 1 + 11)).take (r.2 - (k + 1 + 11))) e2 e3 g1 g2 g3 g4
      refine ⟨enc ((v - 55296) * 1024 + (v' - 56320) + 65536) ++ q, ?_, ?_⟩
      · rw [htk]
        have := Dec.esc (r := 117) (t := a :: b :: c :: d :: 92 :: 117 :: a' :: b' :: c' :: d' :: (l.drop (k + 1 + 11)).take (r.2 - (k + 1 + 11))) (q := q) (by simp only [hes]; exact hq)
        simp only [hes] at this
        exact this
      · have hst : step (l.drop k) = .go 12 (enc ((v - 55296) * 1024 + (v' - 56320) + 65536)) true := by
          rw [step_u_val (v := v) hl2 (by rw [hl2]; simp) (by rw [hl2]; simpa using e2)]
          exact unit_pair (v2 := v') ⟨g1, by omega⟩ (by rw [hl2]; simp) (by rw [hl2]; simpa using e3) (by rw [hl2]; rfl) (by unfold pairV; exact if_pos ⟨g1, g2, g3, g4⟩)
        have := Unq.go hst (q := q) (b := true) (by rw [hl2]; exact hu)
        simpa using this
  | @plain k c r hk h32 hc34 hc92 hlo hrun ih =>
    obtain ⟨q, hq, hu⟩ := ih hr he h34
    have hle := hrun.le
    have h128 : c.toNat < 128 := by
      rcases hlo with h | h
      · exact h
      · cases h
    have hd := drop_of_get hk
    have htk : (l.drop k).take (r.2 - k) = c :: (l.drop (k + 1)).take (r.2 - (k + 1)) := by
      rw [hd, take_cons _ _ _ (by omega)]
      congr 2
    refine ⟨[c] ++ q, ?_, ?_⟩
    · rw [htk]
      exact Dec.char (n := 1) hc92 (.inl ⟨rfl, c, _, rfl, h128⟩) hq
    · have hst := step_char (n := 1) hd hc34 hc92 h32 (by rw [hd]; exact .inl ⟨rfl, c, _, rfl, h128⟩)
      have := Unq.go hst (q := q) (b := true) (by rw [hd]; exact hu)
      rw [hd] at this ⊢
      simpa using this
  | @rune k k' c r hk h128 hlo hm hrun ih =>
    obtain ⟨q, hq, hu⟩ := ih hr he h34
    have hle := hrun.le
    obtain ⟨n, h2, hch, e⟩ := mRune_yes (l := l) (by rw [hm])
    rw [hm] at e
    cases e
    have hd := drop_of_get hk
    have hc34 : c ≠ 34 := fun e => by rw [e] at h128; revert h128; decide
    have hc92 : c ≠ 92 := fun e => by rw [e] at h128; revert h128; decide
    have htk : (l.drop k).take (r.2 - k) = c :: (l.drop (k + 1)).take (r.2 - (k + 1)) := by
      rw [hd, take_cons _ _ _ (by omega)]
      congr 2
    have hch2 : CharAt ((l.drop k).take (r.2 - k)) n := hch.takeN (by omega)
    refine ⟨(l.drop k).take n ++ q, ?_, ?_⟩
    · have e1 : ((l.drop k).take (r.2 - k)).take n = (l.drop k).take n := by rw [List.take_take]; congr 1; omega
      have e2 : ((l.drop k).take (r.2 - k)).drop n = (l.drop (k + n)).take (r.2 - (k + n)) := by rw [List.drop_take, List.drop_drop]; congr 1; omega
      rw [← e1]
      rw [htk] at hch2 e2 ⊢
      exact Dec.char hc92 hch2 (by rw [e2]; exact hq)
    · have hst := step_char hd hc34 hc92 (by omega) hch
      have := Unq.go hst (q := q) (b := true) (by rw [List.drop_drop]; exact hu)
      simpa using this

/-- Without backslashes it stands for itself. -/
theorem dec_plain {s q : List UInt8} (h : Dec s q) (hno : ∀ c ∈ s, c ≠ 92) : q = s := by
  induction h with
  | nil => rfl
  | esc _ _ => exact absurd rfl (hno 92 (List.mem_cons_self ..))
  | @char c t q n _ hc _ ih =>
    rw [ih (fun x hx => hno x (List.mem_of_mem_drop hx))]
    exact List.take_append_drop n (c :: t)

set_option maxRecDepth 100000 in
theorem escS_len (s : List UInt8) : (escS s).1.length ≤ (escS s).2.1 ∧ 2 ≤ (escS s).2.1 ∧ (escS s).2.1 ≤ 12 := by
  unfold escS
  split
  · repeat' split
    all_goals dsimp only
    all_goals first
      | exact ⟨Nat.le_trans (enc_len _) (by decide : 4 ≤ 6), (by decide : 2 ≤ 6), (by decide : 6 ≤ 12)⟩
      | exact ⟨Nat.le_trans (enc_len _) (by decide : 4 ≤ 12), (by decide : 2 ≤ 12), (by decide : 12 ≤ 12)⟩
      | exact ⟨(by decide : 3 ≤ 6), (by decide : 2 ≤ 6), (by decide : 6 ≤ 12)⟩
      | exact ⟨(by decide : 1 ≤ 2), (by decide : 2 ≤ 2), (by decide : 2 ≤ 12)⟩
  · exact ⟨by decide, by decide, by decide⟩

end Go.Proofs.YtjjbgoknmofajaaDoor.Wire
