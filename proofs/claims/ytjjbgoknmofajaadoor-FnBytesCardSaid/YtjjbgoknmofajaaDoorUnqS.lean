/- Unquoting: what is done at an escape, in plain words. -/
import Derived.Test.YtjjbgoknmofajaaDoorUnq
import Derived.Lib.RuneBytes
namespace Go.Proofs.YtjjbgoknmofajaaDoor.Wire
open Go.RowKit Go.Proofs.YtjjbgoknmofajaaDoor

theorem step_short {l : List UInt8} (hl : l = [92]) : step l = .stop [] false := by
  rw [step_esc hl, hl]
  rfl

theorem step_simple {l t : List UInt8} {r d : UInt8} (hl : l = 92 :: r :: t) (h : simpleX r = some d) : step l = .go 2 [d] true := by
  rw [step_esc hl, hl]
  show (match simpleX r with | some d => Step.go 2 [d] true | none => _) = _
  rw [h]

theorem esc_u {l t : List UInt8} (hl : l = 92 :: 117 :: t) : step l = if l.length < 6 then .stop [] false else match hex4 ((l.drop 2).take 4) with
    | none => .stop [] false
    | some v1 => unitStep l v1 := by
  rw [step_esc hl, hl]
  rfl

theorem step_other {l t : List UInt8} {r : UInt8} (hl : l = 92 :: r :: t) (h : simpleX r = none) (hu : r ≠ 117) : step l = .stop [] false := by
  rw [step_esc hl, hl]
  show (match simpleX r with | some d => Step.go 2 [d] true | none => if r = 117 then _ else _) = _
  rw [h]
  exact if_neg hu

theorem step_u_short {l t : List UInt8} (hl : l = 92 :: 117 :: t) (h : l.length < 6) : step l = .stop [] false := by
  rw [esc_u hl, if_pos h]

theorem step_u_bad {l t : List UInt8} (hl : l = 92 :: 117 :: t) (h : ¬ l.length < 6) (hx : hex4 ((l.drop 2).take 4) = none) : step l = .stop [] false := by
  rw [esc_u hl, if_neg h, hx]

theorem step_u_val {l t : List UInt8} {v : Nat} (hl : l = 92 :: 117 :: t) (h : ¬ l.length < 6) (hx : hex4 ((l.drop 2).take 4) = some v) : step l = unitStep l v := by
  rw [esc_u hl, if_neg h, hx]

theorem unit_plain {l : List UInt8} {v : Nat} (h : ¬(55296 ≤ v ∧ v < 57344)) : unitStep l v = .go 6 (enc v) true := if_pos h

theorem unit_cut {l : List UInt8} {v : Nat} (h : 55296 ≤ v ∧ v < 57344) (hl : l.length < 12) (hp : prefB true (l.drop 6) = true) : unitStep l v = .stop bad false := by
  unfold unitStep
  rw [if_neg (fun k => k h), if_pos hl, if_pos hp]

theorem unit_cut_no {l : List UInt8} {v : Nat} (h : 55296 ≤ v ∧ v < 57344) (hl : l.length < 12) (hp : prefB true (l.drop 6) = false) : unitStep l v = .go 6 bad false := by
  unfold unitStep
  rw [if_neg (fun k => k h), if_pos hl, if_neg (by rw [hp]; decide)]

theorem unit_none {l : List UInt8} {v : Nat} (h : 55296 ≤ v ∧ v < 57344) (hl : ¬ l.length < 12) (hx : hex4 ((l.drop 8).take 4) = none) : unitStep l v = .go 6 bad false := by
  unfold unitStep
  rw [if_neg (fun k => k h), if_neg hl, hx]

theorem unit_other {l : List UInt8} {v v2 : Nat} (h : 55296 ≤ v ∧ v < 57344) (hl : ¬ l.length < 12) (hx : hex4 ((l.drop 8).take 4) = some v2) (hne : (l.drop 6).take 2 ≠ [92, 117]) : unitStep l v = .go 6 bad false := by
  unfold unitStep
  rw [if_neg (fun k => k h), if_neg hl, hx]
  exact if_neg hne

theorem unit_pair {l : List UInt8} {v v2 r : Nat} (h : 55296 ≤ v ∧ v < 57344) (hl : ¬ l.length < 12) (hx : hex4 ((l.drop 8).take 4) = some v2) (he : (l.drop 6).take 2 = [92, 117]) (hr : pairV v v2 = some r) : unitStep l v = .go 12 (enc r) true := by
  unfold unitStep
  rw [if_neg (fun k => k h), if_neg hl, hx]
  show (if _ then (match pairV v v2 with | some r => Step.go 12 (enc r) true | none => _) else _) = _
  rw [if_pos he, hr]

theorem unit_nopair {l : List UInt8} {v v2 : Nat} (h : 55296 ≤ v ∧ v < 57344) (hl : ¬ l.length < 12) (hx : hex4 ((l.drop 8).take 4) = some v2) (he : (l.drop 6).take 2 = [92, 117]) (hr : pairV v v2 = none) : unitStep l v = .go 6 bad false := by
  unfold unitStep
  rw [if_neg (fun k => k h), if_neg hl, hx]
  show (if _ then (match pairV v v2 with | some r => Step.go 12 (enc r) true | none => _) else _) = _
  rw [if_pos he, hr]

theorem hex4_lt {l : List UInt8} {v : Nat} (h : hex4 l = some v) : v < 65536 := by
  have hd : ∀ {a d}, hexd a = some d → d < 16 := fun {a d} h => by
    unfold hexd at h
    split at h
    · cases h; omega
    · split at h
      · cases h; omega
      · split at h
        · cases h; omega
        · cases h
  unfold hex4 at h
  split at h
  · rename_i h4
    match l, h4 with
    | [a, b, c, d], _ =>
      simp only [hexFold] at h
      cases ha : hexd a.toNat with
      | none => rw [ha] at h; cases h
      | some x =>
        rw [ha] at h
        simp only at h
        cases hb : hexd b.toNat with
        | none => rw [hb] at h; cases h
        | some y =>
          rw [hb] at h
          simp only at h
          cases hc : hexd c.toNat with
          | none => rw [hc] at h; cases h
          | some z =>
            rw [hc] at h
            simp only at h
            cases he : hexd d.toNat with
            | none => rw [he] at h; cases h
            | some u =>
              rw [he] at h
              simp only [Option.some.injEq] at h
              have := hd ha
              have := hd hb
              have := hd hc
              have := hd he
              omega
  · cases h

theorem pair_bound {a b r : Nat} (h : pairV a b = some r) : 65536 ≤ r ∧ r ≤ 1114111 := by
  unfold pairV at h
  split at h
  · cases h; omega
  · cases h

theorem enc_len (r : Nat) : (enc r).length ≤ 4 := by
  unfold enc Lib.encodeRune
  rw [List.length_map]
  exact (Lib.encodeRuneZ_length _).2

theorem enc_bad : enc 65533 = bad := by decide +kernel

/-- Unquoting a whole text. -/
inductive UnqAll : List UInt8 → List UInt8 → Bool → Prop
  | empty : UnqAll [] [] false
  | wrong {c : UInt8} {t : List UInt8} : c ≠ 34 → UnqAll (c :: t) [] false
  | right {t q : List UInt8} {b : Bool} : Unq t q b → UnqAll (34 :: t) q b

theorem UnqAll.one {l p q : List UInt8} {a b : Bool} (h : UnqAll l p a) (k : UnqAll l q b) : p = q ∧ a = b := by
  cases h with
  | empty => cases k; exact ⟨rfl, rfl⟩
  | wrong hc =>
    cases k with
    | wrong _ => exact ⟨rfl, rfl⟩
    | right _ => exact absurd rfl hc
  | right h =>
    cases k with
    | wrong hc => exact absurd rfl hc
    | right k => exact h.one _ _ k

end Go.Proofs.YtjjbgoknmofajaaDoor.Wire
