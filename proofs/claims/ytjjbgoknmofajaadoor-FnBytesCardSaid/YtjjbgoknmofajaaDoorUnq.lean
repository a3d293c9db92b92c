/- Unquoting any bytes, step by step, in plain words. -/
import Derived.Test.YtjjbgoknmofajaaDoorQuoC
import Derived.Test.YtjjbgoknmofajaaDoorUnit
import Derived.Lib.DecodeN
namespace Go.Proofs.YtjjbgoknmofajaaDoor.Wire
open Go.RowKit Go.Proofs.YtjjbgoknmofajaaDoor

/-- A digit of base 16. -/
def hexd (a : Nat) : Option Nat := if 48 ≤ a ∧ a ≤ 57 then some (a - 48) else if 97 ≤ a ∧ a ≤ 102 then some (a - 87) else if 65 ≤ a ∧ a ≤ 70 then some (a - 55) else none

/-- Digits of base 16, read from left to right. -/
def hexFold : Nat → List UInt8 → Option Nat
  | v, [] => some v
  | v, c :: t => match hexd c.toNat with
    | some d => hexFold (v * 16 + d) t
    | none => none

/-- Four digits of base 16. -/
def hex4 (l : List UInt8) : Option Nat := if l.length = 4 then hexFold 0 l else none

/-- A pair of halves. -/
def pairV (a b : Nat) : Option Nat := if 55296 ≤ a ∧ a < 56320 ∧ 56320 ≤ b ∧ b < 57344 then some ((a - 55296) * 1024 + (b - 56320) + 65536) else none

/-- May this be the beginning of an escape of four digits? -/
def prefAt (lower : Bool) (i a : Nat) : Bool :=
  decide (¬ (i = 0 ∧ a ≠ 92) ∧ ¬ (i = 1 ∧ a ≠ 117) ∧ ¬ (i = 2 ∧ lower = true ∧ a ≠ 100 ∧ a ≠ 68) ∧ ¬ (i = 3 ∧ lower = true ∧ ¬ (99 ≤ a ∧ a ≤ 102) ∧ ¬ (67 ≤ a ∧ a ≤ 70))
    ∧ ¬ (2 ≤ i ∧ i < 6 ∧ ¬ (48 ≤ a ∧ a ≤ 57) ∧ ¬ (97 ≤ a ∧ a ≤ 102) ∧ ¬ (65 ≤ a ∧ a ≤ 70)))

def prefB (lower : Bool) (l : List UInt8) : Bool := (List.range l.length).all fun i => prefAt lower i (l.getD i 0).toNat

def fullTail (lo hi : Nat) : List UInt8 → Bool
  | [] => false
  | [b] => if b.toNat < lo ∨ hi < b.toNat then true else false
  | b :: c :: _ => if b.toNat < lo ∨ hi < b.toNat then true else if c.toNat < 128 ∨ 191 < c.toNat then true else false

/-- utf8.FullRune. -/
def fullB : List UInt8 → Bool
  | [] => false
  | a :: t => if Lib.firstT a.toNat % 8 ≤ t.length + 1 then true else fullTail (Lib.accLo (Lib.firstT a.toNat / 16)) (Lib.accHi (Lib.firstT a.toNat / 16)) t

/-- What is done at a place. -/
inductive Step where
  | stop (e : List UInt8) (ok : Bool)
  | go (n : Nat) (e : List UInt8) (ok : Bool)

def simpleX (r : UInt8) : Option UInt8 :=
  if r = 34 ∨ r = 92 ∨ r = 47 then some r else if r = 98 then some 8 else if r = 102 then some 12 else if r = 110 then some 10 else if r = 114 then some 13 else if r = 116 then some 9 else none

abbrev enc (r : Nat) : List UInt8 := Lib.encodeRune (r : Int)

def unitStep (l : List UInt8) (v1 : Nat) : Step :=
  if ¬(55296 ≤ v1 ∧ v1 < 57344) then .go 6 (enc v1) true
  else if l.length < 12 then (if prefB true (l.drop 6) = true then .stop bad false else .go 6 bad false)
  else match hex4 ((l.drop 8).take 4) with
    | none => .go 6 bad false
    | some v2 => if (l.drop 6).take 2 = [92, 117] then
        match pairV v1 v2 with
        | some r => .go 12 (enc r) true
        | none => .go 6 bad false
      else .go 6 bad false

def escStep (l : List UInt8) : Step :=
  match l with
  | _ :: r :: _ =>
    match simpleX r with
    | some d => .go 2 [d] true
    | none =>
      if r = 117 then
        if l.length < 6 then .stop [] false
        else match hex4 ((l.drop 2).take 4) with
          | none => .stop [] false
          | some v1 => unitStep l v1
      else .stop [] false
  | _ => .stop [] false

open Classical in
noncomputable def step (l : List UInt8) : Step :=
  match l with
  | [] => .stop [] false
  | c :: t =>
    if c = 34 then .stop [] (t.isEmpty)
    else if c = 92 then escStep l
    else if c.toNat < 32 then .stop [] false
    else if h : ∃ n, CharAt l n then .go h.choose (l.take h.choose) true
    else if fullB l = true then .go 1 bad false
    else .stop [] false

/-- Unquoting what stands behind the first quotation mark. -/
inductive Unq : List UInt8 → List UInt8 → Bool → Prop
  | stop {l e : List UInt8} {ok : Bool} : step l = .stop e ok → Unq l e ok
  | go {l e q : List UInt8} {n : Nat} {ok b : Bool} : step l = .go n e ok → Unq (l.drop n) q b → Unq l (e ++ q) (ok && b)

theorem Unq.one {l p : List UInt8} {a : Bool} (h : Unq l p a) : ∀ q b, Unq l q b → p = q ∧ a = b := by
  induction h with
  | stop h =>
    intro q b k
    cases k with
    | stop k => rw [h] at k; cases k; exact ⟨rfl, rfl⟩
    | go k _ => rw [h] at k; cases k
  | go h _ ih =>
    intro q b k
    cases k with
    | stop k => rw [h] at k; cases k
    | go k k2 =>
      rw [h] at k
      cases k
      obtain ⟨rfl, rfl⟩ := ih _ _ k2
      exact ⟨rfl, rfl⟩

theorem step_char {l : List UInt8} {c : UInt8} {t : List UInt8} {n : Nat} (hl : l = c :: t) (h34 : c ≠ 34) (h92 : c ≠ 92) (h32 : 32 ≤ c.toNat) (hc : CharAt l n) : step l = .go n (l.take n) true := by
  subst hl
  have hex : ∃ n, CharAt (c :: t) n := ⟨n, hc⟩
  have e : hex.choose = n := CharAt.one hex.choose_spec hc
  simp only [step]
  rw [if_neg h34, if_neg h92, if_neg (by omega), dif_pos hex, e]

theorem step_bad {l : List UInt8} {c : UInt8} {t : List UInt8} (hl : l = c :: t) (h128 : 128 ≤ c.toNat) (hc : ∀ n, ¬ CharAt l n) : step l = if fullB l = true then .go 1 bad false else .stop [] false := by
  subst hl
  simp only [step]
  rw [if_neg (fun e => by rw [e] at h128; revert h128; decide), if_neg (fun e => by rw [e] at h128; revert h128; decide), if_neg (by omega), dif_neg (fun ⟨n, h⟩ => hc n h)]

theorem step_ctrl {l : List UInt8} {c : UInt8} {t : List UInt8} (hl : l = c :: t) (h32 : c.toNat < 32) : step l = .stop [] false := by
  subst hl
  simp only [step]
  rw [if_neg (fun e => by rw [e] at h32; revert h32; decide), if_neg (fun e => by rw [e] at h32; revert h32; decide), if_pos h32]

theorem step_quote {l t : List UInt8} (hl : l = 34 :: t) : step l = .stop [] t.isEmpty := by
  subst hl
  simp only [step, if_true]

theorem step_esc {l t : List UInt8} (hl : l = 92 :: t) : step l = escStep l := by
  subst hl
  simp only [step]
  rw [if_neg (by decide)]
  simp only [if_true]

/-- What has been done of l behind its first byte, when n is reached and what lies from i on is pending. -/
def UI (l out : List UInt8) (i n : Nat) (ok : Bool) : Prop :=
  1 ≤ i ∧ i ≤ n ∧ n ≤ l.length ∧ ∀ q b, Unq (l.drop n) q b → Unq (l.drop 1) (out ++ (l.drop i).take (n - i) ++ q) (ok && b)

theorem UI.start {l : List UInt8} (h : 1 ≤ l.length) : UI l [] 1 1 true :=
  ⟨Nat.le_refl _, Nat.le_refl _, h, fun q b hq => by simpa using hq⟩

theorem UI.plain {l out : List UInt8} {i n m : Nat} {ok : Bool} (h : UI l out i n ok) (hs : step (l.drop n) = .go m ((l.drop n).take m) true) (hm : n + m ≤ l.length) : UI l out i (n + m) ok := by
  obtain ⟨h1, h2, h3, h4⟩ := h
  refine ⟨h1, by omega, hm, fun q b hq => ?_⟩
  rw [← List.drop_drop] at hq
  have := h4 _ _ (.go hs hq)
  rw [pend l i n m h2]
  simpa [List.append_assoc] using this

theorem UI.esc {l out e : List UInt8} {i n m : Nat} {ok b : Bool} (h : UI l out i n ok) (hs : step (l.drop n) = .go m e b) (hm : n + m ≤ l.length) : UI l (out ++ (l.drop i).take (n - i) ++ e) (n + m) (n + m) (ok && b) := by
  obtain ⟨h1, h2, h3, h4⟩ := h
  refine ⟨by omega, Nat.le_refl _, hm, fun q b' hq => ?_⟩
  rw [← List.drop_drop] at hq
  have := h4 _ _ (.go hs hq)
  rw [Nat.sub_self, List.take_zero, List.append_nil]
  simpa [List.append_assoc, Bool.and_assoc] using this

theorem UI.stop {l out e : List UInt8} {i n : Nat} {ok b : Bool} (h : UI l out i n ok) (hs : step (l.drop n) = .stop e b) : Unq (l.drop 1) (out ++ (l.drop i).take (n - i) ++ e) (ok && b) :=
  h.2.2.2 _ _ (.stop hs)

end Go.Proofs.YtjjbgoknmofajaaDoor.Wire
