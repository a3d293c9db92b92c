/- Reading a string: digits of base 16, beginnings of escapes, whole characters, in plain words. -/
import Derived.Test.YtifemmjblamfkaaDoorNic
import Derived.Lib.DecodeN
namespace Go.Proofs.YtifemmjblamfkaaDoor.Wire
open Go.RowKit Go.Proofs.YtifemmjblamfkaaDoor

/-- A digit of base 16. -/
def hexd (a : Nat) : Option Nat := if 48 ≤ a ∧ a ≤ 57 then some (a - 48) else if 97 ≤ a ∧ a ≤ 102 then some (a - 87) else if 65 ≤ a ∧ a ≤ 70 then some (a - 55) else none

/-- Digits of base 16, read from left to right. -/
def hexFold : Nat → List UInt8 → Option Nat
  | v, [] => some v
  | v, c :: t => match hexd c.toNat with
    | some d => hexFold (v * 16 + d) t
    | none => none

/-- Four digits of base 16. -/
def hex4 (l : List UInt8) : Option Nat := if l.length = 4 then hexFold 0 l else none

/-- A pair of halves. -/
def pairV (a b : Nat) : Option Nat := if 55296 ≤ a ∧ a < 56320 ∧ 56320 ≤ b ∧ b < 57344 then some ((a - 55296) * 1024 + (b - 56320) + 65536) else none

/-- May this be the beginning of an escape of four digits? -/
def prefAt (lower : Bool) (i a : Nat) : Bool :=
  decide (¬ (i = 0 ∧ a ≠ 92) ∧ ¬ (i = 1 ∧ a ≠ 117) ∧ ¬ (i = 2 ∧ lower = true ∧ a ≠ 100 ∧ a ≠ 68) ∧ ¬ (i = 3 ∧ lower = true ∧ ¬ (99 ≤ a ∧ a ≤ 102) ∧ ¬ (67 ≤ a ∧ a ≤ 70))
    ∧ ¬ (2 ≤ i ∧ i < 6 ∧ ¬ (48 ≤ a ∧ a ≤ 57) ∧ ¬ (97 ≤ a ∧ a ≤ 102) ∧ ¬ (65 ≤ a ∧ a ≤ 70)))

def prefB (lower : Bool) (l : List UInt8) : Bool := (List.range l.length).all fun i => prefAt lower i (l.getD i 0).toNat

def fullTail (lo hi : Nat) : List UInt8 → Bool
  | [] => false
  | [b] => if b.toNat < lo ∨ hi < b.toNat then true else false
  | b :: c :: _ => if b.toNat < lo ∨ hi < b.toNat then true else if c.toNat < 128 ∨ 191 < c.toNat then true else false

/-- utf8.FullRune. -/
def fullB : List UInt8 → Bool
  | [] => false
  | a :: t => if Lib.firstT a.toNat % 8 ≤ t.length + 1 then true else fullTail (Lib.accLo (Lib.firstT a.toNat / 16)) (Lib.accHi (Lib.firstT a.toNat / 16)) t

end Go.Proofs.YtifemmjblamfkaaDoor.Wire
