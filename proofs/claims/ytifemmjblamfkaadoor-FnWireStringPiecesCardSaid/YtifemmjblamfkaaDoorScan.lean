/- The scanner of encoding/json, in plain words. -/
import Derived.Test.YtifemmjblamfkaaDoorLib
namespace Go.Proofs.YtifemmjblamfkaaDoor
open Go.RowKit

/-- The scanner's states: the functions that it steps by. -/
inductive St where
  | bve | bv | bse | bs | ev | et | str | esc | u0 | u1 | u2 | u3 | neg | s1 | s0 | dot | dot0 | e | esign | e0 | t | tr | tru | f | fa | fal | fals | n | nu | nul | err
  deriving DecidableEq

/-- Where the scanner stands: its state, whether the value has ended, what is open (the innermost last), and after how many bytes it told a fault. -/
structure Cfg where
  st : St
  top : Bool
  ps : List Nat
  er : Option Int

/-- White space. -/
def isSp (c : Nat) : Prop := c = 32 ∨ c = 9 ∨ c = 13 ∨ c = 10
instance (c : Nat) : Decidable (isSp c) := by unfold isSp; exact inferInstance

def isDig (c : Nat) : Prop := 48 ≤ c ∧ c ≤ 57
instance (c : Nat) : Decidable (isDig c) := by unfold isDig; exact inferInstance
def isHex (c : Nat) : Prop := (48 ≤ c ∧ c ≤ 57) ∨ (97 ≤ c ∧ c ≤ 102) ∨ (65 ≤ c ∧ c ≤ 70)
instance (c : Nat) : Decidable (isHex c) := by unfold isHex; exact inferInstance

/-- A fault after b bytes. -/
def Cfg.fail (g : Cfg) (b : Int) : Cfg := { g with st := .err, er := some b }
def Cfg.to (g : Cfg) (s : St) : Cfg := { g with st := s }
def Cfg.push (g : Cfg) (s : St) (p : Nat) : Cfg := { g with st := s, ps := g.ps ++ [p] }
def Cfg.pop (g : Cfg) : Cfg := if g.ps.dropLast = [] then { g with ps := [], st := .et, top := true } else { g with ps := g.ps.dropLast, st := .ev }
/-- The innermost one becomes p. -/
def Cfg.turn (g : Cfg) (s : St) (p : Nat) : Cfg := { g with st := s, ps := g.ps.dropLast ++ [p] }

def stepEt (g : Cfg) (b : Int) (c : Nat) : Cfg × Nat := if isSp c then (g, 10) else (g.fail b, 10)

def stepEv (g : Cfg) (b : Int) (c : Nat) : Cfg × Nat :=
  match g.ps.getLast? with
  | none => stepEt { g with st := .et, top := true } b c
  | some p =>
    if isSp c then (g.to .ev, 9)
    else if p = 0 then (if c = 58 then (g.turn .bv 1, 3) else (g.fail b, 11))
    else if p = 1 then (if c = 44 then (g.turn .bs 0, 4) else if c = 125 then (g.pop, 5) else (g.fail b, 11))
    else if p = 2 then (if c = 44 then (g.to .bv, 7) else if c = 93 then (g.pop, 8) else (g.fail b, 11))
    else (g.fail b, 11)

def stepBv (g : Cfg) (b : Int) (c : Nat) : Cfg × Nat :=
  if isSp c then (g, 9) else if c = 123 then (g.push .bse 0, 2) else if c = 91 then (g.push .bve 2, 6) else if c = 34 then (g.to .str, 1) else if c = 45 then (g.to .neg, 1)
  else if c = 48 then (g.to .s0, 1) else if c = 116 then (g.to .t, 1) else if c = 102 then (g.to .f, 1) else if c = 110 then (g.to .n, 1) else if 49 ≤ c ∧ c ≤ 57 then (g.to .s1, 1) else (g.fail b, 11)

def stepBve (g : Cfg) (b : Int) (c : Nat) : Cfg × Nat := if isSp c then (g, 9) else if c = 93 then stepEv g b c else stepBv g b c
def stepBs (g : Cfg) (b : Int) (c : Nat) : Cfg × Nat := if isSp c then (g, 9) else if c = 34 then (g.to .str, 1) else (g.fail b, 11)
def stepBse (g : Cfg) (b : Int) (c : Nat) : Cfg × Nat := if isSp c then (g, 9) else if c = 125 then stepEv { g with ps := g.ps.dropLast ++ [1] } b c else stepBs g b c

/-- One byte wanted. -/
def stepWant (g : Cfg) (b : Int) (c want : Nat) (s : St) : Cfg × Nat := if c = want then (g.to s, 0) else (g.fail b, 11)
def stepHex (g : Cfg) (b : Int) (c : Nat) (s : St) : Cfg × Nat := if isHex c then (g.to s, 0) else (g.fail b, 11)

def stepStr (g : Cfg) (b : Int) (c : Nat) : Cfg × Nat := if c = 34 then (g.to .ev, 0) else if c = 92 then (g.to .esc, 0) else if c < 32 then (g.fail b, 11) else (g, 0)
def isEsc (c : Nat) : Prop := c = 98 ∨ c = 102 ∨ c = 110 ∨ c = 114 ∨ c = 116 ∨ c = 92 ∨ c = 47 ∨ c = 34
instance (c : Nat) : Decidable (isEsc c) := by unfold isEsc; exact inferInstance
def stepEsc (g : Cfg) (b : Int) (c : Nat) : Cfg × Nat := if isEsc c then (g.to .str, 0) else if c = 117 then (g.to .u0, 0) else (g.fail b, 11)

def stepNeg (g : Cfg) (b : Int) (c : Nat) : Cfg × Nat := if c = 48 then (g.to .s0, 0) else if 49 ≤ c ∧ c ≤ 57 then (g.to .s1, 0) else (g.fail b, 11)
def stepS0 (g : Cfg) (b : Int) (c : Nat) : Cfg × Nat := if c = 46 then (g.to .dot, 0) else if c = 101 ∨ c = 69 then (g.to .e, 0) else stepEv g b c
def stepS1 (g : Cfg) (b : Int) (c : Nat) : Cfg × Nat := if isDig c then (g.to .s1, 0) else stepS0 g b c
def stepDot (g : Cfg) (b : Int) (c : Nat) : Cfg × Nat := if isDig c then (g.to .dot0, 0) else (g.fail b, 11)
def stepDot0 (g : Cfg) (b : Int) (c : Nat) : Cfg × Nat := if isDig c then (g, 0) else if c = 101 ∨ c = 69 then (g.to .e, 0) else stepEv g b c
def stepESign (g : Cfg) (b : Int) (c : Nat) : Cfg × Nat := if isDig c then (g.to .e0, 0) else (g.fail b, 11)
def stepE (g : Cfg) (b : Int) (c : Nat) : Cfg × Nat := if c = 43 ∨ c = 45 then (g.to .esign, 0) else stepESign g b c
def stepE0 (g : Cfg) (b : Int) (c : Nat) : Cfg × Nat := if isDig c then (g, 0) else stepEv g b c

/-- A step: where the scanner stands then, and the code that it tells. -/
def stepC (g : Cfg) (b : Int) (c : Nat) : Cfg × Nat :=
  match g.st with
  | .bve => stepBve g b c
  | .bv => stepBv g b c
  | .bse => stepBse g b c
  | .bs => stepBs g b c
  | .ev => stepEv g b c
  | .et => stepEt g b c
  | .str => stepStr g b c
  | .esc => stepEsc g b c
  | .u0 => stepHex g b c .u1
  | .u1 => stepHex g b c .u2
  | .u2 => stepHex g b c .u3
  | .u3 => stepHex g b c .str
  | .neg => stepNeg g b c
  | .s1 => stepS1 g b c
  | .s0 => stepS0 g b c
  | .dot => stepDot g b c
  | .dot0 => stepDot0 g b c
  | .e => stepE g b c
  | .esign => stepESign g b c
  | .e0 => stepE0 g b c
  | .t => stepWant g b c 114 .tr
  | .tr => stepWant g b c 117 .tru
  | .tru => stepWant g b c 101 .ev
  | .f => stepWant g b c 97 .fa
  | .fa => stepWant g b c 108 .fal
  | .fal => stepWant g b c 115 .fals
  | .fals => stepWant g b c 101 .ev
  | .n => stepWant g b c 117 .nu
  | .nu => stepWant g b c 108 .nul
  | .nul => stepWant g b c 108 .ev
  | .err => (g, 11)

end Go.Proofs.YtifemmjblamfkaaDoor
