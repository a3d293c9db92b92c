/- The scanner of encoding/json, in plain words. -/
import Derived.Test.YtlgmdcaoogiooaaGreatDoorLib
import Derived.Test.YtlgmdcaoogiooaaGreatDoorChecked
import Derived.Maps.AppendAt
import Derived.Deep.QuietTactic
import Derived.BigQuiet
namespace Go.Proofs.YtlgmdcaoogiooaaGreatDoor
open Go.RowKit

/-- The scanner's states: the functions that it steps by. -/
inductive St where
  | bve | bv | bse | bs | ev | et | str | esc | u0 | u1 | u2 | u3 | neg | s1 | s0 | dot | dot0 | e | esign | e0 | t | tr | tru | f | fa | fal | fals | n | nu | nul | err
  deriving DecidableEq

/-- Where the scanner stands: its state, whether the value has ended, what is open (the innermost last), and after how many bytes it told a fault. -/
structure Cfg where
  st : St
  top : Bool
  ps : List Nat
  er : Option Int

/-- White space. -/
def isSp (c : Nat) : Prop := c = 32 ∨ c = 9 ∨ c = 13 ∨ c = 10
instance (c : Nat) : Decidable (isSp c) := by unfold isSp; exact inferInstance

def isDig (c : Nat) : Prop := 48 ≤ c ∧ c ≤ 57
instance (c : Nat) : Decidable (isDig c) := by unfold isDig; exact inferInstance
def isHex (c : Nat) : Prop := (48 ≤ c ∧ c ≤ 57) ∨ (97 ≤ c ∧ c ≤ 102) ∨ (65 ≤ c ∧ c ≤ 70)
instance (c : Nat) : Decidable (isHex c) := by unfold isHex; exact inferInstance

/-- A fault after b bytes. -/
def Cfg.fail (g : Cfg) (b : Int) : Cfg := { g with st := .err, er := some b }
def Cfg.to (g : Cfg) (s : St) : Cfg := { g with st := s }
def Cfg.push (g : Cfg) (s : St) (p : Nat) : Cfg := { g with st := s, ps := g.ps ++ [p] }
def Cfg.pop (g : Cfg) : Cfg := if g.ps.dropLast = [] then { g with ps := [], st := .et, top := true } else { g with ps := g.ps.dropLast, st := .ev }
/-- The innermost one becomes p. -/
def Cfg.turn (g : Cfg) (s : St) (p : Nat) : Cfg := { g with st := s, ps := g.ps.dropLast ++ [p] }

def stepEt (g : Cfg) (b : Int) (c : Nat) : Cfg × Nat := if isSp c then (g, 10) else (g.fail b, 10)

def stepEv (g : Cfg) (b : Int) (c : Nat) : Cfg × Nat :=
  match g.ps.getLast? with
  | none => stepEt { g with st := .et, top := true } b c
  | some p =>
    if isSp c then (g.to .ev, 9)
    else if p = 0 then (if c = 58 then (g.turn .bv 1, 3) else (g.fail b, 11))
    else if p = 1 then (if c = 44 then (g.turn .bs 0, 4) else if c = 125 then (g.pop, 5) else (g.fail b, 11))
    else if p = 2 then (if c = 44 then (g.to .bv, 7) else if c = 93 then (g.pop, 8) else (g.fail b, 11))
    else (g.fail b, 11)

def stepBv (g : Cfg) (b : Int) (c : Nat) : Cfg × Nat :=
  if isSp c then (g, 9) else if c = 123 then (g.push .bse 0, 2) else if c = 91 then (g.push .bve 2, 6) else if c = 34 then (g.to .str, 1) else if c = 45 then (g.to .neg, 1)
  else if c = 48 then (g.to .s0, 1) else if c = 116 then (g.to .t, 1) else if c = 102 then (g.to .f, 1) else if c = 110 then (g.to .n, 1) else if 49 ≤ c ∧ c ≤ 57 then (g.to .s1, 1) else (g.fail b, 11)

def stepBve (g : Cfg) (b : Int) (c : Nat) : Cfg × Nat := if isSp c then (g, 9) else if c = 93 then stepEv g b c else stepBv g b c
def stepBs (g : Cfg) (b : Int) (c : Nat) : Cfg × Nat := if isSp c then (g, 9) else if c = 34 then (g.to .str, 1) else (g.fail b, 11)
def stepBse (g : Cfg) (b : Int) (c : Nat) : Cfg × Nat := if isSp c then (g, 9) else if c = 125 then stepEv { g with ps := g.ps.dropLast ++ [1] } b c else stepBs g b c

/-- One byte wanted. -/
def stepWant (g : Cfg) (b : Int) (c want : Nat) (s : St) : Cfg × Nat := if c = want then (g.to s, 0) else (g.fail b, 11)
def stepHex (g : Cfg) (b : Int) (c : Nat) (s : St) : Cfg × Nat := if isHex c then (g.to s, 0) else (g.fail b, 11)

def stepStr (g : Cfg) (b : Int) (c : Nat) : Cfg × Nat := if c = 34 then (g.to .ev, 0) else if c = 92 then (g.to .esc, 0) else if c < 32 then (g.fail b, 11) else (g, 0)
def isEsc (c : Nat) : Prop := c = 98 ∨ c = 102 ∨ c = 110 ∨ c = 114 ∨ c = 116 ∨ c = 92 ∨ c = 47 ∨ c = 34
instance (c : Nat) : Decidable (isEsc c) := by unfold isEsc; exact inferInstance
def stepEsc (g : Cfg) (b : Int) (c : Nat) : Cfg × Nat := if isEsc c then (g.to .str, 0) else if c = 117 then (g.to .u0, 0) else (g.fail b, 11)

def stepNeg (g : Cfg) (b : Int) (c : Nat) : Cfg × Nat := if c = 48 then (g.to .s0, 0) else if 49 ≤ c ∧ c ≤ 57 then (g.to .s1, 0) else (g.fail b, 11)
def stepS0 (g : Cfg) (b : Int) (c : Nat) : Cfg × Nat := if c = 46 then (g.to .dot, 0) else if c = 101 ∨ c = 69 then (g.to .e, 0) else stepEv g b c
def stepS1 (g : Cfg) (b : Int) (c : Nat) : Cfg × Nat := if isDig c then (g.to .s1, 0) else stepS0 g b c
def stepDot (g : Cfg) (b : Int) (c : Nat) : Cfg × Nat := if isDig c then (g.to .dot0, 0) else (g.fail b, 11)
def stepDot0 (g : Cfg) (b : Int) (c : Nat) : Cfg × Nat := if isDig c then (g, 0) else if c = 101 ∨ c = 69 then (g.to .e, 0) else stepEv g b c
def stepESign (g : Cfg) (b : Int) (c : Nat) : Cfg × Nat := if isDig c then (g.to .e0, 0) else (g.fail b, 11)
def stepE (g : Cfg) (b : Int) (c : Nat) : Cfg × Nat := if c = 43 ∨ c = 45 then (g.to .esign, 0) else stepESign g b c
def stepE0 (g : Cfg) (b : Int) (c : Nat) : Cfg × Nat := if isDig c then (g, 0) else stepEv g b c

/-- A step: where the scanner stands then, and the code that it tells. -/
def stepC (g : Cfg) (b : Int) (c : Nat) : Cfg × Nat :=
  match g.st with
  | .bve => stepBve g b c
  | .bv => stepBv g b c
  | .bse => stepBse g b c
  | .bs => stepBs g b c
  | .ev => stepEv g b c
  | .et => stepEt g b c
  | .str => stepStr g b c
  | .esc => stepEsc g b c
  | .u0 => stepHex g b c .u1
  | .u1 => stepHex g b c .u2
  | .u2 => stepHex g b c .u3
  | .u3 => stepHex g b c .str
  | .neg => stepNeg g b c
  | .s1 => stepS1 g b c
  | .s0 => stepS0 g b c
  | .dot => stepDot g b c
  | .dot0 => stepDot0 g b c
  | .e => stepE g b c
  | .esign => stepESign g b c
  | .e0 => stepE0 g b c
  | .t => stepWant g b c 114 .tr
  | .tr => stepWant g b c 117 .tru
  | .tru => stepWant g b c 101 .ev
  | .f => stepWant g b c 97 .fa
  | .fa => stepWant g b c 108 .fal
  | .fal => stepWant g b c 115 .fals
  | .fals => stepWant g b c 101 .ev
  | .n => stepWant g b c 117 .nu
  | .nu => stepWant g b c 108 .nul
  | .nul => stepWant g b c 108 .ev
  | .err => (g, 11)

end Go.Proofs.YtlgmdcaoogiooaaGreatDoor

namespace Go.Proofs.YtlgmdcaoogiooaaGreatDoor
open Go.RowKit

/-- The reader in block b: its text, its place, its rules, its fault, what it leaves open. -/
structure Rd (w : World) (b : Nat) (s : ByteArray) (k : Nat) (tw lo : Bool) (f : Int) (op : Bool) : Prop where
  row : w.heap[b]? = some (.cells #[.string s, .int .i64 k, .bool tw, .bool lo, .int .i64 f, .bool op] 56 (0, 0))
  le : k ≤ s.size

theorem Rd.lt {w : World} {b : Nat} {s : ByteArray} {k : Nat} {tw lo : Bool} {f : Int} {op : Bool} (h : Rd w b s k tw lo f op) : b < w.heap.size := (Array.getElem?_eq_some_iff.1 h.row).1

theorem Rd.cells {w : World} {b : Nat} {s : ByteArray} {k : Nat} {tw lo : Bool} {f : Int} {op : Bool} (h : Rd w b s k tw lo f op) :
    w.cell? ⟨b, 0, none⟩ = some (.string s) ∧ w.cell? ⟨b, 1, none⟩ = some (.int .i64 k) ∧ w.cell? ⟨b, 3, none⟩ = some (.bool lo) ∧ w.cell? ⟨b, 4, none⟩ = some (.int .i64 f) ∧
    w.frozen? ⟨b, 1, none⟩ = false ∧ w.frozen? ⟨b, 4, none⟩ = false :=
  ⟨cell_of_row w b 0 _ _ _ h.row, cell_of_row w b 1 _ _ _ h.row, cell_of_row w b 3 _ _ _ h.row, cell_of_row w b 4 _ _ _ h.row, frozen_of_row w b 1 _ _ h.row, frozen_of_row w b 4 _ _ h.row⟩

theorem Rd.all {w : World} {b : Nat} {s : ByteArray} {k : Nat} {tw lo : Bool} {f : Int} {op : Bool} (h : Rd w b s k tw lo f op) :
    w.cell? ⟨b, 0, none⟩ = some (.string s) ∧ w.cell? ⟨b, 1, none⟩ = some (.int .i64 k) ∧ w.cell? ⟨b, 2, none⟩ = some (.bool tw) ∧ w.cell? ⟨b, 3, none⟩ = some (.bool lo) ∧ w.cell? ⟨b, 4, none⟩ = some (.int .i64 f) ∧ w.cell? ⟨b, 5, none⟩ = some (.bool op) :=
  ⟨cell_of_row w b 0 _ _ _ h.row, cell_of_row w b 1 _ _ _ h.row, cell_of_row w b 2 _ _ _ h.row, cell_of_row w b 3 _ _ _ h.row, cell_of_row w b 4 _ _ _ h.row, cell_of_row w b 5 _ _ _ h.row⟩

theorem Rd.setAt {w : World} {b : Nat} {s : ByteArray} {k : Nat} {tw lo : Bool} {f : Int} {op : Bool} (h : Rd w b s k tw lo f op) (k' : Nat) (hk : k' ≤ s.size) : Rd (w.setCell ⟨b, 1, none⟩ (.int .i64 k')) b s k' tw lo f op :=
  ⟨heap_setCell_same w b 1 _ _ _ h.row, hk⟩

theorem Rd.setFault {w : World} {b : Nat} {s : ByteArray} {k : Nat} {tw lo : Bool} {f : Int} {op : Bool} (h : Rd w b s k tw lo f op) (f' : Int) : Rd (w.setCell ⟨b, 4, none⟩ (.int .i64 f')) b s k tw lo f' op :=
  ⟨heap_setCell_same w b 4 _ _ _ h.row, h.le⟩

theorem Rd.same {w w' : World} {b : Nat} {s : ByteArray} {k : Nat} {tw lo : Bool} {f : Int} {op : Bool} (h : Rd w b s k tw lo f op) (e : w'.heap[b]? = w.heap[b]?) : Rd w' b s k tw lo f op := ⟨e.trans h.row, h.le⟩

theorem Rd.drew {w : World} {b : Nat} {s : ByteArray} {k : Nat} {tw lo : Bool} {f : Int} {op : Bool} (h : Rd w b s k tw lo f op) : Rd w.drew b s k tw lo f op := ⟨h.row, h.le⟩
theorem Rd.drewN {w : World} {b : Nat} {s : ByteArray} {k : Nat} {tw lo : Bool} {f : Int} {op : Bool} (h : Rd w b s k tw lo f op) (n : Nat) : Rd (w.drewN n) b s k tw lo f op := ⟨h.row, h.le⟩

theorem grown_refl (w : World) (row : Option Nat) : w.grownBy w row := ⟨rfl, rfl, rfl, Nat.le_refl _, fun _ _ _ => rfl⟩
theorem grown_drew {w w' : World} {row : Option Nat} (h : w.grownBy w' row) : w.grownBy w'.drew row := ⟨h.os, h.tape, h.output, h.size, h.block⟩
theorem grown_drewN {w w' : World} {row : Option Nat} (h : w.grownBy w' row) (n : Nat) : w.grownBy (w'.drewN n) row := ⟨h.os, h.tape, h.output, h.size, h.block⟩
theorem grown_set {w w' : World} {b : Nat} (h : w.grownBy w' (some b)) (o : Nat) (v : Value) : w.grownBy (w'.setCell ⟨b, o, none⟩ v) (some b) :=
  ⟨h.os, h.tape, h.output, by simp [World.setCell]; exact h.size, fun k hk hne => (Below.heap_setCell w' ⟨b, o, none⟩ v k (fun e => hne (by rw [e]))).trans (h.block k hk hne)⟩
theorem grown_alloc {w w' : World} {row : Option Nat} (h : w.grownBy w' row) (o : Obj) : w.grownBy (w'.alloc o) row :=
  ⟨h.os, h.tape, h.output, by have := h.size; simp; omega, fun k hk hne => (Below.heap_alloc w' o k (Nat.lt_of_lt_of_le hk h.size)).trans (h.block k hk hne)⟩

/-- Where reading stands: at k, with a fault if it has not gone well, else with the fault that was there. -/
structure Stood (w : World) (b : Nat) (s : ByteArray) (tw lo : Bool) (f : Int) (op : Bool) (ok : Bool) (k : Nat) (w' : World) : Prop where
  grown : w.grownBy w' (some b)
  rd : ∃ f', Rd w' b s k tw lo f' op ∧ (ok = true → f' = f) ∧ (ok = false → f' ≠ 0)

/-- How a step of reading ends: what it answers and where it stands then; a fault is told exactly where it answers no. -/
def Step (w : World) (b : Nat) (s : ByteArray) (tw lo : Bool) (f : Int) (op : Bool) (r : Bool × Nat) (e : Ending) (w' : World) : Prop :=
  e = .returned (.bool r.1) ∧ Stood w b s tw lo f op r.1 r.2 w'

theorem Stood.from {w w1 w2 : World} {b : Nat} {s : ByteArray} {tw lo : Bool} {f f1 : Int} {op ok : Bool} {k : Nat} (h : w.grownBy w1 (some b)) (hf : f1 = f) (k2 : Stood w1 b s tw lo f1 op ok k w2) : Stood w b s tw lo f op ok k w2 := by
  subst hf
  exact ⟨h.trans k2.grown, k2.rd⟩

/-- What lay below the reader is as it was. -/
theorem Stood.below {w w' : World} {b : Nat} {s : ByteArray} {tw lo : Bool} {f : Int} {op ok : Bool} {k : Nat} (h : Stood w b s tw lo f op ok k w') (hb : b ≤ w.heap.size) : Below b w w' :=
  (Below.refl b w).grown h.grown hb (fun k e => by cases e; exact Nat.le_refl _)

/-- 'fail'. -/
theorem fail_any (b : Nat) (s : ByteArray) (k : Nat) (tw lo : Bool) (f : Int) (op : Bool) (c : Int) (hc : c ≠ 0) (w : World) (h : Rd w b s k tw lo f op) :
    Calls Tryz.prog 19 #[.pointer (some ⟨b, 0, none⟩), .int .i64 c] w (Step w b s tw lo f op (false, k)) := by
  obtain ⟨_, _, _, c4, _, f4⟩ := h.cells
  have H := Lib.hid h
  have HC := Lib.hid hc
  clear h hc
  by_cases hf : f = 0
  · subst hf
    go_enter Tryz.func19, Tryz.ntmps19
    go_wp2
    go_ret
    exact ⟨rfl, grown_set (grown_refl _ _) _ _, c, H.out.setFault c, (fun h => by cases h), fun _ => HC.out⟩
  · have HF := Lib.hid hf
    have hf' : (f == 0) = false := by rw [beq_eq_false_iff_ne]; exact hf
    clear hf
    go_enter Tryz.func19, Tryz.ntmps19
    go_wp2
    go_ret
    exact ⟨rfl, grown_refl _ _, f, H.out, (fun h => by cases h), fun _ => HF.out⟩

/-- 'need', in plain words. -/
def mNeed (l : List UInt8) (lo hi : Int) (k : Nat) : Bool × Nat :=
  match l[k]? with
  | some c => if lo ≤ (c.toNat : Int) ∧ (c.toNat : Int) ≤ hi then (true, k + 1) else (false, k)
  | none => (false, k)

set_option maxHeartbeats 400000 in
theorem need_any (b : Nat) (s : ByteArray) (k : Nat) (tw lo : Bool) (f : Int) (op : Bool) (c d : Int) (w : World) (hs : s.size ≤ 9223372036854775806) (h : Rd w b s k tw lo f op) :
    Calls Tryz.prog 49 #[.pointer (some ⟨b, 0, none⟩), .int .u8 c, .int .u8 d] w (Step w b s tw lo f op (mNeed s.data.toList c d k)) := by
  obtain ⟨c0, c1, _, _, f1, _⟩ := h.cells
  have hle := h.le
  have hlt := h.lt
  have H := Lib.hid h
  clear h
  have hget : ∀ hk : k < s.size, s.data.toList[k]? = some s[k] := fun hk => by
    simp [ByteArray.getElem_eq_getElem_data, hk]
  have HG := Lib.hid hget
  clear hget
  by_cases hk : k < s.size
  · have g0 : decide (s.size ≤ k) = false := by simpa using hk
    by_cases hc : ((s[k].toNat : Nat) : Int) < c
    · have HM : Hid (mNeed s.data.toList c d k = (false, k)) := by
        unfold mNeed
        rw [HG.out hk]
        exact if_neg (by omega)
      have g1 : decide (((s[k].toNat : Nat) : Int) < c) = true := by simpa using hc
      go_enter Tryz.func49, Tryz.ntmps49
      go_wp2
      go_big_quiet (fail)
      go_wp2_with (go_at_call 19; refine (fail_any b s k tw lo f op 4 (by decide) _ (H.out.drewN _)).mono ?_; rintro e w1 ⟨rfl, hst⟩; have X := Lib.hid hst; clear hst)
      go_ret
      rw [HM.out]
      exact ⟨rfl, Stood.from (grown_drewN (grown_refl w _) nq) rfl X.out⟩
    · have g1 : decide (((s[k].toNat : Nat) : Int) < c) = false := by simpa using hc
      by_cases hd : d < ((s[k].toNat : Nat) : Int)
      · have HM : Hid (mNeed s.data.toList c d k = (false, k)) := by
          unfold mNeed
          rw [HG.out hk]
          exact if_neg (by omega)
        have g2 : decide (d < ((s[k].toNat : Nat) : Int)) = true := by simpa using hd
        go_enter Tryz.func49, Tryz.ntmps49
        go_wp2
        go_big_quiet (fail)
        go_wp2_with (go_at_call 19; refine (fail_any b s k tw lo f op 4 (by decide) _ (H.out.drewN _)).mono ?_; rintro e w1 ⟨rfl, hst⟩; have X := Lib.hid hst; clear hst)
        go_ret
        rw [HM.out]
        exact ⟨rfl, Stood.from (grown_drewN (grown_refl w _) nq) rfl X.out⟩
      · have HM : Hid (mNeed s.data.toList c d k = (true, k + 1)) := by
          unfold mNeed
          rw [HG.out hk]
          exact if_pos (by omega)
        have g2 : decide (d < ((s[k].toNat : Nat) : Int)) = false := by simpa using hd
        go_enter Tryz.func49, Tryz.ntmps49
        go_wp2
        go_big_quiet (fail)
        go_wp2_with fail
        go_ret
        rw [HM.out]
        exact ⟨rfl, grown_set (grown_drewN (grown_refl w _) nq) _ _, f, by have := (H.out.drewN nq).setAt (k + 1) hk; simpa using this, fun _ => rfl, (fun h => by cases h)⟩
  · have g0 : decide (s.size ≤ k) = true := by simp; omega
    have HM : Hid (mNeed s.data.toList c d k = (false, k)) := by
      unfold mNeed
      rw [List.getElem?_eq_none (by rw [size_eq]; omega)]
      exact rfl
    go_enter Tryz.func49, Tryz.ntmps49
    go_wp2
    go_big_quiet (fail)
    go_wp2_with (go_at_call 19; refine (fail_any b s k tw lo f op 4 (by decide) _ (H.out.drewN _)).mono ?_; rintro e w1 ⟨rfl, hst⟩; have X := Lib.hid hst; clear hst)
    go_ret
    rw [HM.out]
    exact ⟨rfl, Stood.from (grown_drewN (grown_refl w _) nq) rfl X.out⟩

end Go.Proofs.YtlgmdcaoogiooaaGreatDoor

namespace Go.Proofs.YtlgmdcaoogiooaaGreatDoor
open Go.RowKit

def seeB (l : List UInt8) (k : Nat) : Int := match l[k]? with
  | some c => ((c.toNat : Nat) : Int)
  | none => 0

structure Seen (w : World) (l : List UInt8) (k : Nat) (e : Ending) (w' : World) : Prop where
  what : e = .returned (.int .u8 (seeB l k))
  world : ∃ n, w' = w.drewN n

theorem drewN2 (w : World) (a b : Nat) : (w.drewN a).drewN b = w.drewN (a + b) := by
  unfold World.drewN
  simp [Nat.add_assoc]

theorem see_any (b : Nat) (s : ByteArray) (k : Nat) (tw lo : Bool) (f : Int) (op : Bool) (w : World) (h : Rd w b s k tw lo f op) :
    Calls Tryz.prog 30 #[.pointer (some ⟨b, 0, none⟩)] w (Seen w s.data.toList k) := by
  obtain ⟨c0, c1, _, _, _, _⟩ := h.cells
  have hle := h.le
  have hlt := h.lt
  by_cases hk : k < s.size
  · have g0 : decide ((k : Int) < (s.size : Int)) = true := by simpa using hk
    have hi0 : (0 : Int) ≤ (k : Int) := by omega
    have hi1 : (k : Int) < (s.size : Int) := by omega
    have HE := Lib.hid (show seeB s.data.toList k = ((s[k].toNat : Nat) : Int) by
      unfold seeB
      have : s.data.toList[k]? = some s[k] := by simp [ByteArray.getElem_eq_getElem_data, hk]
      rw [this])
    go_enter Tryz.func30, Tryz.ntmps30
    go_wp2
    go_big_quiet (fail)
    go_wp2_with fail
    go_big_quiet (fail)
    go_wp2_with fail
    go_ret
    exact ⟨by rw [HE.out]; rfl, _, drewN2 _ _ _⟩
  · have g0 : decide ((k : Int) < (s.size : Int)) = false := by simpa using hk
    have HE := Lib.hid (show seeB s.data.toList k = 0 by
      unfold seeB
      rw [List.getElem?_eq_none (by rw [size_eq]; omega)])
    go_enter Tryz.func30, Tryz.ntmps30
    go_wp2
    go_big_quiet (fail)
    go_wp2_with fail
    go_ret
    exact ⟨by rw [HE.out]; rfl, _, rfl⟩

end Go.Proofs.YtlgmdcaoogiooaaGreatDoor

namespace Go.Proofs.YtlgmdcaoogiooaaGreatDoor
open Go.RowKit

set_option maxRecDepth 100000 in
set_option maxHeartbeats 1000000 in
theorem specSpace_any (c : Nat) (w : World) :
    Calls Tryz.prog 16 #[.int .u8 (c : Int)] w fun e w' => w' = w ∧ e = .returned (.bool (decide (isSp c))) := by
  by_cases h1 : c = 32
  · subst h1
    go_enter Tryz.func16, Tryz.ntmps16
    go_wp2
    go_ret
    exact ⟨rfl, rfl⟩
  have n1 : ((c : Int) == 32) = false := by rw [beq_eq_false_iff_ne]; omega
  by_cases h2 : c = 9
  · subst h2
    go_enter Tryz.func16, Tryz.ntmps16
    go_wp2
    go_ret
    exact ⟨rfl, rfl⟩
  have n2 : ((c : Int) == 9) = false := by rw [beq_eq_false_iff_ne]; omega
  by_cases h3 : c = 10
  · subst h3
    go_enter Tryz.func16, Tryz.ntmps16
    go_wp2
    go_ret
    exact ⟨rfl, rfl⟩
  have n3 : ((c : Int) == 10) = false := by rw [beq_eq_false_iff_ne]; omega
  by_cases h4 : c = 13
  · subst h4
    go_enter Tryz.func16, Tryz.ntmps16
    go_wp2
    go_ret
    exact ⟨rfl, rfl⟩
  have n4 : ((c : Int) == 13) = false := by rw [beq_eq_false_iff_ne]; omega
  have hd : decide (isSp c) = false := decide_eq_false (fun h => by unfold isSp at h; omega)
  rw [hd]
  clear hd h1 h2 h3 h4
  go_enter Tryz.func16, Tryz.ntmps16
  go_wp2
  go_ret
  exact ⟨rfl, rfl⟩

/-- Behind the white space from k on. -/
def mSpace (l : List UInt8) (k : Nat) : Nat := k + ((l.drop k).takeWhile (fun c => decide (isSp c.toNat))).length

theorem mSpace_on {l : List UInt8} {k : Nat} (hk : k < l.length) (h : isSp (l[k]'hk).toNat) : mSpace l k = mSpace l (k + 1) := by
  unfold mSpace
  rw [List.drop_eq_getElem_cons hk, List.takeWhile_cons, if_pos (by simpa using h), List.length_cons]
  omega

theorem mSpace_off {l : List UInt8} {k : Nat} (h : ∀ hk : k < l.length, ¬ isSp (l[k]'hk).toNat) : mSpace l k = k := by
  unfold mSpace
  by_cases hk : k < l.length
  · rw [List.drop_eq_getElem_cons hk, List.takeWhile_cons, if_neg (by simpa using h hk)]
    rfl
  · rw [List.drop_eq_nil_of_le (by omega)]
    rfl

end Go.Proofs.YtlgmdcaoogiooaaGreatDoor

namespace Go.Proofs.YtlgmdcaoogiooaaGreatDoor
open Go.RowKit

/-- What 'space' leaves. -/
structure SpRes (w : World) (b : Nat) (s : ByteArray) (tw lo : Bool) (f : Int) (op : Bool) (k : Nat) (e : Ending) (w' : World) : Prop where
  what : e = .returned (.tuple #[])
  rd : Rd w' b s k tw lo f op
  grown : w.grownBy w' (some b)

set_option maxRecDepth 100000 in
set_option maxHeartbeats 1000000 in
theorem space_any (b : Nat) (s : ByteArray) (k : Nat) (tw lo : Bool) (f : Int) (op : Bool) (w : World) (hs : s.size ≤ 9223372036854775806) (h : Rd w b s k tw lo f op) :
    Calls Tryz.prog 18 #[.pointer (some ⟨b, 0, none⟩)] w (SpRes w b s tw lo f op (mSpace s.data.toList k)) := by
  have H := Lib.hid h
  clear h
  go_enter Tryz.func18, Tryz.ntmps18
  go_wp2_with fail
  go_loopw [2] (fun _ wr => ∃ j : Nat, Rd wr b s j tw lo f op ∧ w.grownBy wr (some b) ∧ mSpace s.data.toList k = mSpace s.data.toList j)
    (fun _ wr => match wr.cell? ⟨b, 1, none⟩ with | some (.int _ i) => s.size - i.toNat | _ => 0)
  case atStart => exact ⟨k, H.out, grown_refl _ _, rfl⟩
  case round =>
    obtain ⟨j, hrd, hg, hm⟩ := hrel
    obtain ⟨c0, c1, _, _, f1, _⟩ := hrd.cells
    have hle := hrd.le
    have hlt := hrd.lt
    have HR := Lib.hid hrd
    have HG := Lib.hid hg
    have HM := Lib.hid hm
    clear hrd hg hm
    by_cases hk : j < s.size
    · have g0 : decide ((j : Int) < (s.size : Int)) = true := by simpa using hk
      have hi0 : (0 : Int) ≤ (j : Int) := by omega
      have hi1 : (j : Int) < (s.size : Int) := by omega
      have hgt : s.data.toList[j]'(by rw [size_eq]; exact hk) = s[j] := by simp [ByteArray.getElem_eq_getElem_data]
      have HGt := Lib.hid hgt
      clear hgt
      by_cases hsp : isSp (s[j]'hk).toNat
      · have HS := Lib.hid hsp
        clear hsp
        have HC := Lib.hid (show ∀ v, Calls Tryz.prog 16 #[.int .u8 (((s[j]'hk).toNat : Nat) : Int)] v fun e w' => e = .returned (.bool true) ∧ w' = v from fun v => (specSpace_any _ v).mono fun e w' q => ⟨by rw [q.2, decide_eq_true HS.out], q.1⟩)
        go_wp2_with fail
        go_big_quiet (first | (go_at_call 16; refine Calls.quiet_of_same (HC.out _)))
        go_wp2_with fail
        refine ⟨⟨j + 1, (HR.out.drewN _).setAt (j + 1) hk, grown_set (grown_drewN HG.out _) 1 _, HM.out.trans (mSpace_on (by rw [size_eq]; exact hk) (by rw [HGt.out]; exact HS.out))⟩, ?_⟩
        have hc1 := ((HR.out.drewN nq).setAt (j + 1) hk).cells.2.1
        rw [c1]
        have e1 : (((j + 1 : Nat)) : Int) = (j : Int) + 1 := by omega
        rw [e1] at hc1
        rw [hc1]
        show s.size - ((j : Int) + 1).toNat < s.size - ((j : Int)).toNat
        omega
      · have HS := Lib.hid hsp
        clear hsp
        have HC := Lib.hid (show ∀ v, Calls Tryz.prog 16 #[.int .u8 (((s[j]'hk).toNat : Nat) : Int)] v fun e w' => e = .returned (.bool false) ∧ w' = v from fun v => (specSpace_any _ v).mono fun e w' q => ⟨by rw [q.2, decide_eq_false HS.out], q.1⟩)
        go_wp2_with fail
        go_big_quiet (first | (go_at_call 16; refine Calls.quiet_of_same (HC.out _)))
        go_wp2_with fail
        refine bodyPost_end (v := .tuple #[]) (by simp [results, Tryz.results18]) rfl ⟨rfl, ?_, grown_drewN HG.out _⟩
        rw [HM.out, mSpace_off (fun hk2 => by rw [HGt.out]; exact HS.out)]
        exact HR.out.drewN _
    · have g0 : decide ((j : Int) < (s.size : Int)) = false := by simpa using hk
      go_wp2_with fail
      go_big_quiet (fail)
      go_wp2_with fail
      refine bodyPost_end (v := .tuple #[]) (by simp [results, Tryz.results18]) rfl ⟨rfl, ?_, grown_drewN HG.out _⟩
      rw [HM.out, mSpace_off (fun hk2 => absurd hk2 (by rw [size_eq]; exact hk))]
      exact HR.out.drewN _

end Go.Proofs.YtlgmdcaoogiooaaGreatDoor
