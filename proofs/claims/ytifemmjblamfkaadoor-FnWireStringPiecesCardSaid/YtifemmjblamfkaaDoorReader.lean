/- The reference's reader: what its smallest steps do to it. -/
import Derived.Test.YtifemmjblamfkaaDoorChecked
import Derived.Test.YtifemmjblamfkaaDoorLib
import Derived.Maps.AppendAt
import Derived.Deep.QuietTactic
import Derived.BigQuiet
namespace Go.Proofs.YtifemmjblamfkaaDoor
open Go.RowKit

/-- The reader in block b: its text, its place, its rules, its fault, what it leaves open. -/
structure Rd (w : World) (b : Nat) (s : ByteArray) (k : Nat) (tw lo : Bool) (f : Int) (op : Bool) : Prop where
  row : w.heap[b]? = some (.cells #[.string s, .int .i64 k, .bool tw, .bool lo, .int .i64 f, .bool op] 36 (0, 0))
  le : k ≤ s.size

theorem Rd.lt {w : World} {b : Nat} {s : ByteArray} {k : Nat} {tw lo : Bool} {f : Int} {op : Bool} (h : Rd w b s k tw lo f op) : b < w.heap.size := (Array.getElem?_eq_some_iff.1 h.row).1

theorem Rd.cells {w : World} {b : Nat} {s : ByteArray} {k : Nat} {tw lo : Bool} {f : Int} {op : Bool} (h : Rd w b s k tw lo f op) :
    w.cell? ⟨b, 0, none⟩ = some (.string s) ∧ w.cell? ⟨b, 1, none⟩ = some (.int .i64 k) ∧ w.cell? ⟨b, 3, none⟩ = some (.bool lo) ∧ w.cell? ⟨b, 4, none⟩ = some (.int .i64 f) ∧
    w.frozen? ⟨b, 1, none⟩ = false ∧ w.frozen? ⟨b, 4, none⟩ = false :=
  ⟨cell_of_row w b 0 _ _ _ h.row, cell_of_row w b 1 _ _ _ h.row, cell_of_row w b 3 _ _ _ h.row, cell_of_row w b 4 _ _ _ h.row, frozen_of_row w b 1 _ _ h.row, frozen_of_row w b 4 _ _ h.row⟩

theorem Rd.all {w : World} {b : Nat} {s : ByteArray} {k : Nat} {tw lo : Bool} {f : Int} {op : Bool} (h : Rd w b s k tw lo f op) :
    w.cell? ⟨b, 0, none⟩ = some (.string s) ∧ w.cell? ⟨b, 1, none⟩ = some (.int .i64 k) ∧ w.cell? ⟨b, 2, none⟩ = some (.bool tw) ∧ w.cell? ⟨b, 3, none⟩ = some (.bool lo) ∧ w.cell? ⟨b, 4, none⟩ = some (.int .i64 f) ∧ w.cell? ⟨b, 5, none⟩ = some (.bool op) :=
  ⟨cell_of_row w b 0 _ _ _ h.row, cell_of_row w b 1 _ _ _ h.row, cell_of_row w b 2 _ _ _ h.row, cell_of_row w b 3 _ _ _ h.row, cell_of_row w b 4 _ _ _ h.row, cell_of_row w b 5 _ _ _ h.row⟩

theorem Rd.setAt {w : World} {b : Nat} {s : ByteArray} {k : Nat} {tw lo : Bool} {f : Int} {op : Bool} (h : Rd w b s k tw lo f op) (k' : Nat) (hk : k' ≤ s.size) : Rd (w.setCell ⟨b, 1, none⟩ (.int .i64 k')) b s k' tw lo f op :=
  ⟨heap_setCell_same w b 1 _ _ _ h.row, hk⟩

theorem Rd.setFault {w : World} {b : Nat} {s : ByteArray} {k : Nat} {tw lo : Bool} {f : Int} {op : Bool} (h : Rd w b s k tw lo f op) (f' : Int) : Rd (w.setCell ⟨b, 4, none⟩ (.int .i64 f')) b s k tw lo f' op :=
  ⟨heap_setCell_same w b 4 _ _ _ h.row, h.le⟩

theorem Rd.same {w w' : World} {b : Nat} {s : ByteArray} {k : Nat} {tw lo : Bool} {f : Int} {op : Bool} (h : Rd w b s k tw lo f op) (e : w'.heap[b]? = w.heap[b]?) : Rd w' b s k tw lo f op := ⟨e.trans h.row, h.le⟩

theorem Rd.drew {w : World} {b : Nat} {s : ByteArray} {k : Nat} {tw lo : Bool} {f : Int} {op : Bool} (h : Rd w b s k tw lo f op) : Rd w.drew b s k tw lo f op := ⟨h.row, h.le⟩
theorem Rd.drewN {w : World} {b : Nat} {s : ByteArray} {k : Nat} {tw lo : Bool} {f : Int} {op : Bool} (h : Rd w b s k tw lo f op) (n : Nat) : Rd (w.drewN n) b s k tw lo f op := ⟨h.row, h.le⟩

theorem grown_refl (w : World) (row : Option Nat) : w.grownBy w row := ⟨rfl, rfl, rfl, Nat.le_refl _, fun _ _ _ => rfl⟩
theorem grown_drew {w w' : World} {row : Option Nat} (h : w.grownBy w' row) : w.grownBy w'.drew row := ⟨h.os, h.tape, h.output, h.size, h.block⟩
theorem grown_drewN {w w' : World} {row : Option Nat} (h : w.grownBy w' row) (n : Nat) : w.grownBy (w'.drewN n) row := ⟨h.os, h.tape, h.output, h.size, h.block⟩
theorem grown_set {w w' : World} {b : Nat} (h : w.grownBy w' (some b)) (o : Nat) (v : Value) : w.grownBy (w'.setCell ⟨b, o, none⟩ v) (some b) :=
  ⟨h.os, h.tape, h.output, by simp [World.setCell]; exact h.size, fun k hk hne => (Below.heap_setCell w' ⟨b, o, none⟩ v k (fun e => hne (by rw [e]))).trans (h.block k hk hne)⟩
theorem grown_alloc {w w' : World} {row : Option Nat} (h : w.grownBy w' row) (o : Obj) : w.grownBy (w'.alloc o) row :=
  ⟨h.os, h.tape, h.output, by have := h.size; simp; omega, fun k hk hne => (Below.heap_alloc w' o k (Nat.lt_of_lt_of_le hk h.size)).trans (h.block k hk hne)⟩

/-- Where reading stands: at k, with a fault if it has not gone well, else with the fault that was there. -/
structure Stood (w : World) (b : Nat) (s : ByteArray) (tw lo : Bool) (f : Int) (op : Bool) (ok : Bool) (k : Nat) (w' : World) : Prop where
  grown : w.grownBy w' (some b)
  rd : ∃ f', Rd w' b s k tw lo f' op ∧ (ok = true → f' = f) ∧ (ok = false → f' ≠ 0)

/-- How a step of reading ends: what it answers and where it stands then; a fault is told exactly where it answers no. -/
def Step (w : World) (b : Nat) (s : ByteArray) (tw lo : Bool) (f : Int) (op : Bool) (r : Bool × Nat) (e : Ending) (w' : World) : Prop :=
  e = .returned (.bool r.1) ∧ Stood w b s tw lo f op r.1 r.2 w'

theorem Stood.from {w w1 w2 : World} {b : Nat} {s : ByteArray} {tw lo : Bool} {f f1 : Int} {op ok : Bool} {k : Nat} (h : w.grownBy w1 (some b)) (hf : f1 = f) (k2 : Stood w1 b s tw lo f1 op ok k w2) : Stood w b s tw lo f op ok k w2 := by
  subst hf
  exact ⟨h.trans k2.grown, k2.rd⟩

/-- What lay below the reader is as it was. -/
theorem Stood.below {w w' : World} {b : Nat} {s : ByteArray} {tw lo : Bool} {f : Int} {op ok : Bool} {k : Nat} (h : Stood w b s tw lo f op ok k w') (hb : b ≤ w.heap.size) : Below b w w' :=
  (Below.refl b w).grown h.grown hb (fun k e => by cases e; exact Nat.le_refl _)

/-- 'fail'. -/
theorem fail_any (b : Nat) (s : ByteArray) (k : Nat) (tw lo : Bool) (f : Int) (op : Bool) (c : Int) (hc : c ≠ 0) (w : World) (h : Rd w b s k tw lo f op) :
    Calls Tryd.prog 23 #[.pointer (some ⟨b, 0, none⟩), .int .i64 c] w (Step w b s tw lo f op (false, k)) := by
  obtain ⟨_, _, _, c4, _, f4⟩ := h.cells
  have H := Lib.hid h
  have HC := Lib.hid hc
  clear h hc
  by_cases hf : f = 0
  · subst hf
    go_enter Tryd.func23, Tryd.ntmps23
    go_wp2
    go_ret
    exact ⟨rfl, grown_set (grown_refl _ _) _ _, c, H.out.setFault c, (fun h => by cases h), fun _ => HC.out⟩
  · have HF := Lib.hid hf
    have hf' : (f == 0) = false := by rw [beq_eq_false_iff_ne]; exact hf
    clear hf
    go_enter Tryd.func23, Tryd.ntmps23
    go_wp2
    go_ret
    exact ⟨rfl, grown_refl _ _, f, H.out, (fun h => by cases h), fun _ => HF.out⟩

/-- 'need', in plain words. -/
def mNeed (l : List UInt8) (lo hi : Int) (k : Nat) : Bool × Nat :=
  match l[k]? with
  | some c => if lo ≤ (c.toNat : Int) ∧ (c.toNat : Int) ≤ hi then (true, k + 1) else (false, k)
  | none => (false, k)

set_option maxHeartbeats 400000 in
theorem need_any (b : Nat) (s : ByteArray) (k : Nat) (tw lo : Bool) (f : Int) (op : Bool) (c d : Int) (w : World) (hs : s.size ≤ 9223372036854775806) (h : Rd w b s k tw lo f op) :
    Calls Tryd.prog 21 #[.pointer (some ⟨b, 0, none⟩), .int .u8 c, .int .u8 d] w (Step w b s tw lo f op (mNeed s.data.toList c d k)) := by
  obtain ⟨c0, c1, _, _, f1, _⟩ := h.cells
  have hle := h.le
  have hlt := h.lt
  have H := Lib.hid h
  clear h
  have hget : ∀ hk : k < s.size, s.data.toList[k]? = some s[k] := fun hk => by
    simp [ByteArray.getElem_eq_getElem_data, hk]
  have HG := Lib.hid hget
  clear hget
  by_cases hk : k < s.size
  · have g0 : decide (s.size ≤ k) = false := by simpa using hk
    by_cases hc : ((s[k].toNat : Nat) : Int) < c
    · have HM : Hid (mNeed s.data.toList c d k = (false, k)) := by
        unfold mNeed
        rw [HG.out hk]
        exact if_neg (by omega)
      have g1 : decide (((s[k].toNat : Nat) : Int) < c) = true := by simpa using hc
      go_enter Tryd.func21, Tryd.ntmps21
      go_wp2
      go_big_quiet (fail)
      go_wp2_with (go_at_call 23; refine (fail_any b s k tw lo f op 4 (by decide) _ (H.out.drewN _)).mono ?_; rintro e w1 ⟨rfl, hst⟩; have X := Lib.hid hst; clear hst)
      go_ret
      rw [HM.out]
      exact ⟨rfl, Stood.from (grown_drewN (grown_refl w _) nq) rfl X.out⟩
    · have g1 : decide (((s[k].toNat : Nat) : Int) < c) = false := by simpa using hc
      by_cases hd : d < ((s[k].toNat : Nat) : Int)
      · have HM : Hid (mNeed s.data.toList c d k = (false, k)) := by
          unfold mNeed
          rw [HG.out hk]
          exact if_neg (by omega)
        have g2 : decide (d < ((s[k].toNat : Nat) : Int)) = true := by simpa using hd
        go_enter Tryd.func21, Tryd.ntmps21
        go_wp2
        go_big_quiet (fail)
        go_wp2_with (go_at_call 23; refine (fail_any b s k tw lo f op 4 (by decide) _ (H.out.drewN _)).mono ?_; rintro e w1 ⟨rfl, hst⟩; have X := Lib.hid hst; clear hst)
        go_ret
        rw [HM.out]
        exact ⟨rfl, Stood.from (grown_drewN (grown_refl w _) nq) rfl X.out⟩
      · have HM : Hid (mNeed s.data.toList c d k = (true, k + 1)) := by
          unfold mNeed
          rw [HG.out hk]
          exact if_pos (by omega)
        have g2 : decide (d < ((s[k].toNat : Nat) : Int)) = false := by simpa using hd
        go_enter Tryd.func21, Tryd.ntmps21
        go_wp2
        go_big_quiet (fail)
        go_wp2_with fail
        go_ret
        rw [HM.out]
        exact ⟨rfl, grown_set (grown_drewN (grown_refl w _) nq) _ _, f, by have := (H.out.drewN nq).setAt (k + 1) hk; simpa using this, fun _ => rfl, (fun h => by cases h)⟩
  · have g0 : decide (s.size ≤ k) = true := by simp; omega
    have HM : Hid (mNeed s.data.toList c d k = (false, k)) := by
      unfold mNeed
      rw [List.getElem?_eq_none (by rw [size_eq]; omega)]
      exact rfl
    go_enter Tryd.func21, Tryd.ntmps21
    go_wp2
    go_big_quiet (fail)
    go_wp2_with (go_at_call 23; refine (fail_any b s k tw lo f op 4 (by decide) _ (H.out.drewN _)).mono ?_; rintro e w1 ⟨rfl, hst⟩; have X := Lib.hid hst; clear hst)
    go_ret
    rw [HM.out]
    exact ⟨rfl, Stood.from (grown_drewN (grown_refl w _) nq) rfl X.out⟩

end Go.Proofs.YtifemmjblamfkaaDoor
