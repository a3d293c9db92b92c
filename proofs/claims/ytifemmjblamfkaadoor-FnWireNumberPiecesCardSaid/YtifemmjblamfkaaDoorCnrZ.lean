/- ConsumeNumberResumable, from each of its entries. -/
import Derived.Test.YtifemmjblamfkaaDoorCnrI
namespace Go.Proofs.YtifemmjblamfkaaDoor
open Go.RowKit

theorem lab0 : ∃ c, findLabel (scopeOf Tryd.f13) 0 = some (.seq .skip c) := by
  simp only [scopeOf, Tryd.f13, findLabel, Nat.reduceBEq, reduceIte, Option.some.injEq, Code.seq.injEq, true_and]
  exact ⟨_, rfl⟩

theorem lab1 : ∃ c, findLabel (scopeOf Tryd.f13) 1 = some (.seq .skip c) := by
  simp only [scopeOf, Tryd.f13, findLabel, Nat.reduceBEq, Bool.false_eq_true, reduceIte, Option.some.injEq, Code.seq.injEq, true_and]
  exact ⟨_, rfl⟩

theorem lab2 : ∃ c, findLabel (scopeOf Tryd.f13) 2 = some (.seq .skip c) := by
  simp only [scopeOf, Tryd.f13, findLabel, Nat.reduceBEq, Bool.false_eq_true, reduceIte, Option.some.injEq, Code.seq.injEq, true_and]
  exact ⟨_, rfl⟩

set_option maxRecDepth 100000 in
set_option maxHeartbeats 4000000 in
theorem cnr5 (l : List UInt8) (b cap n : Nat) (eofV : Value) (w : World) (hl : l.length ≤ 4000) (hcap : l.length ≤ cap) (hn : n ≤ l.length) (hB : Bytes w b 0 l) (hbw : b < w.heap.size) (hT : Lib.Utf8Tabs 2 3 w) (hg : w.cell? ⟨0, 0, none⟩ = some eofV) :
    Calls Tryd.prog 13 #[.slice (some ⟨b, 0, none⟩) l.length cap, .int .i64 (n : Int), .int .u64 5] w (CnRes w eofV (cExp l n 5)) := by
  obtain ⟨c, hf⟩ := lab2
  have HB := Lib.hid hB
  have HT := Lib.hid hT
  have HF := Lib.hid hf
  clear hB hT hf
  go_enter Tryd.func13, Tryd.ntmps13
  (try go_wp2_with fail)
  refine wp_scope_goto 2 HF.out ?_
  go_wp2_with fail
  go_step3
  (try simp only [Exit.inBlock, Exit.then])
  refine ⟨rfl, ?_⟩
  go_wp2_with fail
  exact exp_tail l b cap n 5 eofV w hl hcap hn HB.out hbw HT.out hg HF.out

set_option maxRecDepth 100000 in
set_option maxHeartbeats 4000000 in
theorem cnr3 (l : List UInt8) (b cap n : Nat) (eofV : Value) (w : World) (hl : l.length ≤ 4000) (hcap : l.length ≤ cap) (hn : n ≤ l.length) (hB : Bytes w b 0 l) (hbw : b < w.heap.size) (hT : Lib.Utf8Tabs 2 3 w) (hg : w.cell? ⟨0, 0, none⟩ = some eofV) :
    Calls Tryd.prog 13 #[.slice (some ⟨b, 0, none⟩) l.length cap, .int .i64 (n : Int), .int .u64 3] w (CnRes w eofV (cFrac l n 3)) := by
  obtain ⟨c, hf⟩ := lab1
  have HB := Lib.hid hB
  have HT := Lib.hid hT
  have HF := Lib.hid hf
  clear hB hT hf
  go_enter Tryd.func13, Tryd.ntmps13
  (try go_wp2_with fail)
  refine wp_scope_goto 1 HF.out ?_
  go_wp2_with fail
  go_step3
  (try simp only [Exit.inBlock, Exit.then])
  refine ⟨rfl, ?_⟩
  go_wp2_with fail
  exact frac_tail l b cap n 3 eofV w hl hcap hn HB.out hbw HT.out hg HF.out

set_option maxRecDepth 100000 in
set_option maxHeartbeats 4000000 in
theorem cnr1 (l : List UInt8) (b cap : Nat) (eofV : Value) (w : World) (hl : l.length ≤ 4000) (hcap : l.length ≤ cap) (hB : Bytes w b 0 l) (hbw : b < w.heap.size) (hT : Lib.Utf8Tabs 2 3 w) (hg : w.cell? ⟨0, 0, none⟩ = some eofV) :
    Calls Tryd.prog 13 #[.slice (some ⟨b, 0, none⟩) l.length cap, .int .i64 0, .int .u64 1] w (CnRes w eofV (cInt l 1)) := by
  obtain ⟨c, hf⟩ := lab0
  have HB := Lib.hid hB
  have HT := Lib.hid hT
  have HF := Lib.hid hf
  clear hB hT hf
  go_enter Tryd.func13, Tryd.ntmps13
  (try go_wp2_with fail)
  refine wp_scope_goto 0 HF.out ?_
  go_wp2_with fail
  go_step3
  (try simp only [Exit.inBlock, Exit.then])
  refine ⟨rfl, ?_⟩
  go_wp2_with fail
  exact int_tail l b cap 1 eofV w hl hcap HB.out hbw HT.out hg HF.out

set_option maxRecDepth 100000 in
set_option maxHeartbeats 4000000 in
theorem cnr0 (l : List UInt8) (b cap : Nat) (eofV : Value) (w : World) (hl : l.length ≤ 4000) (hcap : l.length ≤ cap) (hB : Bytes w b 0 l) (hbw : b < w.heap.size) (hT : Lib.Utf8Tabs 2 3 w) (hg : w.cell? ⟨0, 0, none⟩ = some eofV) :
    Calls Tryd.prog 13 #[.slice (some ⟨b, 0, none⟩) l.length cap, .int .i64 0, .int .u64 0] w (CnRes w eofV (cInt l 0)) := by
  have HB := Lib.hid hB
  have HT := Lib.hid hT
  clear hB hT
  go_enter Tryd.func13, Tryd.ntmps13
  (try go_wp2_with fail)
  go_step3
  go_wp2_with fail
  go_step3
  (try simp only [Exit.then])
  go_step
  exact int_tail l b cap 0 eofV w hl hcap HB.out hbw HT.out hg (by rfl)

end Go.Proofs.YtifemmjblamfkaaDoor
