/- The law of a fault's place: the walk. -/
import Derived.Test.YtebiendmngmjcaaPrs
import Derived.Test.YtebiendmngmjcaaChkO
import Derived.Test.YtebiendmngmjcaaFits
namespace Go.Proofs.Ytebiendmngmjcaa
open Go.RowKit

theorem strsOne {w : World} {b : Nat} {a : ByteArray} (h : w.cell? ⟨b, 0, none⟩ = some (.string a)) : Strs w b [a] := by
  intro j hj
  have : j = 0 := by simp at hj; exact hj
  subst this
  exact h

theorem rules_ret {tmps : Array Value} {Z : World} {r : Nat} {v0 v1 : Value} (hZ : Z.heap[r]? = some (.cells #[v0, v1] 36 (0, 0))) (hp : tmps.getD 0 undef = .pointer (some ⟨r, 0, none⟩)) :
    (results Try.f8 tmps).run Try.prog Z = .ok (.agg #[v0, v1]) Z :=
  results_cell_row (p := 0) (ty := 36) rfl tmps Z r 36 #[v0, v1] (0, 0) _ hp hZ Try.underlying36 rfl (by kernel_rfl)

theorem oldRules_any (w : World) :
    Calls Try.prog 8 #[] w fun e w' => e = .returned (.agg #[.bool true, .bool true]) ∧ Below w.heap.size w w' := by
  go_enter Try.func8, Try.ntmps8
  go_wp2_with fail
  (try simp only [Exit.inBlock, Exit.then])
  refine bodyPost_ret (rules_ret (r := w.heap.size) (v0 := .bool true) (v1 := .bool true) ?_ rfl) rfl ⟨rfl, ?_⟩
  · have h0 := heap_alloc_new w (.cells #[.bool false, .bool false] 36)
    have h1 := heap_setCell_same _ w.heap.size 0 _ _ (.bool true) h0
    first
      | exact heap_setCell_same _ w.heap.size 1 _ _ (.bool true) h1
      | exact heap_alloc_new w (.cells #[.bool true, .bool true] 36)
  · exact ⟨rfl, rfl, rfl, by simp, fun k hk => by first | (rw [sc_far _ _ _ _ _ (by omega), sc_far _ _ _ _ _ (by omega), Below.heap_alloc _ _ _ hk]) | exact Below.heap_alloc _ _ _ hk⟩

end Go.Proofs.Ytebiendmngmjcaa
namespace Go.Proofs.Ytebiendmngmjcaa.OldPlace
open Go.RowKit

set_option maxRecDepth 100000 in
set_option maxHeartbeats 4000000 in
theorem walk (a0 : ByteArray) (w0 : a0.size ≤ maxLen) (w : World) :
    Calls Try.prog 4 #[.string a0] w fun e w' => e = .returned (.bool true) ∧ Below w.heap.size w w' := by
  obtain ⟨s, rfl⟩ : ∃ s, s = a0 := ⟨_, rfl⟩
  have hs0 : s.size ≤ 9223372036854775807 := by unfold maxLen at w0; omega
  clear w0
  by_cases h1 : 2147483647 < s.size
  · go_enter Try.func4, Try.ntmps4
    go_wp2
    go_ret
    exact ⟨rfl, Below.refl _ _⟩
  go_enter Try.func4, Try.ntmps4
  go_wp2_with fail
  refine (oldRules_any _).mono ?_
  rintro e w1 ⟨rfl, hb1⟩
  have B1 := Lib.hid hb1
  clear hb1
  go_wp2_with fail
  refine (parse_any s _ (by omega)).mono ?_
  rintro e w2 ⟨f, q, kd, tx, nv, kv, rfl, hp⟩
  have P := Lib.hid hp
  have B2 := Lib.hid (below_step B1.out hp.below)
  have hqs := hp.le
  obtain ⟨a1, n1, e1, rfl⟩ := hp.nl
  obtain ⟨a2, n2, e2, rfl⟩ := hp.kl
  clear hp
  obtain ⟨W3, hW3⟩ : ∃ W3, W3 = ((w2.alloc (.cells #[.int .u8 ((kd : Nat) : Int), .string tx, .slice a1 n1 e1, .slice a2 n2 e2] 30)).alloc (.cells #[.int .i64 f, .int .i64 ((q : Nat) : Int), .bool false] 32)).alloc (.cells #[.string s] 9) := ⟨_, rfl⟩
  have HW3 := Lib.hid hW3
  have hb1 : W3.heap[w2.heap.size + 1]? = some (.cells #[.int .i64 f, .int .i64 ((q : Nat) : Int), .bool false] 32 (0, 0)) := by
    have h0 := heap_alloc_new (w2.alloc (.cells #[.int .u8 ((kd : Nat) : Int), .string tx, .slice a1 n1 e1, .slice a2 n2 e2] 30)) (.cells #[.int .i64 f, .int .i64 ((q : Nat) : Int), .bool false] 32)
    rw [show (w2.alloc (.cells #[.int .u8 ((kd : Nat) : Int), .string tx, .slice a1 n1 e1, .slice a2 n2 e2] 30)).heap.size = w2.heap.size + 1 by simp] at h0
    rw [hW3, Below.heap_alloc _ _ _ (by simp)]
    exact h0
  have hb2 : W3.heap[w2.heap.size + 1 + 1]? = some (.cells #[.string s] 9 (0, 0)) := by
    have h0 := heap_alloc_new ((w2.alloc (.cells #[.int .u8 ((kd : Nat) : Int), .string tx, .slice a1 n1 e1, .slice a2 n2 e2] 30)).alloc (.cells #[.int .i64 f, .int .i64 ((q : Nat) : Int), .bool false] 32)) (.cells #[.string s] 9)
    rw [show ((w2.alloc (.cells #[.int .u8 ((kd : Nat) : Int), .string tx, .slice a1 n1 e1, .slice a2 n2 e2] 30)).alloc (.cells #[.int .i64 f, .int .i64 ((q : Nat) : Int), .bool false] 32)).heap.size = w2.heap.size + 1 + 1 by simp] at h0
    rw [hW3]
    exact h0
  have B3 := Lib.hid (show Below w.heap.size w W3 by rw [hW3]; exact ((B2.out.alloc B2.out.size _).alloc (by have := B2.out.size; simp; omega) _).alloc (by have := B2.out.size; simp; omega) _)
  have S3 := Lib.hid (strsOne (cell_of_row W3 (w2.heap.size + 1 + 1) 0 _ _ _ hb2))
  have O3 := Lib.hid hb1
  clear hW3 hb1 hb2
  go_wp2_with fail
  rw [← HW3.out]
  by_cases hs : s.size ≤ 1000
  · have hF : fitsB [s] = true := fitsB_true (fun j hj => by
      have : j = 0 := by simp at hj; exact hj
      subst this; exact hs)
    have HF := Lib.hid hF
    clear hF
    refine (fits8_any [s] _ _ _ _ rfl (by simp) S3.out (sizes1 (by omega))).mono ?_
    rintro e w3 ⟨rfl, rfl⟩
    rw [HF.out]
    go_wp2_with fail
    refine (oldCheck_any s _ hs).mono ?_
    rintro e w4 ⟨rfl, hb4⟩
    obtain ⟨er, her⟩ : ∃ er, (scanAll newCfg 0 s.data.toList).2.er = er := ⟨_, rfl⟩
    rw [her]
    have HE := Lib.hid (show fin gStart 0 s.data.toList = er from her)
    have hsz3 : w2.heap.size + 1 < W3.heap.size := (Array.getElem?_eq_some_iff.1 O3.out).1
    have o4 := (hb4.block (w2.heap.size + 1) hsz3).trans O3.out
    have o0 := cell_of_row w4 (w2.heap.size + 1) 0 _ _ _ o4
    have o1 := cell_of_row w4 (w2.heap.size + 1) 1 _ _ _ o4
    have B4 := Lib.hid (below_step B3.out hb4)
    clear her hb4 o4
    by_cases hf : f = 0
    · have he : er = none := HE.out.symm.trans (P.out.good hf).1
      subst hf he
      go_wp2_with fail
      go_ret
      exact ⟨rfl, B4.out⟩
    · have he : er = some ((min (q + 1) s.size : Nat) : Int) := HE.out.symm.trans (P.out.bad hf)
      have hf0 : (f == 0) = false := by rw [beq_eq_false_iff_ne]; exact hf
      clear hf
      by_cases hq : q + 1 ≤ s.size
      · have hm : min (q + 1) s.size = q + 1 := Nat.min_eq_left hq
        rw [hm] at he
        subst he
        have hq' : (q : Int) + 1 ≤ (s.size : Int) := by omega
        clear hm
        go_wp2_with fail
        go_ret
        exact ⟨rfl, B4.out⟩
      · have hm : min (q + 1) s.size = s.size := Nat.min_eq_right (by omega)
        rw [hm] at he
        subst he
        have hq' : ¬ (q : Int) + 1 ≤ (s.size : Int) := by omega
        clear hm
        go_wp2_with fail
        go_ret
        exact ⟨rfl, B4.out⟩
  · have hF : fitsB [s] = false := fitsB_false 0 (by simp) (by show 1000 < s.size; omega)
    have HF := Lib.hid hF
    clear hF
    refine (fits8_any [s] _ _ _ _ rfl (by simp) S3.out (sizes1 (by omega))).mono ?_
    rintro e w3 ⟨rfl, rfl⟩
    rw [HF.out]
    go_wp2_with fail
    go_ret
    exact ⟨rfl, B3.out⟩

end Go.Proofs.Ytebiendmngmjcaa.OldPlace
