/- The law of a value's kind: the walk. -/
import Derived.Test.YtebiendmngmjcaaDoorOldR
import Derived.Test.YtebiendmngmjcaaDoorKindW
import Derived.Deep.RegionWith
namespace Go.Proofs.YtebiendmngmjcaaDoor.KindLaw
open Go.RowKit

theorem Below.drewB {n : Nat} (w : World) : Below n w w.drew := ⟨rfl, rfl, rfl, Nat.le_refl _, fun _ _ => rfl⟩

set_option maxRecDepth 100000 in
set_option maxHeartbeats 4000000 in
theorem walk (a0 : ByteArray) (w0 : a0.size ≤ maxLen) (w : World) (hT : KindTab w) :
    Calls Tryd.prog 3 #[.string a0] w fun e w' => e = .returned (.bool true) ∧ Below w.heap.size w w' := by
  obtain ⟨s, rfl⟩ : ∃ s, s = a0 := ⟨_, rfl⟩
  have hs0 : s.size ≤ 9223372036854775807 := by unfold maxLen at w0; omega
  have h0 : 0 < w.heap.size := by have := Go.block_lt_of_cell (hT 0 (by decide)); exact this
  have HT := Lib.hid hT
  clear w0 hT
  by_cases h1 : 2147483647 < s.size
  · go_enter Tryd.func3, Tryd.ntmps3
    go_wp2
    go_ret
    exact ⟨rfl, Below.refl _ _⟩
  go_enter Tryd.func3, Tryd.ntmps3
  go_wp2_with fail
  refine (oldRules_any _).mono ?_
  rintro e w1 ⟨rfl, hb1⟩
  have B1 := Lib.hid hb1
  clear hb1
  go_wp2_with fail
  refine (parse_any s _ (by omega)).mono ?_
  rintro e w2 ⟨f, q, kd, tx, nv, kv, rfl, hp⟩
  have P := Lib.hid hp
  have B2 := Lib.hid (below_step B1.out hp.below)
  obtain ⟨a1, n1, e1, rfl⟩ := hp.nl
  obtain ⟨a2, n2, e2, rfl⟩ := hp.kl
  clear hp
  obtain ⟨W3, hW3⟩ : ∃ W3, W3 = (w2.alloc (.cells #[.int .u8 ((kd : Nat) : Int), .string tx, .slice a1 n1 e1, .slice a2 n2 e2] 25)).alloc (.cells #[.int .i64 f, .int .i64 ((q : Nat) : Int), .bool false] 27) := ⟨_, rfl⟩
  have HW3 := Lib.hid hW3
  have hb0 : W3.heap[w2.heap.size]? = some (.cells #[.int .u8 ((kd : Nat) : Int), .string tx, .slice a1 n1 e1, .slice a2 n2 e2] 25 (0, 0)) := by
    rw [hW3, Below.heap_alloc _ _ _ (by simp)]
    exact heap_alloc_new w2 _
  have hb1 : W3.heap[w2.heap.size + 1]? = some (.cells #[.int .i64 f, .int .i64 ((q : Nat) : Int), .bool false] 27 (0, 0)) := by
    have h0 := heap_alloc_new (w2.alloc (.cells #[.int .u8 ((kd : Nat) : Int), .string tx, .slice a1 n1 e1, .slice a2 n2 e2] 25)) (.cells #[.int .i64 f, .int .i64 ((q : Nat) : Int), .bool false] 27)
    rw [show (w2.alloc (.cells #[.int .u8 ((kd : Nat) : Int), .string tx, .slice a1 n1 e1, .slice a2 n2 e2] 25)).heap.size = w2.heap.size + 1 by simp] at h0
    rw [hW3]
    exact h0
  have hsz : W3.heap.size = w2.heap.size + 1 + 1 := by rw [hW3]; simp
  have B3 := Lib.hid (show Below w.heap.size w W3 by rw [hW3]; exact (B2.out.alloc B2.out.size _).alloc (by have := B2.out.size; simp; omega) _)
  obtain ⟨rn, hrn⟩ : ∃ rn, rn = w2.heap.size := ⟨_, rfl⟩
  obtain ⟨ro, hro⟩ : ∃ ro, ro = w2.heap.size + 1 := ⟨_, rfl⟩
  rw [← hrn] at hb0
  rw [← hro] at hb1
  have HB0 := Lib.hid hb0
  have HB1 := Lib.hid hb1
  have HRN := Lib.hid hrn
  have HRO := Lib.hid hro
  have HSZ := Lib.hid hsz
  have c0 := cell_of_row W3 rn 0 _ _ _ hb0
  have c1 := cell_of_row W3 ro 0 _ _ _ hb1
  have hl0 : rn < W3.heap.size := by omega
  have hl1 : ro < W3.heap.size := by omega
  have x0 : ¬ W3.heap.size = rn := by omega
  have x1 : ¬ W3.heap.size = ro := by omega
  have HT3 := Lib.hid (HT.out.below B3.out h0)
  have h03 : 0 < W3.heap.size := by omega
  clear hW3 hb0 hb1 hsz
  go_wp2_with fail
  rw [← HW3.out]
  (try rw [← hro])
  (try rw [← hrn])
  clear hrn hro
  have hk : f = 0 → ∃ d : UInt8, s.data.toList[mSpace s.data.toList 0]? = some d ∧ normK d.toNat = kd := fun hf => by
    obtain ⟨_, v, T, hv, _, hr⟩ := P.out.good hf
    obtain ⟨d, hd, hn⟩ := val_kind hv
    exact ⟨d, hd, hn.trans (rep_kind hr)⟩
  have HK := Lib.hid hk
  clear hk
  have KT := Lib.hid (show ∀ o, KindTab (W3.alloc o).drew from fun o c hc => (cell_of_heap (Below.heap_alloc W3 o 0 h03) c).trans (HT3.out c hc))
  by_cases hs : s.size ≤ 1000
  · have HF := Lib.hid (show fitsB [s] = true from fitsB_true (fun j hj => by
      have : j = 0 := by simp at hj; exact hj
      subst this; exact hs))
    by_cases hf : f = 0
    · obtain ⟨d, hd, hn⟩ := HK.out hf
      have HD := Lib.hid hd
      have HN := Lib.hid hn
      have hkd : kd < 256 := by rw [← hn]; exact normK_lt _ d.toNat_lt
      have hkd2 : (kd : Int) < 256 := by omega
      have hkd3 : IntKind.i64.wrap (kd : Int) = (kd : Int) := by rw [IntWalk.i64_in _ (by omega)]
      subst hf
      clear hd hn
      first | go_region_with (first
        | (go_at_call 6; refine (fits8_any [s] _ _ _ _ rfl (by simp) (strsOne (by simp)) (sizes1 (by omega))).mono ?_; rintro e w4 ⟨rfl, rfl⟩; rw [HF.out])
        | (go_at_call 7; refine (kindOf_any s _ hs (KT.out _) d HD.out).mono ?_; rw [HN.out]; rintro e w5 ⟨rfl, hb5⟩; have c5 : w5.cell? ⟨rn, 0, none⟩ = some (.int .u8 ((kd : Nat) : Int)) := (cell_of_heap (hb5.block rn (by simp; omega)) 0).trans ((cell_of_heap (Below.heap_alloc W3 _ rn hl0) 0).trans c0); have B5 := Lib.hid hb5; clear hb5)) | fail
      all_goals
        go_wp2_with fail
        go_ret
        exact ⟨rfl, B3.out.trans ((((Below.refl _ W3).alloc (Nat.le_refl _) (.cells #[.string s] 9)).trans (show Below W3.heap.size (W3.alloc (.cells #[.string s] 9)) w5 from ⟨B5.out.os, B5.out.tape, B5.out.output, B5.out.size, fun k hk => B5.out.block k (by simp; omega)⟩)).mono B3.out.size)⟩
    · have hf1 : (f != 0) = true := by simpa using hf
      have hf2 : (f == 0) = false := by rw [beq_eq_false_iff_ne]; exact hf
      first | go_region_with (first
        | (go_at_call 6; refine (fits8_any [s] _ _ _ _ rfl (by simp) (strsOne (by simp)) (sizes1 (by omega))).mono ?_; rintro e w4 ⟨rfl, rfl⟩; rw [HF.out])) | fail
      all_goals
        go_wp2_with fail
        go_ret
        exact ⟨rfl, B3.out.trans (((Below.drewB W3).alloc (Nat.le_refl _) _).mono B3.out.size)⟩
  · have HF := Lib.hid (show fitsB [s] = false from fitsB_false 0 (by simp) (by show 1000 < s.size; omega))
    first | go_region_with (first
      | (go_at_call 6; refine (fits8_any [s] _ _ _ _ rfl (by simp) (strsOne (by simp)) (sizes1 (by omega))).mono ?_; rintro e w4 ⟨rfl, rfl⟩; rw [HF.out])) | fail
    all_goals
      go_wp2_with fail
      go_ret
      exact ⟨rfl, B3.out.trans (((Below.drewB W3).alloc (Nat.le_refl _) _).mono B3.out.size)⟩

end Go.Proofs.YtebiendmngmjcaaDoor.KindLaw
