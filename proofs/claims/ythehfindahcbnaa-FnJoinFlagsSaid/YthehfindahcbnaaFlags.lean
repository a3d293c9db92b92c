/- Joined flags: the given and the true bits, as the law reckons them. -/
import Derived.Test.YthehfindahcbnaaChecked
import Derived.WalkKit
import Derived.ProofKit
import Derived.Deep.QuietTactic
import Derived.BigQuiet
import Derived.Lib.Hide
import Derived.Deep.RegionHeld3
import Derived.Test.YthehfindahcbnaaLib
namespace Go.Proofs.Ythehfindahcbnaa.Flags
open Go.RowKit

def J0 (g g' : Int) : Int := bits .or .u64 g g'
def J1 (t g' t' : Int) : Int := bits .or .u64 (bits .and .u64 t (bits .xor .u64 IntKind.u64.max g')) t'

theorem and_not (t g' : Int) : bits .and .u64 t (bits .xor .u64 IntKind.u64.max g') = bits .andNot .u64 t g' := by
  have hw : ∀ x : BitVec 64, BitVec.ofInt 64 (IntKind.u64.wrap (x.toNat : Int)) = x := by
    intro x
    have h := x.isLt
    simp only [IntKind.wrap, IntKind.signed, IntKind.bits]
    apply BitVec.eq_of_toNat_eq
    simp
    omega
  have hm : BitVec.ofInt 64 IntKind.u64.max = BitVec.allOnes 64 := by decide +kernel
  unfold bits
  simp only [IntKind.bits]
  rw [hw, hm]
  congr 3

set_option maxHeartbeats 400000 in
theorem join_any (b : Nat) (g t g' t' : Int) (w : World) (hb : b < w.heap.size) (h0 : w.cell? ⟨b, 0, none⟩ = some (.int .u64 g)) (h1 : w.cell? ⟨b, 1, none⟩ = some (.int .u64 t))
    (f0 : w.frozen? ⟨b, 0, none⟩ = false) (f1 : w.frozen? ⟨b, 1, none⟩ = false) :
    Calls Try.prog 10 #[.pointer (some ⟨b, 0, none⟩), .agg #[.int .u64 g', .int .u64 t']] w fun e w' => e = .returned (.tuple #[]) ∧ w'.cell? ⟨b, 0, none⟩ = some (.int .u64 (J0 g g')) ∧ w'.cell? ⟨b, 1, none⟩ = some (.int .u64 (J1 t g' t')) ∧ Below b w w' := by
  have hb' : b ≠ w.heap.size := by omega
  unfold J0 J1
  go_enter Try.func10, Try.ntmps10
  go_wp2
  go_region
  go_wp2
  go_region
  go_wp2
  go_region
  go_wp2
  refine bodyPost_end (v := .tuple #[]) (by simp [results, Try.results10]) rfl ⟨rfl, by go_simp, ?_, ?_⟩
  · go_simp
    exact World.cell?_setCell_same' _ _ _ (by rw [World.cell?_setCell_same' _ _ _ (by rw [World.cell?_setCell_other _ _ _ _ (by simp), h1]; rfl)]; rfl)
  · exact (((((((Below.refl b w).setCell (p := ⟨b, 0, none⟩) (Nat.le_refl _) _).setCell (p := ⟨b, 1, none⟩) (Nat.le_refl _) _).setCell (p := ⟨b, 1, none⟩) (Nat.le_refl _) _).alloc (by simp [World.setCell]; omega) _).drew).drew).drew

theorem kept_any (g t : Int) (w : World) :
    Calls Try.prog 9 #[.agg #[.int .u64 g, .int .u64 t]] w fun e w' => e = .returned (.agg #[.int .u64 g, .int .u64 t]) ∧ Below w.heap.size w w' := by
  go_enter Try.func9, Try.ntmps9
  go_wp2
  refine bodyPost_ret (v := .agg #[.int .u64 g, .int .u64 t]) (by simp [results, Try.results9, go_sem]) rfl ⟨rfl, ?_⟩
  exact ((Below.refl _ _).alloc (Nat.le_refl _) _).alloc (by simp) _

theorem told_any (g t : Int) (w : World) :
    Calls Try.prog 11 #[.agg #[.int .u64 g, .int .u64 t]] w fun e w' => e = .returned (.agg #[.int .u64 g, .int .u64 t]) ∧ Below w.heap.size w w' := by
  go_enter Try.func11, Try.ntmps11
  go_wp2
  refine bodyPost_ret (v := .agg #[.int .u64 g, .int .u64 t]) (by simp [results, Try.results11, go_sem]) rfl ⟨rfl, ?_⟩
  exact ((Below.refl _ _).alloc (Nat.le_refl _) _).alloc (by simp) _

set_option maxHeartbeats 400000 in
theorem joinFlags_any (g t g' t' : Int) (w : World) :
    Calls Try.prog 6 #[.agg #[.int .u64 g, .int .u64 t], .agg #[.int .u64 g', .int .u64 t']] w fun e w' => e = .returned (.agg #[.int .u64 (J0 g g'), .int .u64 (J1 t g' t')]) ∧ Below w.heap.size w w' := by
  go_enter Try.func6, Try.ntmps6
  go_wp2_with fail
  refine (kept_any g t _).mono ?_
  rintro e w1 ⟨rfl, b1⟩
  have c0 : w1.cell? ⟨w.heap.size + 1, 0, none⟩ = some (.int .u64 g') := (b1.cell (p := ⟨w.heap.size + 1, 0, none⟩) (by simp)).trans (by go_simp)
  have c1 : w1.cell? ⟨w.heap.size + 1, 1, none⟩ = some (.int .u64 t') := (b1.cell (p := ⟨w.heap.size + 1, 1, none⟩) (by simp)).trans (by go_simp)
  have n1 : w.heap.size + 1 < w1.heap.size := by
    have := b1.size
    simp at this
    omega
  have B1 := Lib.hid b1
  clear b1
  go_wp2_with fail
  refine (kept_any g' t' _).mono ?_
  rintro e w2 ⟨rfl, b2⟩
  have d0 : w2.cell? ⟨w1.heap.size, 0, none⟩ = some (.int .u64 g) := (b2.cell (p := ⟨w1.heap.size, 0, none⟩) (by simp)).trans (by go_simp)
  have d1 : w2.cell? ⟨w1.heap.size, 1, none⟩ = some (.int .u64 t) := (b2.cell (p := ⟨w1.heap.size, 1, none⟩) (by simp)).trans (by go_simp)
  have e0 : w2.frozen? ⟨w1.heap.size, 0, none⟩ = false := (b2.frozen (p := ⟨w1.heap.size, 0, none⟩) (by simp)).trans (by go_simp)
  have e1 : w2.frozen? ⟨w1.heap.size, 1, none⟩ = false := (b2.frozen (p := ⟨w1.heap.size, 1, none⟩) (by simp)).trans (by go_simp)
  have z2 : w1.heap.size < w2.heap.size := by
    have := b2.size
    simp at this
    omega
  have B2 := Lib.hid b2
  have D0 := Lib.hid d0
  have D1 := Lib.hid d1
  have E0 := Lib.hid e0
  have E1 := Lib.hid e1
  clear b2 c0 c1 d0 d1 e0 e1
  go_wp2_with fail
  refine (join_any _ g t g' t' _ z2 D0.out D1.out E0.out E1.out).mono ?_
  rintro e w3 ⟨rfl, g0, g1, b3⟩
  have z3 := b3.size
  have B3 := Lib.hid b3
  clear b3
  go_wp2_with fail
  refine (told_any _ _ _).mono ?_
  rintro e w4 ⟨rfl, b4⟩
  have s1 : w.heap.size + 3 ≤ w1.heap.size := by
    have := B1.out.size
    simp at this
    omega
  have blk : w4.heap[w.heap.size + 1 + 1]? = (((w.alloc (.cells #[.int .u64 g, .int .u64 t] 24)).alloc (.cells #[.int .u64 g', .int .u64 t'] 24)).alloc (.cells #[.int .u64 0, .int .u64 0] 24)).heap[w.heap.size + 1 + 1]? :=
    (b4.block _ (by omega)).trans ((B3.out.block _ (by omega)).trans ((B2.out.block _ (by simp; omega)).trans ((Below.heap_alloc w1 _ _ (by omega)).trans (B1.out.block _ (by simp)))))
  have r0 : w4.cell? ⟨w.heap.size + 1 + 1, 0, none⟩ = some (.int .u64 0) := (World.cell?_of_block (a := ⟨w.heap.size + 1 + 1, 0, none⟩) blk).trans (by go_simp)
  have r1 : w4.cell? ⟨w.heap.size + 1 + 1, 1, none⟩ = some (.int .u64 0) := (World.cell?_of_block (a := ⟨w.heap.size + 1 + 1, 1, none⟩) blk).trans (by go_simp)
  have q0 : w4.frozen? ⟨w.heap.size + 1 + 1, 0, none⟩ = false := (World.frozen?_of_block (a := ⟨w.heap.size + 1 + 1, 0, none⟩) blk).trans (by go_simp)
  have q1 : w4.frozen? ⟨w.heap.size + 1 + 1, 1, none⟩ = false := (World.frozen?_of_block (a := ⟨w.heap.size + 1 + 1, 1, none⟩) blk).trans (by go_simp)
  have B4 := Lib.hid b4
  have S1 := Lib.hid s1
  clear blk b4 s1 g0 g1
  go_wp2_with fail
  refine bodyPost_ret (v := .agg #[.int .u64 (J0 g g'), .int .u64 (J1 t g' t')]) (by simp [results, Try.results6, go_sem, r0, r1]) rfl ⟨rfl, ?_⟩
  have s1 := S1.out
  have h1 : Below w.heap.size w w1 := ((((Below.refl _ w).alloc (Nat.le_refl _) _).alloc (by simp) _).alloc (by simp; omega) _).trans (B1.out.mono (by simp; omega))
  have h2 : Below w.heap.size w w2 := (h1.alloc (by omega) _).trans (B2.out.mono (by simp; omega))
  have h3 : Below w.heap.size w w3 := h2.trans (B3.out.mono (by omega))
  have h4 : Below w.heap.size w w4 := h3.trans (B4.out.mono (by omega))
  exact (h4.setCell (p := ⟨w.heap.size + 1 + 1, 0, none⟩) (by simp; omega) _).setCell (p := ⟨w.heap.size + 1 + 1, 1, none⟩) (by simp; omega) _

theorem joinFlags_told (g t g' t' : Int) (w : World) :
    Calls Try.prog 6 #[.agg #[.int .u64 g, .int .u64 t], .agg #[.int .u64 g', .int .u64 t']] w fun e w' => e = .returned (.agg #[.int .u64 (bits .or .u64 g g'), .int .u64 (bits .or .u64 (bits .andNot .u64 t g') t')]) ∧ Below w.heap.size w w' := by
  have h := joinFlags_any g t g' t' w
  unfold J0 J1 at h
  rw [and_not] at h
  exact h

def okB (g t : Int) : Bool := bits .andNot .u64 t g == 0 && bits .and .u64 g 1 == 0

theorem flagsOk_any (g t : Int) (w : World) :
    Calls Try.prog 5 #[.agg #[.int .u64 g, .int .u64 t]] w fun e w' => e = .returned (.bool (okB g t)) ∧ Below w.heap.size w w' := by
  unfold okB
  go_enter Try.func5, Try.ntmps5
  go_wp2
  all_goals
    go_ret
    exact ⟨by simp [*], (Below.refl _ _).alloc (Nat.le_refl _) _⟩

set_option maxHeartbeats 400000 in
theorem walk_not (g t g' t' : Int) (w : World) (h : okB g t = false ∨ okB g' t' = false) :
    Calls Try.prog 3 #[.agg #[.int .u64 g, .int .u64 t], .agg #[.int .u64 g', .int .u64 t']] w fun e w' => e = .returned (.bool true) ∧ Below w.heap.size w w' := by
  by_cases h1 : okB g t = false
  · clear h
    have H := Lib.hid h1
    clear h1
    go_enter Try.func3, Try.ntmps3
    go_wp2_with fail
    refine (flagsOk_any g t _).mono ?_
    rintro e w1 ⟨rfl, b1⟩
    rw [H.out]
    go_wp2_with fail
    go_ret
    exact ⟨rfl, (((Below.refl _ w).alloc (Nat.le_refl _) _).alloc (by simp) _).trans (b1.mono (by simp; omega))⟩
  · have h1' : okB g t = true := by simpa using h1
    have H1 := Lib.hid h1'
    have H2 := Lib.hid (h.resolve_left h1)
    clear h h1 h1'
    go_enter Try.func3, Try.ntmps3
    go_wp2_with fail
    refine (flagsOk_any g t _).mono ?_
    rintro e w1 ⟨rfl, b1⟩
    rw [H1.out]
    have c0 : w1.cell? ⟨w.heap.size + 1, 0, none⟩ = some (.int .u64 g') := (b1.cell (p := ⟨w.heap.size + 1, 0, none⟩) (by simp)).trans (by go_simp)
    have c1 : w1.cell? ⟨w.heap.size + 1, 1, none⟩ = some (.int .u64 t') := (b1.cell (p := ⟨w.heap.size + 1, 1, none⟩) (by simp)).trans (by go_simp)
    have B1 := Lib.hid b1
    clear b1
    go_wp2_with fail
    refine (flagsOk_any g' t' _).mono ?_
    rintro e w2 ⟨rfl, b2⟩
    rw [H2.out]
    go_wp2_with fail
    go_ret
    exact ⟨rfl, (((Below.refl _ w).alloc (Nat.le_refl _) _).alloc (by simp) _).trans ((B1.out.mono (by simp; omega)).trans (b2.mono (by have := B1.out.size; simp at this; omega)))⟩

set_option maxHeartbeats 1000000 in
theorem walk_yes (g t g' t' : Int) (w : World) (h1 : okB g t = true) (h2 : okB g' t' = true) :
    Calls Try.prog 3 #[.agg #[.int .u64 g, .int .u64 t], .agg #[.int .u64 g', .int .u64 t']] w fun e w' => e = .returned (.bool true) ∧ Below w.heap.size w w' := by
  have H1 := Lib.hid h1
  have H2 := Lib.hid h2
  clear h1 h2
  go_enter Try.func3, Try.ntmps3
  go_wp2_with fail
  refine (flagsOk_any g t _).mono ?_
  rintro e w1 ⟨rfl, b1⟩
  rw [H1.out]
  have c0 : w1.cell? ⟨w.heap.size + 1, 0, none⟩ = some (.int .u64 g') := (b1.cell (p := ⟨w.heap.size + 1, 0, none⟩) (by simp)).trans (by go_simp)
  have c1 : w1.cell? ⟨w.heap.size + 1, 1, none⟩ = some (.int .u64 t') := (b1.cell (p := ⟨w.heap.size + 1, 1, none⟩) (by simp)).trans (by go_simp)
  have c2 : w1.cell? ⟨w.heap.size, 0, none⟩ = some (.int .u64 g) := (b1.cell (p := ⟨w.heap.size, 0, none⟩) (by simp; omega)).trans (by go_simp)
  have c3 : w1.cell? ⟨w.heap.size, 1, none⟩ = some (.int .u64 t) := (b1.cell (p := ⟨w.heap.size, 1, none⟩) (by simp; omega)).trans (by go_simp)
  have s1 : w.heap.size + 2 ≤ w1.heap.size := by
    have := b1.size
    simp at this
    omega
  have B1 := Lib.hid ((((Below.refl _ w).alloc (Nat.le_refl _) _).alloc (by simp) _).trans (b1.mono (by simp; omega)))
  clear b1
  go_wp2_with fail
  refine (flagsOk_any g' t' _).mono ?_
  rintro e w2 ⟨rfl, b2⟩
  rw [H2.out]
  have d0 := Below.keep b2 (by omega) c0
  have d1 := Below.keep b2 (by omega) c1
  have d2 := Below.keep b2 (by omega) c2
  have d3 := Below.keep b2 (by omega) c3
  have s2 := b2.size
  have B2 := Lib.hid (B1.out.trans (b2.mono (by omega)))
  clear b2 c0 c1 c2 c3
  go_wp2_with fail
  go_region_held3 (fun w' => w'.cell? ⟨w.heap.size + 1, 0, none⟩ = some (.int .u64 g') ∧ w'.cell? ⟨w.heap.size + 1, 1, none⟩ = some (.int .u64 t') ∧ w'.cell? ⟨w.heap.size, 0, none⟩ = some (.int .u64 g) ∧ w'.cell? ⟨w.heap.size, 1, none⟩ = some (.int .u64 t)) (go_keep)
    (first | (go_at_call 6; refine (joinFlags_told g t g' t' _).mono ?_; rintro e w3 ⟨rfl, b3⟩; have x0 := Below.keep b3 (by simp; omega) d0; have x1 := Below.keep b3 (by simp; omega) d1; have x2 := Below.keep b3 (by simp; omega) d2; have x3 := Below.keep b3 (by simp; omega) d3))
  go_wp2_with fail
  go_ret
  exact ⟨rfl, (B2.out.drew).trans (b3.mono (by simp; omega))⟩

theorem walk (g t g' t' : Int) (w : World) :
    Calls Try.prog 3 #[.agg #[.int .u64 g, .int .u64 t], .agg #[.int .u64 g', .int .u64 t']] w fun e w' => e = .returned (.bool true) ∧ Below w.heap.size w w' := by
  by_cases h1 : okB g t = true
  · by_cases h2 : okB g' t' = true
    · exact walk_yes g t g' t' w h1 h2
    · exact walk_not g t g' t' w (.inr (by simpa using h2))
  · exact walk_not g t g' t' w (.inl (by simpa using h1))

end Go.Proofs.Ythehfindahcbnaa.Flags
