/- The first slash. -/
import Derived.Test.YtalkajcndllipaaUnesc
import Derived.Lib.Bytealg
namespace Go.Proofs.Ytalkajcndllipaa
open Go.RowKit

set_option maxRecDepth 100000 in
set_option maxHeartbeats 1000000 in
theorem idxLite_any (s : ByteArray) (w : World) :
    Calls Try.prog 32 #[.string s, .int .u8 47] w fun e w' => w' = w ∧ e = .returned (.int .i64 (Lib.indexByte s.data.toList 47)) := by
  go_enter Try.func32, Try.ntmps32
  go_wp2
  rw [run_callFunc_extern Try.func39 (by kernel_rfl) (by kernel_rfl) (by kernel_rfl) (e := Extern.BytealgIndexByte.indexByte) (by kernel_rfl), Lib.run_indexByteString]
  simp only [Result.andThen]
  rw [Oper.upon_value]
  go_wp2
  go_ret
  exact ⟨rfl, rfl⟩

theorem idx_any (s : ByteArray) (w : World) :
    Calls Try.prog 26 #[.string s, .int .u8 47] w fun e w' => w' = w ∧ e = .returned (.int .i64 (Lib.indexByte s.data.toList 47)) := by
  go_enter Try.func26, Try.ntmps26
  go_wp2_with fail
  refine (idxLite_any s _).mono ?_
  rintro e w1 ⟨rfl, rfl⟩
  go_wp2_with fail
  go_ret
  exact ⟨rfl, rfl⟩

theorem idx_nil {p : List UInt8} (h : ∀ c ∈ p, c ≠ 47) : Lib.indexByte p 47 = -1 := by
  induction p with
  | nil => rfl
  | cons c t ih =>
    have hc : (c == 47) = false := by rw [beq_eq_false_iff_ne]; exact h c (by simp)
    unfold Lib.indexByte
    rw [hc, ih (fun x hx => h x (List.mem_cons_of_mem _ hx))]
    rfl

theorem idx_cons {p : List UInt8} (h : ∀ c ∈ p, c ≠ 47) (t : List UInt8) : Lib.indexByte (p ++ 47 :: t) 47 = (p.length : Int) := by
  induction p with
  | nil => rfl
  | cons c u ih =>
    have hc : (c == 47) = false := by rw [beq_eq_false_iff_ne]; exact h c (by simp)
    show Lib.indexByte (c :: (u ++ 47 :: t)) 47 = _
    unfold Lib.indexByte
    rw [hc, ih (fun x hx => h x (List.mem_cons_of_mem _ hx))]
    have hn : (((u.length : Nat) : Int) == -1) = false := by rw [beq_eq_false_iff_ne]; omega
    rw [hn]
    simp

/-- Where the next token begins, as the package reckons it. -/
theorem idx_min {p r : List UInt8} (h : ∀ c ∈ p, c ≠ 47) (hr : Head r) (hl : (p ++ r).length ≤ 100000) :
    min (IntKind.u64.wrap (Lib.indexByte (p ++ r) 47)) (((p ++ r).length : Nat) : Int) = (p.length : Int) := by
  rcases hr with rfl | ⟨t, rfl⟩
  · rw [List.append_nil] at hl ⊢
    rw [idx_nil h, show IntKind.u64.wrap (-1) = 18446744073709551615 from rfl]
    omega
  · rw [idx_cons h, IntKind.wrap_u64]
    rw [List.length_append] at hl ⊢
    omega

end Go.Proofs.Ytalkajcndllipaa
