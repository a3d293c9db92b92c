/- The law of whole numbers, walked. -/
import Derived.Test.YtifemmjblamfkaaDecimals
import Derived.Test.YtifemmjblamfkaaParse
namespace Go.Proofs.Ytifemmjblamfkaa.UintBack
open Go.RowKit

set_option maxHeartbeats 400000 in
theorem walk (n : Nat) (hn : n < 18446744073709551616) (w : World) :
    Calls Try.prog 4 #[.int .u64 n] w fun e w' => e = .returned (.bool true) ∧ Below w.heap.size w w' := by
  obtain ⟨S, hS⟩ : ∃ S : ByteArray, S = ⟨(Dig.dig n).toArray⟩ := ⟨_, rfl⟩
  have hD : S.data.toList = Dig.dig n := by rw [hS]
  have HS := Lib.hid hS
  have HN := Lib.hid hn
  have HD := Lib.hid hD
  clear hn hS hD
  go_enter Try.func4, Try.ntmps4
  go_wp2_with fail
  refine (unsigned_any n HN.out _).mono ?_
  rw [← HS.out]
  rintro e w1 ⟨rfl, b1⟩
  have B1 := Lib.hid b1
  clear b1
  go_wp2_with fail
  refine (wireUint_any n HN.out S HD.out _).mono ?_
  rintro e w2 ⟨rfl, b2⟩
  have B2 := Lib.hid (below_step B1.out b2)
  clear b2 B1
  go_wp2_with fail
  refine (unsigned_any n HN.out _).mono ?_
  rw [← HS.out]
  rintro e w3 ⟨rfl, b3⟩
  have B3 := Lib.hid (below_step B2.out b3)
  clear b3 B2
  go_wp2_with fail
  refine (wireSimpleNumber_any n HN.out S HD.out _).mono ?_
  rintro e w4 ⟨rfl, b4⟩
  have B4 := Lib.hid (below_step B3.out b4)
  clear b4 B3
  go_wp2_with fail
  refine (unsigned_any n HN.out _).mono ?_
  rw [← HS.out]
  rintro e w5 ⟨rfl, b5⟩
  have B5 := Lib.hid (below_step B4.out b5)
  clear b5 B4
  go_wp2_with fail
  go_ret
  exact ⟨rfl, B5.out⟩

theorem walkI (a : Int) (h : (Lit.int .u64 a).wf = true) (w : World) :
    Calls Try.prog 4 #[.int .u64 a] w fun e w' => e = .returned (.bool true) ∧ Below w.heap.size w w' := by
  simp [Lit.wf] at h
  have h1 : IntKind.u64.min = 0 := by decide +kernel
  have h2 : IntKind.u64.max = 18446744073709551615 := by decide +kernel
  rw [h1, h2] at h
  obtain ⟨n, rfl⟩ : ∃ n : Nat, a = n := ⟨a.toNat, by omega⟩
  exact walk n (by omega) w

end Go.Proofs.Ytifemmjblamfkaa.UintBack
