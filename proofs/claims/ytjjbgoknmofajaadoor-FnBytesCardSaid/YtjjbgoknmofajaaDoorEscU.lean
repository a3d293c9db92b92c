/- jsonwire: the escapes of four digits and of a byte, appended. -/
import Derived.Test.YtjjbgoknmofajaaDoorUnit
import Derived.Test.YtjjbgoknmofajaaDoorGrow
import Derived.Deep.QuietTactic
import Derived.BigQuiet
import Derived.Deep.RegionLaw
namespace Go.Proofs.YtjjbgoknmofajaaDoor
open Go.RowKit

abbrev hexT : ByteArray := ⟨#[48, 49, 50, 51, 52, 53, 54, 55, 56, 57, 97, 98, 99, 100, 101, 102]⟩

theorem and15_u16 (y : Nat) (hy : y < 65536) : bits .and .u16 (y : Int) 15 = ((y % 16 : Nat) : Int) := by
  have h : (BitVec.ofInt 16 (y : Int) &&& BitVec.ofInt 16 15).toNat = y % 16 := by
    rw [BitVec.toNat_and]
    have e1 : (BitVec.ofInt 16 (y : Int)).toNat = y := by simp; omega
    have e2 : (BitVec.ofInt 16 (15 : Int)).toNat = 15 := by decide
    rw [e1, e2]
    exact Nat.and_two_pow_sub_one_eq_mod y 4
  show IntKind.u16.wrap (((BitVec.ofInt 16 (y : Int) &&& BitVec.ofInt 16 15).toNat : Nat) : Int) = _
  rw [h]
  simp only [IntKind.wrap, IntKind.bits, IntKind.signed]
  simp
  omega

set_option maxRecDepth 100000 in
set_option maxHeartbeats 2000000 in
theorem escU_any (v0 : Value) (l0 : List UInt8) (x : Nat) (hx : x < 65536) (w : World) (hown : Own w v0 l0) (hl0 : l0.length ≤ 1000000000000) :
    Calls Tryd.prog 56 #[v0, .int .u16 (x : Int)] w (App w v0 (l0 ++ Exact.unit x)) := by
  have HO := Lib.hid hown
  have a1 : bits .and .u16 ((x : Int) / 4096) 15 = ((x / 4096 : Nat) : Int) := by
    have := and15_u16 (x / 4096) (by omega)
    rw [Nat.mod_eq_of_lt (by omega)] at this
    exact this
  have a2 : bits .and .u16 ((x : Int) / 256) 15 = ((x / 256 % 16 : Nat) : Int) := and15_u16 (x / 256) (by omega)
  have a3 : bits .and .u16 ((x : Int) / 16) 15 = ((x / 16 % 16 : Nat) : Int) := and15_u16 (x / 16) (by omega)
  have a4 : bits .and .u16 (x : Int) 15 = ((x % 16 : Nat) : Int) := and15_u16 x hx
  obtain ⟨d1, h1⟩ : ∃ d, d = x / 4096 := ⟨_, rfl⟩
  obtain ⟨d2, h2⟩ : ∃ d, d = x / 256 % 16 := ⟨_, rfl⟩
  obtain ⟨d3, h3⟩ : ∃ d, d = x / 16 % 16 := ⟨_, rfl⟩
  obtain ⟨d4, h4⟩ : ∃ d, d = x % 16 := ⟨_, rfl⟩
  rw [← h1] at a1
  rw [← h2] at a2
  rw [← h3] at a3
  rw [← h4] at a4
  have b1 : (d1 : Int) < 16 := by omega
  have b2 : (d2 : Int) < 16 := by omega
  have b3 : (d3 : Int) < 16 := by omega
  have b4 : (d4 : Int) < 16 := by omega
  have c1 : (0 : Int) ≤ (d1 : Int) := by omega
  have c2 : (0 : Int) ≤ (d2 : Int) := by omega
  have c3 : (0 : Int) ≤ (d3 : Int) := by omega
  have c4 : (0 : Int) ≤ (d4 : Int) := by omega
  have hu : Exact.unit x = [92, 117, Exact.hx d1, Exact.hx d2, Exact.hx d3, Exact.hx d4] := by rw [h1, h2, h3, h4]; rfl
  rw [hu]
  have g1 : hexT[d1]'(by show d1 < 16; omega) = Exact.hx d1 := Exact.hx_at ⟨d1, by omega⟩
  have g2 : hexT[d2]'(by show d2 < 16; omega) = Exact.hx d2 := Exact.hx_at ⟨d2, by omega⟩
  have g3 : hexT[d3]'(by show d3 < 16; omega) = Exact.hx d3 := Exact.hx_at ⟨d3, by omega⟩
  have g4 : hexT[d4]'(by show d4 < 16; omega) = Exact.hx d4 := Exact.hx_at ⟨d4, by omega⟩
  have hC : ∀ (p1 : d1 < hexT.size) (p2 : d2 < hexT.size) (p3 : d3 < hexT.size) (p4 : d4 < hexT.size), [Value.int .u8 92, .int .u8 117, .int .u8 (((hexT[d1]'p1).toNat : Nat) : Int), .int .u8 (((hexT[d2]'p2).toNat : Nat) : Int), .int .u8 (((hexT[d3]'p3).toNat : Nat) : Int), .int .u8 (((hexT[d4]'p4).toNat : Nat) : Int)] = [92, 117, Exact.hx d1, Exact.hx d2, Exact.hx d3, Exact.hx d4].map B := by
    intro p1 p2 p3 p4
    rw [g1, g2, g3, g4]
    rfl
  have HC := Lib.hid hC
  clear hown h1 h2 h3 h4 hu g1 g2 g3 g4 hC
  go_enter Tryd.func56, Tryd.ntmps56
  go_wp2_with fail
  go_region_law ((refine step_app u8q rfl (.tmp 5) (.tmp 22) 39 rfl (by exact ((AppTo.refl HO.out).alloc _).drew) (by rfl) [92, 117, Exact.hx d1, Exact.hx d2, Exact.hx d3, Exact.hx d4] (by rfl) (by exact src_block u8q (by exact heap_alloc_new w _) [92, 117, Exact.hx d1, Exact.hx d2, Exact.hx d3, Exact.hx d4] (by exact HC.out _ _ _ _) 6) (by simp; omega) ?_; intro v3 w3 h3))
  all_goals go_wp2_with fail
  all_goals go_ret
  all_goals exact ⟨_, rfl, h3⟩

end Go.Proofs.YtjjbgoknmofajaaDoor
