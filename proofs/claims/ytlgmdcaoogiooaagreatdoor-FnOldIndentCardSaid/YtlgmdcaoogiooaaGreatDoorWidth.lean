/- The reference's width of a character; its escapes. -/
import Derived.Test.YtlgmdcaoogiooaaGreatDoorRdRune
namespace Go.Proofs.YtlgmdcaoogiooaaGreatDoor
open Go.RowKit

/-- What 'Width' tells. -/
structure Wid (w : World) (l : List UInt8) (k : Nat) (e : Ending) (w' : World) : Prop where
  below : Below w.heap.size w w'
  what : ∃ n : Nat, e = .returned (.int .i64 n) ∧ ((n ≠ 0 ∧ CharAt (l.drop k) n) ∨ (n = 0 ∧ ∀ m, ¬ CharAt (l.drop k) m))

theorem char_low {l : List UInt8} {k n : Nat} (hk : k < l.length) (h : CharAt (l.drop k) n) (hn : n = 1) : (l[k]).toNat < 128 := by
  rw [List.drop_eq_getElem_cons hk] at h
  rcases h with ⟨_, a, t, e, h1⟩ | ⟨rfl, _⟩ | ⟨rfl, _⟩ | ⟨rfl, _⟩
  · rw [(List.cons.inj e).1]
    exact h1
  · omega
  · omega
  · omega

set_option maxRecDepth 100000 in
set_option maxHeartbeats 1000000 in
theorem width_any (s : ByteArray) (k : Nat) (hk : k < s.size) (hs : s.size ≤ 100000000000) (w : World) :
    Calls Tryz.prog 54 #[.string s, .int .i64 k] w (Wid w s.data.toList k) := by
  have hk0 : (0 : Int) ≤ (k : Int) := by omega
  have hk1 : (k : Int) < (s.size : Int) := by omega
  have hkl : k < s.data.toList.length := by rw [size_eq]; exact hk
  obtain ⟨a, ha⟩ : ∃ a : Nat, (s[k]'hk).toNat = a := ⟨_, rfl⟩
  have hget : (s.data.toList[k]).toNat = a := ha
  have HG := Lib.hid hget
  clear hget
  by_cases h : a < 128
  · have h1 : (a : Int) < 128 := by omega
    go_enter Tryz.func54, Tryz.ntmps54
    go_wp2_with fail
    go_ret
    refine ⟨Below.refl _ _, 1, rfl, .inl ⟨by omega, ?_⟩⟩
    rw [List.drop_eq_getElem_cons hkl]
    exact .inl ⟨rfl, _, _, rfl, by rw [HG.out]; exact h⟩
  · have h1 : ¬ (a : Int) < 128 := by omega
    go_enter Tryz.func54, Tryz.ntmps54
    go_wp2_with fail
    refine (rune_any w.heap.size s k false false 0 false _ hs ⟨heap_alloc_new w _, Nat.le_of_lt hk⟩).mono ?_
    rintro e w1 ⟨ok, k', ⟨rfl, hst⟩, hyes, hno⟩
    obtain ⟨f', hr, _⟩ := hst.rd
    have hb := hst.below (by simp)
    obtain ⟨c0, c1, c2, c3, c4, c5⟩ := hr.all
    have HB := Lib.hid hb
    have HY := Lib.hid hyes
    have HNo := Lib.hid hno
    clear hst hr hb hyes hno
    cases ok with
    | false =>
      go_wp2_with fail
      go_ret
      refine ⟨(((Below.refl _ w).alloc (Nat.le_refl _) _).trans HB.out), 0, rfl, .inr ⟨rfl, fun m hm => ?_⟩⟩
      by_cases hm1 : m = 1
      · exact h (by rw [← HG.out]; exact char_low hkl hm hm1)
      · exact HNo.out trivial m (by have := hm.le; omega) hm
    | true =>
      obtain ⟨n, hn, hch, rfl⟩ := HY.out rfl
      have HC := Lib.hid hch
      clear hch
      go_wp2_with fail
      go_ret
      refine ⟨(((Below.refl _ w).alloc (Nat.le_refl _) _).trans HB.out), n, ?_, .inl ⟨by omega, HC.out⟩⟩
      have hle := HC.out.le.2
      rw [List.length_drop, size_eq] at hle
      have hw : wrap64 ((k : Int) + (n : Int) - (k : Int)) = (n : Int) := by unfold wrap64; omega
      show Ending.returned (.int .i64 (wrap64 ((k : Int) + (n : Int) - (k : Int)))) = _
      rw [hw]

/-- A text of six bytes. -/
def Six (w : World) (e : Ending) (w' : World) : Prop := Below w.heap.size w w' ∧ ∃ t : ByteArray, t.size = 6 ∧ e = .returned (.string t)

set_option maxRecDepth 100000 in
set_option maxHeartbeats 1000000 in
theorem digit_any (n : Nat) (hn : n < 16) (w : World) :
    Calls Tryz.prog 84 #[.int .i64 n] w fun e w' => w' = w ∧ ∃ c : UInt8, e = .returned (.int .u8 ((c.toNat : Nat) : Int)) := by
  have h0 : (0 : Int) ≤ (n : Int) := by omega
  have h1 : (n : Int) < 16 := by omega
  go_enter Tryz.func84, Tryz.ntmps84
  go_wp2
  go_ret
  exact ⟨rfl, _, rfl⟩

theorem and15 (y : Nat) (hy : y < 65536) : bits .and .i64 (y : Int) 15 = ((y % 16 : Nat) : Int) := by
  have h : (BitVec.ofInt 64 (y : Int) &&& BitVec.ofInt 64 15).toNat = y % 16 := by
    rw [BitVec.toNat_and]
    have e1 : (BitVec.ofInt 64 (y : Int)).toNat = y := by simp; omega
    have e2 : (BitVec.ofInt 64 (15 : Int)).toNat = 15 := by decide
    rw [e1, e2]
    exact Nat.and_two_pow_sub_one_eq_mod y 4
  show IntKind.i64.wrap (((BitVec.ofInt 64 (y : Int) &&& BitVec.ofInt 64 15).toNat : Nat) : Int) = _
  rw [h, IntWalk.i64_in _ (by omega)]

theorem and15_in (x : Int) (h0 : 0 ≤ x) (h1 : x < 65536) : 0 ≤ bits .and .i64 x 15 ∧ bits .and .i64 x 15 < 16 := by
  obtain ⟨y, rfl⟩ := Int.eq_ofNat_of_zero_le h0
  rw [and15 y (by omega)]
  omega

theorem digit_int (x : Int) (h0 : 0 ≤ x) (h1 : x < 16) (w : World) :
    Calls Tryz.prog 84 #[.int .i64 x] w fun e w' => w' = w ∧ ∃ c : UInt8, e = .returned (.int .u8 ((c.toNat : Nat) : Int)) := by
  obtain ⟨n, rfl⟩ := Int.eq_ofNat_of_zero_le h0
  exact digit_any n (by omega) w

set_option maxRecDepth 100000 in
set_option maxHeartbeats 1000000 in
theorem unitText_any (c : Nat) (hc : c < 65536) (w : World) :
    Calls Tryz.prog 73 #[.int .i64 c] w (Six w) := by
  go_enter Tryz.func73, Tryz.ntmps73
  go_wp2_with fail
  refine (digit_int _ (by omega) (by omega) _).mono ?_
  rintro e w1 ⟨rfl, c1, rfl⟩
  go_wp2_with fail
  refine (digit_int _ (and15_in _ (by omega) (by omega)).1 (and15_in _ (by omega) (by omega)).2 _).mono ?_
  rintro e w2 ⟨rfl, c2, rfl⟩
  go_wp2_with fail
  refine (digit_int _ (and15_in _ (by omega) (by omega)).1 (and15_in _ (by omega) (by omega)).2 _).mono ?_
  rintro e w3 ⟨rfl, c3, rfl⟩
  go_wp2_with fail
  refine (digit_int _ (and15_in _ (by omega) (by omega)).1 (and15_in _ (by omega) (by omega)).2 _).mono ?_
  rintro e w4 ⟨rfl, c4, rfl⟩
  have hB : Bytes (w4.alloc (.cells #[.int .u8 92, .int .u8 117, .int .u8 ((c1.toNat : Nat) : Int), .int .u8 ((c2.toNat : Nat) : Int), .int .u8 ((c3.toNat : Nat) : Int), .int .u8 ((c4.toNat : Nat) : Int)] 5)) w4.heap.size 0 [92, 117, c1, c2, c3, c4] := by
    intro j hj
    rw [Nat.zero_add]
    refine (World.cell?_alloc_new w4 _ _ j).trans ?_
    match j, hj with
    | 0, _ => rfl
    | 1, _ => rfl
    | 2, _ => rfl
    | 3, _ => rfl
    | 4, _ => rfl
    | 5, _ => rfl
  have HB := Lib.hid hB
  clear hB
  go_wp2_with (refine wpList_toStr (P := Tryz.prog) (t := 51) (e := 5) ⟨by kernel_rfl, by kernel_rfl, by kernel_rfl⟩ rfl (.tmp 17) 9 rfl (by kernel_rfl) rfl ⟨#[92, 117, c1, c2, c3, c4]⟩ rfl HB.out ?_)
  go_ret
  exact ⟨(Below.refl _ _).alloc (Nat.le_refl _) _, _, rfl, rfl⟩

end Go.Proofs.YtlgmdcaoogiooaaGreatDoor
