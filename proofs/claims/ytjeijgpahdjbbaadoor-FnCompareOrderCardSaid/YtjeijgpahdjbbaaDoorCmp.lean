/- The small functions under the comparison of names. -/
import Derived.Test.YtjeijgpahdjbbaaDoorDecode
import Derived.Test.YtjeijgpahdjbbaaDoorIsText
import Derived.Shelf.Spec.DecodeRune
namespace Go.Proofs
open Go.Shelf
def Tryd.laysNm732_ren : Go.Shelf.Ren := ⟨fun | 32 => 12 | 49 => 18 | n => n, fun | 30 => 29 | 21 => 21 | 3 => 3 | 0 => 0 | 5 => 5 | 4 => 4 | 33 => 33 | 66 => 42 | 25 => 41 | 69 => 45 | 68 => 44 | n => n, fun | 2 => 0 | 3 => 1 | n => n⟩
theorem Tryd.laysNm732 : Go.Proofs.Lays7.n32 Tryd.prog Tryd.laysNm732_ren := {
  mixed := by kernel_rfl
  f32 := Tryd.func12.trans (congrArg some (by kernel_rfl))
  f49 := Tryd.func18.trans (congrArg some (by kernel_rfl))
  t0 := Tryd.underlying0
  a0 := Tryd.isAgg0
  z0 := Tryd.sizeOf0
  v0 := Tryd.zeroValue0
  i0 := by kernel_rfl
  t3 := Tryd.underlying3
  a3 := Tryd.isAgg3
  z3 := Tryd.sizeOf3
  v3 := Tryd.zeroValue3
  i3 := by kernel_rfl
  t4 := Tryd.underlying4
  a4 := Tryd.isAgg4
  z4 := Tryd.sizeOf4
  v4 := Tryd.zeroValue4
  i4 := by kernel_rfl
  t5 := Tryd.underlying5
  a5 := Tryd.isAgg5
  z5 := Tryd.sizeOf5
  v5 := Tryd.zeroValue5
  i5 := by kernel_rfl
  t21 := Tryd.underlying21
  a21 := Tryd.isAgg21
  z21 := Tryd.sizeOf21
  v21 := Tryd.zeroValue21
  i21 := by kernel_rfl
  t25 := Tryd.underlying41
  a25 := Tryd.isAgg41
  z25 := Tryd.sizeOf41
  v25 := Tryd.zeroValue41
  i25 := by kernel_rfl
  t30 := Tryd.underlying29
  a30 := Tryd.isAgg29
  z30 := Tryd.sizeOf29
  v30 := Tryd.zeroValue29
  i30 := by kernel_rfl
  t33 := Tryd.underlying33
  a33 := Tryd.isAgg33
  z33 := Tryd.sizeOf33
  v33 := Tryd.zeroValue33
  i33 := by kernel_rfl
  t66 := Tryd.underlying42
  a66 := Tryd.isAgg42
  z66 := Tryd.sizeOf42
  t68 := Tryd.underlying44
  a68 := Tryd.isAgg44
  z68 := Tryd.sizeOf44
  v68 := Tryd.zeroValue44
  i68 := by kernel_rfl
  t69 := Tryd.underlying45
  a69 := Tryd.isAgg45
  z69 := Tryd.sizeOf45
  v69 := Tryd.zeroValue45
  i69 := by kernel_rfl
  g2 := by kernel_rfl
  g3 := by kernel_rfl }
end Go.Proofs
namespace Go.Proofs.YtjeijgpahdjbbaaDoor
open Go.RowKit

/-- Comparing two numbers. -/
def cmpI (a b : Int) : Int := if a < b then -1 else if b < a then 1 else 0

theorem nanInt (x : Int) (w : World) : Calls Tryd.prog 16 #[.int .i64 x] w fun e w' => e = .returned (.bool false) ∧ w = w' := by
  go_enter Tryd.func16, Tryd.ntmps16
  go_wp2
  go_ret
  exact ⟨rfl, rfl⟩
theorem nanByte (x : Int) (w : World) : Calls Tryd.prog 17 #[.int .u8 x] w fun e w' => e = .returned (.bool false) ∧ w = w' := by
  go_enter Tryd.func17, Tryd.ntmps17
  go_wp2
  go_ret
  exact ⟨rfl, rfl⟩
theorem nanRune (x : Int) (w : World) : Calls Tryd.prog 19 #[.int .i32 x] w fun e w' => e = .returned (.bool false) ∧ w = w' := by
  go_enter Tryd.func19, Tryd.ntmps19
  go_wp2
  go_ret
  exact ⟨rfl, rfl⟩

theorem cmpInt (x y : Int) (w : World) : Calls Tryd.prog 10 #[.int .i64 x, .int .i64 y] w fun e w' => e = .returned (.int .i64 (cmpI x y)) ∧ w = w' := by
  unfold cmpI
  go_enter Tryd.func10, Tryd.ntmps10
  rcases Int.lt_trichotomy x y with h | h | h
  · rw [if_pos h]
    go_wp2_with (go_at_call 16; refine (nanInt _ _).mono ?_; rintro e w1 ⟨rfl, rfl⟩)
    go_ret
    exact ⟨rfl, rfl⟩
  · subst h
    rw [if_neg (Int.lt_irrefl _), if_neg (Int.lt_irrefl _)]
    go_wp2_with (go_at_call 16; refine (nanInt _ _).mono ?_; rintro e w1 ⟨rfl, rfl⟩)
    go_ret
    exact ⟨rfl, rfl⟩
  · rw [if_neg (by omega), if_pos h]
    have h2 : ¬ x < y := by omega
    go_wp2_with (go_at_call 16; refine (nanInt _ _).mono ?_; rintro e w1 ⟨rfl, rfl⟩)
    go_ret
    exact ⟨rfl, rfl⟩
theorem cmpByte (x y : Int) (w : World) : Calls Tryd.prog 11 #[.int .u8 x, .int .u8 y] w fun e w' => e = .returned (.int .i64 (cmpI x y)) ∧ w = w' := by
  unfold cmpI
  go_enter Tryd.func11, Tryd.ntmps11
  rcases Int.lt_trichotomy x y with h | h | h
  · rw [if_pos h]
    go_wp2_with (go_at_call 17; refine (nanByte _ _).mono ?_; rintro e w1 ⟨rfl, rfl⟩)
    go_ret
    exact ⟨rfl, rfl⟩
  · subst h
    rw [if_neg (Int.lt_irrefl _), if_neg (Int.lt_irrefl _)]
    go_wp2_with (go_at_call 17; refine (nanByte _ _).mono ?_; rintro e w1 ⟨rfl, rfl⟩)
    go_ret
    exact ⟨rfl, rfl⟩
  · rw [if_neg (by omega), if_pos h]
    have h2 : ¬ x < y := by omega
    go_wp2_with (go_at_call 17; refine (nanByte _ _).mono ?_; rintro e w1 ⟨rfl, rfl⟩)
    go_ret
    exact ⟨rfl, rfl⟩
theorem cmpRune (x y : Int) (w : World) : Calls Tryd.prog 14 #[.int .i32 x, .int .i32 y] w fun e w' => e = .returned (.int .i64 (cmpI x y)) ∧ w = w' := by
  unfold cmpI
  go_enter Tryd.func14, Tryd.ntmps14
  rcases Int.lt_trichotomy x y with h | h | h
  · rw [if_pos h]
    go_wp2_with (go_at_call 19; refine (nanRune _ _).mono ?_; rintro e w1 ⟨rfl, rfl⟩)
    go_ret
    exact ⟨rfl, rfl⟩
  · subst h
    rw [if_neg (Int.lt_irrefl _), if_neg (Int.lt_irrefl _)]
    go_wp2_with (go_at_call 19; refine (nanRune _ _).mono ?_; rintro e w1 ⟨rfl, rfl⟩)
    go_ret
    exact ⟨rfl, rfl⟩
  · rw [if_neg (by omega), if_pos h]
    have h2 : ¬ x < y := by omega
    go_wp2_with (go_at_call 19; refine (nanRune _ _).mono ?_; rintro e w1 ⟨rfl, rfl⟩)
    go_ret
    exact ⟨rfl, rfl⟩

/-- One unit of UTF-16? -/
theorem self_yes (r : Int) (h : (0 ≤ r ∧ r ≤ 55295) ∨ (57344 ≤ r ∧ r ≤ 65535)) (w : World) : Calls Tryd.prog 9 #[.int .i32 r] w fun e w' => e = .returned (.bool true) ∧ w = w' := by
  go_enter Tryd.func9, Tryd.ntmps9
  rcases h with ⟨h1, h2⟩ | ⟨h1, h2⟩
  · go_wp2
    go_ret
    exact ⟨rfl, rfl⟩
  · have h3 : (0 : Int) ≤ r := by omega
    have h4 : ¬ r ≤ 55295 := by omega
    go_wp2
    go_ret
    exact ⟨rfl, rfl⟩

theorem self_no (r : Int) (h1 : 65536 ≤ r) (w : World) : Calls Tryd.prog 9 #[.int .i32 r] w fun e w' => e = .returned (.bool false) ∧ w = w' := by
  go_enter Tryd.func9, Tryd.ntmps9
  have h3 : (0 : Int) ≤ r := by omega
  have h4 : ¬ r ≤ 55295 := by omega
  have h5 : (57344 : Int) ≤ r := by omega
  have h6 : ¬ r ≤ 65535 := by omega
  go_wp2
  go_ret
  exact ⟨rfl, rfl⟩

theorem and1023 : ∀ n : Fin 1024, bits .and .i32 ((n.val : Nat) : Int) 1023 = ((n.val : Nat) : Int) := by decide +kernel

theorem encode16 (r : Int) (h1 : 65536 ≤ r) (h2 : r ≤ 1114111) (w : World) : Calls Tryd.prog 13 #[.int .i32 r] w fun e w' => (∃ x, e = .returned (.tuple #[.int .i32 (55296 + (r - 65536) / 1024), .int .i32 x])) ∧ w = w' := by
  go_enter Tryd.func13, Tryd.ntmps13
  have h3 : ¬ r < 65536 := by omega
  have h4 : ¬ 1114111 < r := by omega
  have h5 : bits .and .i32 ((r - 65536) / 1024) 1023 = (r - 65536) / 1024 := by
    have := and1023 ⟨((r - 65536) / 1024).toNat, by omega⟩
    have e : (((((r - 65536) / 1024).toNat : Nat) : Int)) = (r - 65536) / 1024 := by omega
    simp only [e] at this
    exact this
  have h6 : wrap32 (55296 + (r - 65536) / 1024) = 55296 + (r - 65536) / 1024 := by
    unfold wrap32
    omega
  go_wp2
  go_ret2
  exact ⟨⟨_, rfl⟩, rfl⟩

theorem valid_yes (r k : Int) (h : r ≠ 65533 ∨ k ≠ 1) (w : World) : Calls Tryd.prog 15 #[.int .i32 r, .int .i64 k] w fun e w' => e = .returned (.bool false) ∧ w = w' := by
  go_enter Tryd.func15, Tryd.ntmps15
  by_cases h1 : r = 65533
  · have h2 : (k == 1) = false := by rw [beq_eq_false_iff_ne]; rcases h with h | h; · exact absurd h1 h
                                     · exact h
    subst h1
    go_wp2
    go_ret
    exact ⟨rfl, rfl⟩
  · have h2 : (r == 65533) = false := by rw [beq_eq_false_iff_ne]; exact h1
    go_wp2
    go_ret
    exact ⟨rfl, rfl⟩

/-- 'utf8.DecodeRune' at a character. -/
theorem decodeRune_any (l : List UInt8) (n : Nat) (hc : CharAt l n) (b off len cap : Nat) (w : World) (hlen : len = l.length) (hB : Bytes w b off l) (hT : Lib.Utf8Tabs 0 1 w) :
    Calls Tryd.prog 12 #[.slice (some ⟨b, off, none⟩) len cap] w fun e w' => e = .returned (.tuple #[.int .i32 (rv (l.take n) : Nat), .int .i64 n]) ∧ Below w.heap.size w w' := by
  have hsz : (ByteArray.mk l.toArray).size = l.length := by simp [ByteArray.size]
  obtain ⟨r, h1, _, _, _, _, _, h2⟩ := decode_char' ⟨l.toArray⟩ 0 n (by simpa using hc)
  have h3 : Lib.decodeGo ⟨l.toArray⟩ = (rv (l.take n), n) := by
    have hne : ¬ (ByteArray.mk l.toArray).size = 0 := by rw [hsz]; have := hc.le; omega
    rw [Lib.decodeGo, if_neg hne, h1, h2]
    simp
  have h := Any7.utf8_DecodeRune Tryd.laysNm732 ⟨l.toArray⟩ b off cap w hT (fun j hj => by
    rw [hsz] at hj
    rw [hB.at j hj]
    have := (get_of (s := ⟨l.toArray⟩) (pos := 0) (i := j) (a := l[j]) (by simp [hj])).1
    rw [Nat.zero_add] at this
    rw [this])
  rw [h3, hsz, ← hlen] at h
  exact h

end Go.Proofs.YtjeijgpahdjbbaaDoor
