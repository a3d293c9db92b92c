/- The reader of whole numbers, on the digits of a number of 64 bits. -/
import Derived.Test.YtifemmjblamfkaaChecked
import Derived.Test.YtifemmjblamfkaaLib
import Derived.Test.YtifemmjblamfkaaDig
namespace Go.Proofs.Ytifemmjblamfkaa
open Go.RowKit

theorem u8p : U8 Try.prog 39 5 := ⟨by kernel_rfl, by kernel_rfl, by kernel_rfl⟩
theorem string9p : Try.prog.underlying 9 = some .string := by kernel_rfl

set_option maxRecDepth 100000 in
set_option maxHeartbeats 400000 in
theorem parseUint_any (n : Nat) (hn : n < 18446744073709551616) (l : List UInt8) (hl : l = Dig.dig n) (b len cap : Nat) (w : World) (hlen : len = l.length) (hB : Bytes w b 0 l) (hcap : l.length ≤ cap) (_ : cap ≤ 9223372036854775807) :
    Calls Try.prog 18 #[.slice (some ⟨b, 0, none⟩) len cap] w fun e w' => e = .returned (.tuple #[.int .u64 n, .bool true]) ∧ w = w' := by
  have HE := Lib.hid hlen
  have HN := Lib.hid hn
  have HL := Lib.hid hl
  have HB := Lib.hid hB
  rw [← hlen] at hcap
  have hspec := Dig.dig_spec n (by omega)
  obtain ⟨c0, t, e0, ht, hc0, hz, h19⟩ := Dig.dig64 n hn
  rw [← hl] at hspec e0
  have hpos : 0 < len := by rw [hlen, e0]; simp
  have h20 : len ≤ 20 := by rw [hlen, e0]; simp; omega
  have HD := Lib.hid hspec
  have H0 := Lib.hid e0
  have HZ := Lib.hid hz
  have H19 := Lib.hid h19
  have HT := Lib.hid ht
  have HC := Lib.hid hc0
  clear hn hl hB hlen hspec e0 hz h19 ht hc0
  go_enter Try.func18, Try.ntmps18
  go_wp2
  go_loopw [2, 4] (fun t v wr => ∃ k x : Nat, t = .int .u64 x ∧ v = .int .i64 k ∧ k ≤ len ∧ x = Dig.val (l.take k) ∧ wr = w) (fun _ v _ => len - (intOf v).toNat)
  case atStart => exact ⟨0, 0, rfl, rfl, Nat.zero_le _, rfl, rfl⟩
  case round =>
    obtain ⟨k, x, rfl, rfl, hk, hx, rfl⟩ := hrel
    have HX := Lib.hid hx
    clear hx
    by_cases hk2 : k < len
    · have hk3 : k < l.length := by rw [← HE.out]; exact hk2
      obtain ⟨c, hat, ⟨hd1, hd2⟩, hval'⟩ : ∃ c : Nat, wr.cell? ⟨b, k, none⟩ = some (.int .u8 (c : Int)) ∧ (48 ≤ c ∧ c ≤ 57) ∧ Dig.val (l.take (k + 1)) = 10 * Dig.val (l.take k) + (c - 48) :=
        ⟨l[k].toNat, HB.out.at0 k hk3, HD.out.1 l[k] (List.getElem_mem hk3), Dig.val_take_succ l k hk3⟩
      have hbound : 10 * x + (c - 48) < 18446744073709551616 := by
        have := Dig.val_take_le l (k + 1)
        rw [hval', ← HX.out, HD.out.2.1] at this
        exact Nat.lt_of_le_of_lt this HN.out
      have HV := Lib.hid (hval'.trans (by rw [← HX.out]))
      have HU := Lib.hid hbound
      clear hval' hk3 hbound
      go_wp2_with fail
      refine ⟨⟨k + 1, 10 * x + (c - 48), ?_, by simp, by omega, HV.out.symm, trivial⟩, by simp only [intOf]; omega⟩
      have := HU.out
      congr 1
      simp only [IntKind.wrap, IntKind.bits, IntKind.signed]
      simp
      omega
    · have : k = len := by omega
      subst this
      have hxn : x = n := by
        have := HX.out
        rw [HE.out, List.take_length] at this
        rw [this]
        exact HD.out.2.1
      subst hxn
      have hat := HB.out.at0 0 (by have := HE.out; omega)
      have e1 : l[0]'(by have := HE.out; omega) = c0 := by simp [H0.out]
      rw [e1] at hat
      clear e1
      by_cases h48 : c0.toNat = 48
      · rw [h48] at hat
        obtain ⟨hx0, ht0⟩ := HZ.out h48
        have hk1 : k = 1 := by have := HE.out; rw [H0.out, ht0] at this; simpa using this
        have hl1 : l = [48] := by rw [H0.out, ht0]; congr 1; exact UInt8.toNat_inj.1 h48
        have HB1 := Lib.hid (show Bytes wr b 0 (ByteArray.mk #[48]).data.toList by have := HB.out; rw [hl1] at this; exact this)
        subst hk1 hx0
        go_wp2_with (refine wpList_toStr u8p rfl (.tmp 49) 9 rfl string9p rfl (ByteArray.mk #[48]) rfl HB1.out ?_)
        go_ret2
        exact ⟨rfl, rfl⟩
      · by_cases h20' : k = 20
        · obtain ⟨h49, hbig⟩ := H19.out (by have := HE.out; rw [H0.out] at this; simp at this; omega)
          rw [h49] at hat
          subst h20'
          have hv : decide ((x : Int) < 10000000000000000000) = false := by simp; omega
          go_wp2_with fail
          go_ret2
          exact ⟨rfl, rfl⟩
        · go_wp2_with fail
          go_ret2
          exact ⟨rfl, rfl⟩

set_option maxHeartbeats 400000 in
theorem simpleNumber_any (n : Nat) (hn : n < 18446744073709551616) (l : List UInt8) (hl : l = Dig.dig n) (b len cap : Nat) (w : World) (hlen : len = l.length) (hB : Bytes w b 0 l) (hcap : l.length ≤ cap) (_ : cap ≤ 9223372036854775807) :
    Calls Try.prog 20 #[.slice (some ⟨b, 0, none⟩) len cap] w fun e w' => e = .returned (.int .i64 len) ∧ w = w' := by
  have HE := Lib.hid hlen
  have HB := Lib.hid hB
  rw [← hlen] at hcap
  have hspec := Dig.dig_spec n (by omega)
  obtain ⟨c0, t, e0, ht, hc0, hz, h19⟩ := Dig.dig64 n hn
  rw [← hl] at hspec e0
  have hpos : 0 < len := by rw [hlen, e0]; simp
  have h20 : len ≤ 20 := by rw [hlen, e0]; simp; omega
  have HD := Lib.hid hspec.1
  have hat := hB.at0 0 (by omega)
  have e1 : l[0]'(by omega) = c0 := by simp [e0]
  rw [e1] at hat
  obtain ⟨hc1, hc2⟩ := hc0
  have H0 := Lib.hid e0
  have HZ := Lib.hid hz
  clear hn hl hB hlen hspec e0 hz h19 ht e1
  go_enter Try.func20, Try.ntmps20
  by_cases h48 : c0.toNat = 48
  · rw [h48] at hat
    obtain ⟨hx0, ht0⟩ := HZ.out h48
    have hk1 : len = 1 := by have := HE.out; rw [H0.out, ht0] at this; simpa using this
    subst hk1 hx0
    go_wp2_with fail
    go_ret
    exact ⟨rfl, rfl⟩
  · generalize c0.toNat = c at *
    have hq : decide ((c : Int) ≤ 57) = true := by simp; omega
    go_wp2_with fail
    go_loopw [2] (fun t wr => ∃ k : Nat, t = .int .i64 k ∧ k ≤ len ∧ wr = w) (fun t _ => len - (intOf t).toNat)
    case atStart => exact ⟨1, rfl, by omega, rfl⟩
    case round =>
      obtain ⟨k, rfl, hk, rfl⟩ := hrel
      by_cases hk2 : k < len
      · have hk3 : k < l.length := by rw [← HE.out]; exact hk2
        obtain ⟨d, hat2, hd1, hd2⟩ : ∃ d : Nat, wr.cell? ⟨b, k, none⟩ = some (.int .u8 (d : Int)) ∧ 48 ≤ d ∧ d ≤ 57 :=
          ⟨l[k].toNat, HB.out.at0 k hk3, HD.out l[k] (List.getElem_mem hk3)⟩
        clear hk3
        have hq2 : decide ((d : Int) ≤ 57) = true := by simp; omega
        go_wp2_with fail
        exact ⟨⟨k + 1, by simp, by omega, trivial⟩, by simp only [intOf]; omega⟩
      · have : k = len := by omega
        subst this
        go_wp2_with fail
        go_ret
        exact ⟨rfl, rfl⟩

theorem wireUint_any (n : Nat) (hn : n < 18446744073709551616) (s : ByteArray) (hl : s.data.toList = Dig.dig n) (w : World) :
    Calls Try.prog 10 #[.string s] w fun e w' => e = .returned (.tuple #[.int .u64 n, .bool true]) ∧ Below w.heap.size w w' := by
  have hs : s.size ≤ 20 := by
    obtain ⟨c0, t, e0, ht, _⟩ := Dig.dig64 n hn
    rw [← size_eq, hl, e0]
    simp
    omega
  have HN := Lib.hid hn
  have HL := Lib.hid hl
  clear hn hl
  go_enter Try.func10, Try.ntmps10
  go_wp2_with (first
    | (refine wpList_conv u8p rfl (.tmp 4) 9 rfl string9p rfl (by unfold maxLen; omega) ?_; intro c1 w1 o1 b1 z1; have O1 := Lib.hid o1; have B1 := Lib.hid b1; clear o1 z1 b1)
    | (go_at_call 18; have X := O1.out.slice; refine (parseUint_any n HN.out _ HL.out _ _ _ _ X.1 X.2.2.2.2 X.2.1 (by have := X.2.2.1; unfold maxLen at this; omega)).mono ?_; rintro e w3 ⟨rfl, rfl⟩; clear X))
  go_ret2
  exact ⟨rfl, B1.out⟩

theorem wireSimpleNumber_any (n : Nat) (hn : n < 18446744073709551616) (s : ByteArray) (hl : s.data.toList = Dig.dig n) (w : World) :
    Calls Try.prog 12 #[.string s] w fun e w' => e = .returned (.int .i64 s.size) ∧ Below w.heap.size w w' := by
  have hs : s.size ≤ 20 := by
    obtain ⟨c0, t, e0, ht, _⟩ := Dig.dig64 n hn
    rw [← size_eq, hl, e0]
    simp
    omega
  have HN := Lib.hid hn
  have HL := Lib.hid hl
  clear hn hl
  go_enter Try.func12, Try.ntmps12
  go_wp2_with (first
    | (refine wpList_conv u8p rfl (.tmp 3) 9 rfl string9p rfl (by unfold maxLen; omega) ?_; intro c1 w1 o1 b1 z1; have O1 := Lib.hid o1; have B1 := Lib.hid b1; clear o1 z1 b1)
    | (go_at_call 20; have X := O1.out.slice; refine (simpleNumber_any n HN.out _ HL.out _ _ _ _ X.1 X.2.2.2.2 X.2.1 (by have := X.2.2.1; unfold maxLen at this; omega)).mono ?_; rintro e w3 ⟨rfl, rfl⟩; clear X))
  go_ret
  exact ⟨rfl, B1.out⟩
end Go.Proofs.Ytifemmjblamfkaa
