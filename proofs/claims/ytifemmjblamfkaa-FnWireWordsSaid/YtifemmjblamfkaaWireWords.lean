/- The words of the package: 'ConsumeNull', 'ConsumeFalse', 'ConsumeTrue', and the thin package over them. -/
import Derived.Test.YtifemmjblamfkaaHead
import Derived.Lib.Strings
namespace Go.Proofs.Ytifemmjblamfkaa
open Go.RowKit

theorem u8 : U8 Try.prog 39 5 := ⟨by kernel_rfl, by kernel_rfl, by kernel_rfl⟩
theorem string9 : Try.prog.underlying 9 = some .string := by kernel_rfl

def nullL : List UInt8 := [110, 117, 108, 108]
def falseL : List UInt8 := [102, 97, 108, 115, 101]
def trueL : List UInt8 := [116, 114, 117, 101]

/-- The bytes of a word with which a text begins, or 0. -/
def wordN (wd l : List UInt8) : Int := if l.take wd.length = wd then (wd.length : Int) else 0

theorem strEq {S : ByteArray} {x y : List UInt8} (h : S.data.toList = x) (e : x = y) : (S.toList == y) = true := by
  rw [Lib.toList_data, h, e]; simp

theorem strNe {S : ByteArray} {x y : List UInt8} (h : S.data.toList = x) (e : ¬ x = y) : (S.toList == y) = false := by
  rw [Lib.toList_data, h]; simpa using e

set_option maxHeartbeats 400000 in
theorem consumeNull_any (l : List UInt8) (b n cap : Nat) (w : World) (hn : n = l.length) (hbytes : Bytes w b 0 l) (hlen : l.length ≤ cap) (hcap : cap ≤ 9223372036854775807) :
    Calls Try.prog 15 #[.slice (some ⟨b, 0, none⟩) n cap] w fun e w' => e = .returned (.int .i64 (wordN nullL l)) ∧ w = w' := by
  subst hn
  obtain ⟨S, hS⟩ : ∃ S : ByteArray, S.data.toList = l.take 4 := ⟨⟨(l.take 4).toArray⟩, rfl⟩
  have HB := Lib.hid hbytes
  have HS := Lib.hid hS
  clear hbytes hS
  by_cases h4 : 4 ≤ l.length
  · by_cases he : l.take 4 = [110, 117, 108, 108]
    · have hq := strEq HS.out he
      have HV : Hid (wordN nullL l = 4) := if_pos he
      clear he
      go_enter Try.func15, Try.ntmps15
      go_wp2_with (refine wpList_toStr u8 rfl (.tmp 8) 9 rfl string9 rfl S (by rw [HS.out]; simp; omega) (by rw [HS.out]; exact HB.out.sub 0 4) ?_)
      go_ret
      rw [HV.out]
      exact ⟨rfl, rfl⟩
    · have hq := strNe HS.out he
      have HV : Hid (wordN nullL l = 0) := if_neg he
      clear he
      go_enter Try.func15, Try.ntmps15
      go_wp2_with (refine wpList_toStr u8 rfl (.tmp 8) 9 rfl string9 rfl S (by rw [HS.out]; simp; omega) (by rw [HS.out]; exact HB.out.sub 0 4) ?_)
      go_ret
      rw [HV.out]
      exact ⟨rfl, rfl⟩
  · have HV : Hid (wordN nullL l = 0) := if_neg (fun e => h4 (by have := congrArg List.length e; simp [nullL] at this; omega))
    go_enter Try.func15, Try.ntmps15
    go_wp2
    go_ret
    rw [HV.out]
    exact ⟨rfl, rfl⟩

theorem wireNull_any (s : ByteArray) (w : World) (hs : s.size ≤ 1000000000) :
    Calls Try.prog 7 #[.string s] w fun e w' => e = .returned (.int .i64 (wordN nullL s.data.toList)) ∧ Below w.heap.size w w' := by
  go_enter Try.func7, Try.ntmps7
  go_wp2_with (first
    | (refine wpList_conv u8 rfl (.tmp 3) 9 rfl string9 rfl (by unfold maxLen; omega) ?_; intro c1 w1 o1 b1 z1; have O1 := Lib.hid o1; have B1 := Lib.hid b1; clear o1 z1 b1)
    | (go_at_call 15; have X := O1.out.slice; refine (consumeNull_any s.data.toList _ _ _ _ X.1 X.2.2.2.2 X.2.1 (by have := X.2.2.1; unfold maxLen at this; omega)).mono ?_; rintro e w3 ⟨rfl, rfl⟩; clear X))
  go_ret
  exact ⟨rfl, B1.out⟩

set_option maxHeartbeats 400000 in
theorem consumeFalse_any (l : List UInt8) (b n cap : Nat) (w : World) (hn : n = l.length) (hbytes : Bytes w b 0 l) (hlen : l.length ≤ cap) (hcap : cap ≤ 9223372036854775807) :
    Calls Try.prog 16 #[.slice (some ⟨b, 0, none⟩) n cap] w fun e w' => e = .returned (.int .i64 (wordN falseL l)) ∧ w = w' := by
  subst hn
  obtain ⟨S, hS⟩ : ∃ S : ByteArray, S.data.toList = l.take 5 := ⟨⟨(l.take 5).toArray⟩, rfl⟩
  have HB := Lib.hid hbytes
  have HS := Lib.hid hS
  clear hbytes hS
  by_cases h4 : 5 ≤ l.length
  · by_cases he : l.take 5 = [102, 97, 108, 115, 101]
    · have hq := strEq HS.out he
      have HV : Hid (wordN falseL l = 5) := if_pos he
      clear he
      go_enter Try.func16, Try.ntmps16
      go_wp2_with (refine wpList_toStr u8 rfl (.tmp 8) 9 rfl string9 rfl S (by rw [HS.out]; simp; omega) (by rw [HS.out]; exact HB.out.sub 0 5) ?_)
      go_ret
      rw [HV.out]
      exact ⟨rfl, rfl⟩
    · have hq := strNe HS.out he
      have HV : Hid (wordN falseL l = 0) := if_neg he
      clear he
      go_enter Try.func16, Try.ntmps16
      go_wp2_with (refine wpList_toStr u8 rfl (.tmp 8) 9 rfl string9 rfl S (by rw [HS.out]; simp; omega) (by rw [HS.out]; exact HB.out.sub 0 5) ?_)
      go_ret
      rw [HV.out]
      exact ⟨rfl, rfl⟩
  · have HV : Hid (wordN falseL l = 0) := if_neg (fun e => h4 (by have := congrArg List.length e; simp [falseL] at this; omega))
    go_enter Try.func16, Try.ntmps16
    go_wp2
    go_ret
    rw [HV.out]
    exact ⟨rfl, rfl⟩

theorem wireFalse_any (s : ByteArray) (w : World) (hs : s.size ≤ 1000000000) :
    Calls Try.prog 8 #[.string s] w fun e w' => e = .returned (.int .i64 (wordN falseL s.data.toList)) ∧ Below w.heap.size w w' := by
  go_enter Try.func8, Try.ntmps8
  go_wp2_with (first
    | (refine wpList_conv u8 rfl (.tmp 3) 9 rfl string9 rfl (by unfold maxLen; omega) ?_; intro c1 w1 o1 b1 z1; have O1 := Lib.hid o1; have B1 := Lib.hid b1; clear o1 z1 b1)
    | (go_at_call 16; have X := O1.out.slice; refine (consumeFalse_any s.data.toList _ _ _ _ X.1 X.2.2.2.2 X.2.1 (by have := X.2.2.1; unfold maxLen at this; omega)).mono ?_; rintro e w3 ⟨rfl, rfl⟩; clear X))
  go_ret
  exact ⟨rfl, B1.out⟩

set_option maxHeartbeats 400000 in
theorem consumeTrue_any (l : List UInt8) (b n cap : Nat) (w : World) (hn : n = l.length) (hbytes : Bytes w b 0 l) (hlen : l.length ≤ cap) (hcap : cap ≤ 9223372036854775807) :
    Calls Try.prog 17 #[.slice (some ⟨b, 0, none⟩) n cap] w fun e w' => e = .returned (.int .i64 (wordN trueL l)) ∧ w = w' := by
  subst hn
  obtain ⟨S, hS⟩ : ∃ S : ByteArray, S.data.toList = l.take 4 := ⟨⟨(l.take 4).toArray⟩, rfl⟩
  have HB := Lib.hid hbytes
  have HS := Lib.hid hS
  clear hbytes hS
  by_cases h4 : 4 ≤ l.length
  · by_cases he : l.take 4 = [116, 114, 117, 101]
    · have hq := strEq HS.out he
      have HV : Hid (wordN trueL l = 4) := if_pos he
      clear he
      go_enter Try.func17, Try.ntmps17
      go_wp2_with (refine wpList_toStr u8 rfl (.tmp 8) 9 rfl string9 rfl S (by rw [HS.out]; simp; omega) (by rw [HS.out]; exact HB.out.sub 0 4) ?_)
      go_ret
      rw [HV.out]
      exact ⟨rfl, rfl⟩
    · have hq := strNe HS.out he
      have HV : Hid (wordN trueL l = 0) := if_neg he
      clear he
      go_enter Try.func17, Try.ntmps17
      go_wp2_with (refine wpList_toStr u8 rfl (.tmp 8) 9 rfl string9 rfl S (by rw [HS.out]; simp; omega) (by rw [HS.out]; exact HB.out.sub 0 4) ?_)
      go_ret
      rw [HV.out]
      exact ⟨rfl, rfl⟩
  · have HV : Hid (wordN trueL l = 0) := if_neg (fun e => h4 (by have := congrArg List.length e; simp [trueL] at this; omega))
    go_enter Try.func17, Try.ntmps17
    go_wp2
    go_ret
    rw [HV.out]
    exact ⟨rfl, rfl⟩

theorem wireTrue_any (s : ByteArray) (w : World) (hs : s.size ≤ 1000000000) :
    Calls Try.prog 9 #[.string s] w fun e w' => e = .returned (.int .i64 (wordN trueL s.data.toList)) ∧ Below w.heap.size w w' := by
  go_enter Try.func9, Try.ntmps9
  go_wp2_with (first
    | (refine wpList_conv u8 rfl (.tmp 3) 9 rfl string9 rfl (by unfold maxLen; omega) ?_; intro c1 w1 o1 b1 z1; have O1 := Lib.hid o1; have B1 := Lib.hid b1; clear o1 z1 b1)
    | (go_at_call 17; have X := O1.out.slice; refine (consumeTrue_any s.data.toList _ _ _ _ X.1 X.2.2.2.2 X.2.1 (by have := X.2.2.1; unfold maxLen at this; omega)).mono ?_; rintro e w3 ⟨rfl, rfl⟩; clear X))
  go_ret
  exact ⟨rfl, B1.out⟩

end Go.Proofs.Ytifemmjblamfkaa
