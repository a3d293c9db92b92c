/- A token's text, as the package reads it; the cut at a slash. -/
import Derived.Test.YtalkajcndllipaaSearch
namespace Go.Proofs.Ytalkajcndllipaa
open Go.RowKit

theorem toArr (s : ByteArray) : (⟨s.data.toList.toArray⟩ : ByteArray) = s := bytes_ext (by simp)

set_option maxRecDepth 100000 in
set_option maxHeartbeats 1000000 in
theorem unescape_any (s : ByteArray) (hs : s.size ≤ 100000) (ht : TOk s.data.toList) (w : World) :
    Calls Try.prog 27 #[.string s] w (StrR w (unesc s.data.toList)) := by
  have HT := Lib.hid ht
  clear ht
  go_enter Try.func27, Try.ntmps27
  go_wp2_with fail
  refine (zzContains_any s hs _).mono ?_
  rintro e w1 ⟨rfl, b, rfl, hb⟩
  cases b with
  | false =>
    have hu := no_tilde (hb rfl)
    have HU := Lib.hid hu
    clear hb hu
    go_wp2_with fail
    go_ret
    exact ⟨Below.refl _ _, by rw [HU.out, toArr]; rfl⟩
  | true =>
    clear hb
    go_wp2_with fail
    refine (zzReplaceAll_any s 49 47 hs _).mono ?_
    rintro e w1 ⟨b1, rfl⟩
    obtain ⟨s1, hs1⟩ : ∃ s1 : ByteArray, s1 = ⟨(repl 49 47 s.data.toList).toArray⟩ := ⟨_, rfl⟩
    rw [← hs1]
    have hl1 : s1.data.toList = repl 49 47 s.data.toList := by rw [hs1]
    have hz1 : s1.size ≤ 100000 := by
      have := repl_len 49 47 _ s.data.toList (Nat.le_refl _)
      rw [← hl1, size_eq, size_eq] at this
      omega
    have B1 := Lib.hid b1
    have HL := Lib.hid hl1
    clear b1 hs1 hl1
    go_wp2_with fail
    refine (zzReplaceAll_any s1 48 126 hz1 _).mono ?_
    rintro e w2 ⟨b2, rfl⟩
    have hx : repl 48 126 s1.data.toList = unesc s.data.toList := by rw [HL.out, repl_two HT.out]
    have B2 := Lib.hid b2
    clear b2
    rw [hx]
    clear hx
    go_wp2_with fail
    go_ret
    exact ⟨below_step B1.out B2.out, rfl⟩

/-- The slash ahead is taken off. -/
theorem trim_any (s : ByteArray) (l : List UInt8) (hl : s.data.toList = 47 :: l) (hs : s.size ≤ 100000) (w : World) :
    Calls Try.prog 25 #[.string s, .string ⟨#[47]⟩] w fun e w' => w' = w ∧ e = .returned (.string ⟨l.toArray⟩) := by
  have h1 : 1 ≤ s.size := by rw [← size_eq, hl]; simp
  have hx : (s.extract 1 s.size) = ⟨l.toArray⟩ := bytes_ext (by rw [extract_list, hl]; rfl)
  have hp : ((s.extract 0 1).toList == [47]) = true := by
    rw [beq_iff_eq, Lib.toList_data, extract_toList, hl]
    rfl
  have HX := Lib.hid hx
  clear hx hl
  have hi : (1 : Int) ≤ (s.size : Int) := by omega
  go_enter Try.func25, Try.ntmps25
  go_wp2_with (first | go_in)
  go_ret
  refine ⟨rfl, ?_⟩
  rw [← HX.out]
  rfl

end Go.Proofs.Ytalkajcndllipaa
