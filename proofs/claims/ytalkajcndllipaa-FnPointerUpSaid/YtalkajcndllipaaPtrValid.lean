/- Pointers: the reference's test. -/
import Derived.Test.YtalkajcndllipaaIsText
namespace Go.Proofs.Ytalkajcndllipaa
open Go.RowKit

/-- What a pointer's text is. -/
def Tilded (l : List UInt8) : Prop := ∀ j (h : j < l.length), l[j].toNat = 126 → ∃ h1 : j + 1 < l.length, l[j + 1].toNat = 48 ∨ l[j + 1].toNat = 49

structure Ptr (l : List UInt8) : Prop where
  text : Text l
  head : ∀ h : 0 < l.length, l[0].toNat = 47
  tilde : Tilded l

structure IsPtr (l : List UInt8) (e : Ending) (w w' : World) : Prop where
  world : w = w'
  what : ∃ b : Bool, e = .returned (.bool b) ∧ (b = true → Ptr l)

/-- .. of the tildes ahead of a place. -/
def TildedTo (s : ByteArray) (k : Nat) : Prop := ∀ j (h : j < s.size), j < k → (s[j]'h).toNat = 126 → ∃ h1 : j + 1 < s.size, (s[j + 1]'h1).toNat = 48 ∨ (s[j + 1]'h1).toNat = 49

theorem TildedTo.esc {s : ByteArray} {k : Nat} (h : TildedTo s k) (hk : k + 1 < s.size) (hd : (s[k + 1]'hk).toNat = 48 ∨ (s[k + 1]'hk).toNat = 49) : TildedTo s (k + 1) := by
  intro j hj hjk hc
  by_cases e : j = k
  · subst e; exact ⟨hk, hd⟩
  · exact h j hj (by omega) hc

theorem TildedTo.other {s : ByteArray} {k : Nat} (h : TildedTo s k) (hk : k < s.size) (hd : (s[k]'hk).toNat ≠ 126) : TildedTo s (k + 1) := by
  intro j hj hjk hc
  by_cases e : j = k
  · subst e; exact absurd hc hd
  · exact h j hj (by omega) hc

theorem TildedTo.done {s : ByteArray} (h : TildedTo s s.size) : Tilded s.data.toList := by
  intro j hj hc
  have hj2 : j < s.size := by rw [size_eq] at hj; exact hj
  obtain ⟨h1, h2⟩ := h j hj2 hj2 hc
  exact ⟨by rw [size_eq]; exact h1, h2⟩

set_option maxRecDepth 100000 in
set_option maxHeartbeats 1000000 in
theorem pointerValid_any (s : ByteArray) (hs : s.size ≤ 1000000000) (w : World) :
    Calls Try.prog 17 #[.string s] w fun e w' => IsPtr s.data.toList e w w' := by
  go_enter Try.func17, Try.ntmps17
  go_wp2_with fail
  refine (isText_any s hs _).mono ?_
  rintro e w1 ⟨rfl, b, rfl, hb⟩
  have HT := Lib.hid hb
  clear hb
  cases b with
  | false =>
    go_wp2_with fail
    go_ret
    exact ⟨rfl, false, rfl, fun h => by cases h⟩
  | true =>
    by_cases h0 : 0 < s.size
    · have hq := nonempty h0
      have hi0 : (0 : Int) < (s.size : Int) := by omega
      obtain ⟨a, ha⟩ : ∃ a : Nat, (s[0]'h0).toNat = a := ⟨_, rfl⟩
      have HA := Lib.hid ha
      by_cases h47 : a = 47
      · subst h47
        go_wp2_with fail
        go_loopw [3, 18] (fun _ t wr => ∃ k : Nat, t = .int .i64 k ∧ k ≤ s.size ∧ TildedTo s k ∧ wr = w) (fun _ t _ => s.size - (intOf t).toNat)
        case atStart => exact ⟨0, rfl, Nat.zero_le _, fun _ _ h => absurd h (Nat.not_lt_zero _), rfl⟩
        case round =>
          obtain ⟨k, rfl, hk, htl, rfl⟩ := hrel
          have HD := Lib.hid htl
          clear htl
          by_cases hk2 : k < s.size
          · have hk0 : (0 : Int) ≤ (k : Int) := by omega
            have hk1 : (k : Int) < (s.size : Int) := by omega
            obtain ⟨c, hc⟩ : ∃ c : Nat, (s[k]'hk2).toNat = c := ⟨_, rfl⟩
            have HC := Lib.hid hc
            by_cases hc126 : c = 126
            · subst hc126
              by_cases hend : k + 1 = s.size
              · have hend2 : ((k : Int) + 1 == (s.size : Int)) = true := by rw [beq_iff_eq]; omega
                go_wp2_with fail
                go_ret
                exact ⟨rfl, false, rfl, fun h => by cases h⟩
              · have hend2 : ((k : Int) + 1 == (s.size : Int)) = false := by rw [beq_eq_false_iff_ne]; omega
                have hk3 : k + 1 < s.size := by omega
                have hk4 : (0 : Int) ≤ (k : Int) + 1 := by omega
                have hk5 : (k : Int) + 1 < (s.size : Int) := by omega
                have hk6 : ((k : Int) + 1).toNat = k + 1 := by omega
                obtain ⟨d, hd⟩ : ∃ d : Nat, (s[k + 1]'hk3).toNat = d := ⟨_, rfl⟩
                have HDD := Lib.hid hd
                by_cases hd48 : d = 48
                · subst hd48
                  go_wp2_with fail
                  exact ⟨⟨k + 1, by simp, by omega, HD.out.esc hk3 (.inl HDD.out), trivial⟩, by simp only [intOf]; omega⟩
                · have n48 : ((d : Int) == 48) = false := by rw [beq_eq_false_iff_ne]; omega
                  by_cases hd49 : d = 49
                  · subst hd49
                    go_wp2_with fail
                    exact ⟨⟨k + 1, by simp, by omega, HD.out.esc hk3 (.inr HDD.out), trivial⟩, by simp only [intOf]; omega⟩
                  · have n49 : ((d : Int) == 49) = false := by rw [beq_eq_false_iff_ne]; omega
                    have m48 : ((d : Int) != 48) = true := by rw [bne_iff_ne]; omega
                    have m49 : ((d : Int) != 49) = true := by rw [bne_iff_ne]; omega
                    go_wp2_with fail
                    go_ret
                    exact ⟨rfl, false, rfl, fun h => by cases h⟩
            · have n126 : ((c : Int) == 126) = false := by rw [beq_eq_false_iff_ne]; omega
              go_wp2_with fail
              exact ⟨⟨k + 1, by simp, by omega, HD.out.other hk2 (by rw [HC.out]; exact hc126), trivial⟩, by simp only [intOf]; omega⟩
          · obtain rfl : k = s.size := by omega
            go_wp2_with fail
            go_ret
            exact ⟨rfl, true, rfl, fun _ => ⟨HT.out trivial, fun h => HA.out, HD.out.done⟩⟩
      · have hne : ((a : Int) == 47) = false := by rw [beq_eq_false_iff_ne]; omega
        go_wp2_with fail
        go_ret
        exact ⟨rfl, false, rfl, fun h => by cases h⟩
    · have hq := empty h0
      have hsz : s.size = 0 := by omega
      have hnil : s.data.toList = [] := List.eq_nil_of_length_eq_zero (by rw [size_eq]; omega)
      have HE := Lib.hid hnil
      clear hnil
      go_wp2_with fail
      go_loopw [3, 18] (fun _ t wr => t = .int .i64 0 ∧ wr = w) (fun _ _ _ => 0)
      case atStart => exact ⟨rfl, rfl⟩
      case round =>
        obtain ⟨rfl, rfl⟩ := hrel
        go_wp2_with fail
        go_ret
        exact ⟨rfl, true, rfl, fun _ => by rw [HE.out]; exact ⟨.nil, fun h => by simp at h, fun j h => by simp at h⟩⟩

/-- 'pointers10' of one text. -/
structure IsPtrs (l : List UInt8) (e : Ending) (w w' : World) : Prop where
  world : w = w'
  what : ∃ b : Bool, e = .returned (.bool b) ∧ (b = true → Ptr l ∧ l.length ≤ 4000)

set_option maxRecDepth 100000 in
set_option maxHeartbeats 1000000 in
theorem pointers10_any (s : ByteArray) (hs : s.size ≤ 2147483647) (b cap : Nat) (w : World) (hc : w.cell? ⟨b, 0, none⟩ = some (.string s)) :
    Calls Try.prog 7 #[.slice (some ⟨b, 0, none⟩) 1 cap] w fun e w' => IsPtrs s.data.toList e w w' := by
  go_enter Try.func7, Try.ntmps7
  go_wp2_with fail
  go_loopw [4, 7] (fun _ t wr => (t = .int .i64 0 ∨ (t = .int .i64 1 ∧ Ptr s.data.toList ∧ s.data.toList.length ≤ 4000)) ∧ wr = w) (fun _ t _ => 1 - (intOf t).toNat)
  case atStart => exact ⟨.inl rfl, rfl⟩
  case round =>
    obtain ⟨hrel | ⟨rfl, hp⟩, rfl⟩ := hrel
    · subst hrel
      by_cases hlen : 4000 < s.size
      · go_wp2_with fail
        go_ret
        exact ⟨rfl, false, rfl, fun h => by cases h⟩
      · go_wp2_with fail
        refine (pointerValid_any s (by omega) _).mono ?_
        rintro e w1 ⟨rfl, b, rfl, hb⟩
        have HT := Lib.hid hb
        clear hb
        cases b with
        | false =>
          go_wp2_with fail
          go_ret
          exact ⟨rfl, false, rfl, fun h => by cases h⟩
        | true =>
          go_wp2_with fail
          exact ⟨⟨.inr ⟨rfl, HT.out trivial, by rw [size_eq]; omega⟩, trivial⟩, by simp [intOf]⟩
    · have HP := Lib.hid hp
      clear hp
      go_wp2_with fail
      go_ret
      exact ⟨rfl, true, rfl, fun _ => HP.out⟩

end Go.Proofs.Ytalkajcndllipaa
