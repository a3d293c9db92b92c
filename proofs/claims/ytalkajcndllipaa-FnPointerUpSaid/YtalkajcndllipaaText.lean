/- Unicode text: the reference's test. -/
import Derived.Test.YtalkajcndllipaaChecked
import Derived.Test.YtalkajcndllipaaLib
import Derived.Lib.Strings
namespace Go.Proofs.Ytalkajcndllipaa
open Go.RowKit

def cont (c : UInt8) : Prop := 128 ≤ c.toNat ∧ c.toNat ≤ 191

/-- The first n bytes are one character. -/
def CharAt (l : List UInt8) (n : Nat) : Prop :=
  (n = 1 ∧ ∃ a t, l = a :: t ∧ a.toNat < 128) ∨
  (n = 2 ∧ ∃ a b t, l = a :: b :: t ∧ 194 ≤ a.toNat ∧ a.toNat ≤ 223 ∧ cont b) ∨
  (n = 3 ∧ ∃ a b c t, l = a :: b :: c :: t ∧ 224 ≤ a.toNat ∧ a.toNat ≤ 239 ∧ cont b ∧ cont c ∧ (a.toNat = 224 → 160 ≤ b.toNat) ∧ (a.toNat = 237 → b.toNat ≤ 159)) ∨
  (n = 4 ∧ ∃ a b c d t, l = a :: b :: c :: d :: t ∧ 240 ≤ a.toNat ∧ a.toNat ≤ 244 ∧ cont b ∧ cont c ∧ cont d ∧ (a.toNat = 240 → 144 ≤ b.toNat) ∧ (a.toNat = 244 → b.toNat ≤ 143))

/-- What the reference says of the first character. -/
structure RuneLen (l : List UInt8) (e : Ending) (w w' : World) : Prop where
  world : w = w'
  what : ∃ n : Nat, e = .returned (.int .i64 n) ∧ (n = 0 ∨ CharAt l n)

/-- Continuing bytes from 2 on. -/
def Conts (s : ByteArray) (k : Nat) : Prop := ∀ j (h : j < s.size), 2 ≤ j → j < k → 128 ≤ (s[j]'h).toNat ∧ (s[j]'h).toNat ≤ 191

theorem conts2 (s : ByteArray) : Conts s 2 := fun j _ h1 h2 => absurd h2 (by omega)

theorem Conts.step {s : ByteArray} {k c : Nat} (h : Conts s k) (hk : k < s.size) (hc : (s[k]'hk).toNat = c) (h1 : ¬ c < 128) (h2 : ¬ 191 < c) : Conts s (k + 1) := by
  intro j hj a b
  by_cases e : j = k
  · subst e; omega
  · exact h j hj a (by omega)

theorem data_at (s : ByteArray) (j : Nat) (h : j < s.size) : s.data.toList[j]'(by rw [size_eq]; exact h) = s[j]'h := rfl

theorem list1 (l : List UInt8) (h : 1 ≤ l.length) : ∃ t, l = l[0] :: t := ⟨l.drop 1, by rw [← List.drop_eq_getElem_cons (i := 0) (by omega)]; rfl⟩
theorem list2 (l : List UInt8) (h : 2 ≤ l.length) : ∃ t, l = l[0] :: l[1] :: t := ⟨l.drop 2, by rw [← List.drop_eq_getElem_cons (i := 1) (by omega), ← List.drop_eq_getElem_cons (i := 0) (by omega)]; rfl⟩
theorem list3 (l : List UInt8) (h : 3 ≤ l.length) : ∃ t, l = l[0] :: l[1] :: l[2] :: t := ⟨l.drop 3, by rw [← List.drop_eq_getElem_cons (i := 2) (by omega), ← List.drop_eq_getElem_cons (i := 1) (by omega), ← List.drop_eq_getElem_cons (i := 0) (by omega)]; rfl⟩
theorem list4 (l : List UInt8) (h : 4 ≤ l.length) : ∃ t, l = l[0] :: l[1] :: l[2] :: l[3] :: t := ⟨l.drop 4, by rw [← List.drop_eq_getElem_cons (i := 3) (by omega), ← List.drop_eq_getElem_cons (i := 2) (by omega), ← List.drop_eq_getElem_cons (i := 1) (by omega), ← List.drop_eq_getElem_cons (i := 0) (by omega)]; rfl⟩

theorem charAt1 (s : ByteArray) (h0 : 0 < s.size) (a : Nat) (ha : (s[0]'h0).toNat = a) (hr : a < 128) : CharAt s.data.toList 1 := by
  obtain ⟨t, e⟩ := list1 s.data.toList (by rw [size_eq]; exact h0)
  exact .inl ⟨rfl, _, t, e, by rw [data_at s 0 h0, ha]; exact hr⟩

theorem charAt2 (s : ByteArray) (h0 : 0 < s.size) (h1 : 1 < s.size) (_ : 2 ≤ s.size) (a b : Nat) (ha : (s[0]'h0).toNat = a) (hb : (s[1]'h1).toNat = b) (hr : 194 ≤ a ∧ a ≤ 223 ∧ 128 ≤ b ∧ b ≤ 191) (_ : Conts s 2) : CharAt s.data.toList 2 := by
  obtain ⟨t, e⟩ := list2 s.data.toList (by rw [size_eq]; omega)
  refine .inr (.inl ⟨rfl, _, _, t, e, ?_⟩)
  rw [data_at s 0 h0, data_at s 1 h1]
  unfold cont
  omega

theorem charAt3 (s : ByteArray) (h0 : 0 < s.size) (h1 : 1 < s.size) (hs : 3 ≤ s.size) (a b : Nat) (ha : (s[0]'h0).toNat = a) (hb : (s[1]'h1).toNat = b) (hr : 224 ≤ a ∧ a ≤ 239 ∧ 128 ≤ b ∧ b ≤ 191 ∧ (a = 224 → 160 ≤ b) ∧ (a = 237 → b ≤ 159)) (hc : Conts s 3) : CharAt s.data.toList 3 := by
  obtain ⟨t, e⟩ := list3 s.data.toList (by rw [size_eq]; omega)
  refine .inr (.inr (.inl ⟨rfl, _, _, _, t, e, ?_⟩))
  have := hc 2 (by omega) (by omega) (by omega)
  rw [data_at s 0 h0, data_at s 1 h1, data_at s 2 (by omega)]
  unfold cont
  omega

theorem charAt4 (s : ByteArray) (h0 : 0 < s.size) (h1 : 1 < s.size) (hs : 4 ≤ s.size) (a b : Nat) (ha : (s[0]'h0).toNat = a) (hb : (s[1]'h1).toNat = b) (hr : 240 ≤ a ∧ a ≤ 244 ∧ 128 ≤ b ∧ b ≤ 191 ∧ (a = 240 → 144 ≤ b) ∧ (a = 244 → b ≤ 143)) (hc : Conts s 4) : CharAt s.data.toList 4 := by
  obtain ⟨t, e⟩ := list4 s.data.toList (by rw [size_eq]; omega)
  refine .inr (.inr (.inr ⟨rfl, _, _, _, _, t, e, ?_⟩))
  have := hc 2 (by omega) (by omega) (by omega)
  have := hc 3 (by omega) (by omega) (by omega)
  rw [data_at s 0 h0, data_at s 1 h1, data_at s 2 (by omega), data_at s 3 (by omega)]
  unfold cont
  omega

set_option maxRecDepth 100000 in
set_option maxHeartbeats 400000 in
theorem rl_1 (s : ByteArray) (hs : s.size ≤ 1000000000) (h0 : 0 < s.size) (a : Nat) (ha : (s[0]'h0).toNat = a) (hr : a < 128) (w : World) :
    Calls Try.prog 18 #[.string s] w fun e w' => RuneLen s.data.toList e w w' := by
  have HA := Lib.hid ha
  have hi0 : (0 : Int) < (s.size : Int) := by omega
  have d0 : decide ((a : Int) < 128) = true := by simp; omega
  go_enter Try.func18, Try.ntmps18
  go_wp2_with fail
  go_ret
  exact ⟨rfl, 1, rfl, .inr (charAt1 s h0 a HA.out hr)⟩

set_option maxRecDepth 100000 in
set_option maxHeartbeats 400000 in
theorem rl_2 (s : ByteArray) (hs : s.size ≤ 1000000000) (h0 : 0 < s.size) (a : Nat) (ha : (s[0]'h0).toNat = a) (hr1 : 128 ≤ a) (hr2 : a < 194) (w : World) :
    Calls Try.prog 18 #[.string s] w fun e w' => RuneLen s.data.toList e w w' := by
  have HA := Lib.hid ha
  have hi0 : (0 : Int) < (s.size : Int) := by omega
  have d0 : decide ((a : Int) < 128) = false := by simp; omega
  have d1 : decide (194 ≤ (a : Int)) = false := by simp; omega
  have d2 : decide ((a : Int) ≤ 223) = true := by simp; omega
  have d3 : decide (224 ≤ (a : Int)) = false := by simp; omega
  have d4 : decide ((a : Int) ≤ 239) = true := by simp; omega
  have d5 : decide (240 ≤ (a : Int)) = false := by simp; omega
  have d6 : decide ((a : Int) ≤ 244) = true := by simp; omega
  have e0 : ((a : Int) == 224) = false := by rw [beq_eq_false_iff_ne]; omega
  have e1 : ((a : Int) == 237) = false := by rw [beq_eq_false_iff_ne]; omega
  have e2 : ((a : Int) == 240) = false := by rw [beq_eq_false_iff_ne]; omega
  have e3 : ((a : Int) == 244) = false := by rw [beq_eq_false_iff_ne]; omega
  go_enter Try.func18, Try.ntmps18
  go_wp2_with fail
  go_ret
  exact ⟨rfl, 0, rfl, .inl rfl⟩

set_option maxRecDepth 100000 in
set_option maxHeartbeats 400000 in
theorem rl_10 (s : ByteArray) (hs : s.size ≤ 1000000000) (h0 : 0 < s.size) (a : Nat) (ha : (s[0]'h0).toNat = a) (hr1 : 245 ≤ a) (w : World) :
    Calls Try.prog 18 #[.string s] w fun e w' => RuneLen s.data.toList e w w' := by
  have HA := Lib.hid ha
  have hi0 : (0 : Int) < (s.size : Int) := by omega
  have d0 : decide ((a : Int) < 128) = false := by simp; omega
  have d1 : decide (194 ≤ (a : Int)) = true := by simp; omega
  have d2 : decide ((a : Int) ≤ 223) = false := by simp; omega
  have d3 : decide (224 ≤ (a : Int)) = true := by simp; omega
  have d4 : decide ((a : Int) ≤ 239) = false := by simp; omega
  have d5 : decide (240 ≤ (a : Int)) = true := by simp; omega
  have d6 : decide ((a : Int) ≤ 244) = false := by simp; omega
  have e0 : ((a : Int) == 224) = false := by rw [beq_eq_false_iff_ne]; omega
  have e1 : ((a : Int) == 237) = false := by rw [beq_eq_false_iff_ne]; omega
  have e2 : ((a : Int) == 240) = false := by rw [beq_eq_false_iff_ne]; omega
  have e3 : ((a : Int) == 244) = false := by rw [beq_eq_false_iff_ne]; omega
  go_enter Try.func18, Try.ntmps18
  go_wp2_with fail
  go_ret
  exact ⟨rfl, 0, rfl, .inl rfl⟩

set_option maxRecDepth 100000 in
set_option maxHeartbeats 400000 in
theorem rl_3 (s : ByteArray) (hs : s.size ≤ 1000000000) (h0 : 0 < s.size) (a : Nat) (ha : (s[0]'h0).toNat = a) (hr1 : 194 ≤ a) (hr2 : a ≤ 223) (w : World) :
    Calls Try.prog 18 #[.string s] w fun e w' => RuneLen s.data.toList e w w' := by
  have HA := Lib.hid ha
  have hi0 : (0 : Int) < (s.size : Int) := by omega
  have d0 : decide ((a : Int) < 128) = false := by simp; omega
  have d1 : decide (194 ≤ (a : Int)) = true := by simp; omega
  have d2 : decide ((a : Int) ≤ 223) = true := by simp; omega
  have d3 : decide (224 ≤ (a : Int)) = false := by simp; omega
  have d4 : decide ((a : Int) ≤ 239) = true := by simp; omega
  have d5 : decide (240 ≤ (a : Int)) = false := by simp; omega
  have d6 : decide ((a : Int) ≤ 244) = true := by simp; omega
  have e0 : ((a : Int) == 224) = false := by rw [beq_eq_false_iff_ne]; omega
  have e1 : ((a : Int) == 237) = false := by rw [beq_eq_false_iff_ne]; omega
  have e2 : ((a : Int) == 240) = false := by rw [beq_eq_false_iff_ne]; omega
  have e3 : ((a : Int) == 244) = false := by rw [beq_eq_false_iff_ne]; omega
  go_enter Try.func18, Try.ntmps18
  by_cases hn : s.size < 2
  · have hn2 : (s.size : Int) < 2 := by omega
    go_wp2_with fail
    go_ret
    exact ⟨rfl, 0, rfl, .inl rfl⟩
  · have hn2 : ¬ (s.size : Int) < 2 := by omega
    have h1 : 1 < s.size := by omega
    have hi1 : (1 : Int) < (s.size : Int) := by omega
    obtain ⟨b, hb⟩ : ∃ b : Nat, (s[1]'h1).toNat = b := ⟨_, rfl⟩
    have HB := Lib.hid hb
    by_cases hb1 : b < 128
    · have q1 : decide ((b : Int) < 128) = true := by simp; omega
      go_wp2_with fail
      go_ret
      exact ⟨rfl, 0, rfl, .inl rfl⟩
    · have q1 : decide ((b : Int) < 128) = false := by simp; omega
      by_cases hb2 : 191 < b
      · have q2 : decide (191 < (b : Int)) = true := by simp; omega
        go_wp2_with fail
        go_ret
        exact ⟨rfl, 0, rfl, .inl rfl⟩
      · have q2 : decide (191 < (b : Int)) = false := by simp; omega
        go_wp2_with fail
        go_loopw [7] (fun t wr => ∃ k : Nat, t = .int .i64 k ∧ 2 ≤ k ∧ k ≤ 2 ∧ Conts s k ∧ wr = w) (fun t _ => 2 - (intOf t).toNat)
        case atStart => exact ⟨2, rfl, by omega, by omega, conts2 s, rfl⟩
        case round =>
          obtain ⟨k, rfl, hk1, hk2, hc, rfl⟩ := hrel
          have HC := Lib.hid hc
          clear hc
          by_cases hk : k < 2
          · exact absurd hk (by omega)
          · obtain rfl : k = 2 := by omega
            go_wp2_with fail
            go_ret
            exact ⟨rfl, 2, rfl, .inr (charAt2 s h0 h1 (by omega) a b HA.out HB.out (by omega) HC.out)⟩

set_option maxRecDepth 100000 in
set_option maxHeartbeats 400000 in
theorem rl_4 (s : ByteArray) (hs : s.size ≤ 1000000000) (h0 : 0 < s.size) (a : Nat) (ha : (s[0]'h0).toNat = a) (hr : a = 224) (w : World) :
    Calls Try.prog 18 #[.string s] w fun e w' => RuneLen s.data.toList e w w' := by
  have HA := Lib.hid ha
  have hi0 : (0 : Int) < (s.size : Int) := by omega
  subst hr
  go_enter Try.func18, Try.ntmps18
  by_cases hn : s.size < 3
  · have hn2 : (s.size : Int) < 3 := by omega
    go_wp2_with fail
    go_ret
    exact ⟨rfl, 0, rfl, .inl rfl⟩
  · have hn2 : ¬ (s.size : Int) < 3 := by omega
    have h1 : 1 < s.size := by omega
    have hi1 : (1 : Int) < (s.size : Int) := by omega
    obtain ⟨b, hb⟩ : ∃ b : Nat, (s[1]'h1).toNat = b := ⟨_, rfl⟩
    have HB := Lib.hid hb
    by_cases hb1 : b < 160
    · have q1 : decide ((b : Int) < 160) = true := by simp; omega
      go_wp2_with fail
      go_ret
      exact ⟨rfl, 0, rfl, .inl rfl⟩
    · have q1 : decide ((b : Int) < 160) = false := by simp; omega
      by_cases hb2 : 191 < b
      · have q2 : decide (191 < (b : Int)) = true := by simp; omega
        go_wp2_with fail
        go_ret
        exact ⟨rfl, 0, rfl, .inl rfl⟩
      · have q2 : decide (191 < (b : Int)) = false := by simp; omega
        go_wp2_with fail
        go_loopw [7] (fun t wr => ∃ k : Nat, t = .int .i64 k ∧ 2 ≤ k ∧ k ≤ 3 ∧ Conts s k ∧ wr = w) (fun t _ => 3 - (intOf t).toNat)
        case atStart => exact ⟨2, rfl, by omega, by omega, conts2 s, rfl⟩
        case round =>
          obtain ⟨k, rfl, hk1, hk2, hc, rfl⟩ := hrel
          have HC := Lib.hid hc
          clear hc
          by_cases hk : k < 3
          · have hks : k < s.size := by omega
            have hik0 : (0 : Int) ≤ (k : Int) := by omega
            have hik1 : (k : Int) < (s.size : Int) := by omega
            obtain ⟨c, hcc⟩ : ∃ c : Nat, (s[k]'hks).toNat = c := ⟨_, rfl⟩
            have HCC := Lib.hid hcc
            by_cases hc1 : c < 128
            · have q3 : decide ((c : Int) < 128) = true := by simp; omega
              go_wp2_with fail
              go_ret
              exact ⟨rfl, 0, rfl, .inl rfl⟩
            · have q3 : decide ((c : Int) < 128) = false := by simp; omega
              by_cases hc2 : 191 < c
              · have q4 : decide (191 < (c : Int)) = true := by simp; omega
                go_wp2_with fail
                go_ret
                exact ⟨rfl, 0, rfl, .inl rfl⟩
              · have q4 : decide (191 < (c : Int)) = false := by simp; omega
                go_wp2_with fail
                exact ⟨⟨k + 1, by simp, by omega, by omega, HC.out.step hks HCC.out hc1 hc2, trivial⟩, by simp only [intOf]; omega⟩
          · obtain rfl : k = 3 := by omega
            go_wp2_with fail
            go_ret
            exact ⟨rfl, 3, rfl, .inr (charAt3 s h0 h1 (by omega) 224 b HA.out HB.out (by omega) HC.out)⟩

set_option maxRecDepth 100000 in
set_option maxHeartbeats 400000 in
theorem rl_5 (s : ByteArray) (hs : s.size ≤ 1000000000) (h0 : 0 < s.size) (a : Nat) (ha : (s[0]'h0).toNat = a) (hr1 : 225 ≤ a) (hr2 : a ≤ 239) (hr3 : a ≠ 237) (w : World) :
    Calls Try.prog 18 #[.string s] w fun e w' => RuneLen s.data.toList e w w' := by
  have HA := Lib.hid ha
  have hi0 : (0 : Int) < (s.size : Int) := by omega
  have d0 : decide ((a : Int) < 128) = false := by simp; omega
  have d1 : decide (194 ≤ (a : Int)) = true := by simp; omega
  have d2 : decide ((a : Int) ≤ 223) = false := by simp; omega
  have d3 : decide (224 ≤ (a : Int)) = true := by simp; omega
  have d4 : decide ((a : Int) ≤ 239) = true := by simp; omega
  have d5 : decide (240 ≤ (a : Int)) = false := by simp; omega
  have d6 : decide ((a : Int) ≤ 244) = true := by simp; omega
  have e0 : ((a : Int) == 224) = false := by rw [beq_eq_false_iff_ne]; omega
  have e1 : ((a : Int) == 237) = false := by rw [beq_eq_false_iff_ne]; omega
  have e2 : ((a : Int) == 240) = false := by rw [beq_eq_false_iff_ne]; omega
  have e3 : ((a : Int) == 244) = false := by rw [beq_eq_false_iff_ne]; omega
  go_enter Try.func18, Try.ntmps18
  by_cases hn : s.size < 3
  · have hn2 : (s.size : Int) < 3 := by omega
    go_wp2_with fail
    go_ret
    exact ⟨rfl, 0, rfl, .inl rfl⟩
  · have hn2 : ¬ (s.size : Int) < 3 := by omega
    have h1 : 1 < s.size := by omega
    have hi1 : (1 : Int) < (s.size : Int) := by omega
    obtain ⟨b, hb⟩ : ∃ b : Nat, (s[1]'h1).toNat = b := ⟨_, rfl⟩
    have HB := Lib.hid hb
    by_cases hb1 : b < 128
    · have q1 : decide ((b : Int) < 128) = true := by simp; omega
      go_wp2_with fail
      go_ret
      exact ⟨rfl, 0, rfl, .inl rfl⟩
    · have q1 : decide ((b : Int) < 128) = false := by simp; omega
      by_cases hb2 : 191 < b
      · have q2 : decide (191 < (b : Int)) = true := by simp; omega
        go_wp2_with fail
        go_ret
        exact ⟨rfl, 0, rfl, .inl rfl⟩
      · have q2 : decide (191 < (b : Int)) = false := by simp; omega
        go_wp2_with fail
        go_loopw [7] (fun t wr => ∃ k : Nat, t = .int .i64 k ∧ 2 ≤ k ∧ k ≤ 3 ∧ Conts s k ∧ wr = w) (fun t _ => 3 - (intOf t).toNat)
        case atStart => exact ⟨2, rfl, by omega, by omega, conts2 s, rfl⟩
        case round =>
          obtain ⟨k, rfl, hk1, hk2, hc, rfl⟩ := hrel
          have HC := Lib.hid hc
          clear hc
          by_cases hk : k < 3
          · have hks : k < s.size := by omega
            have hik0 : (0 : Int) ≤ (k : Int) := by omega
            have hik1 : (k : Int) < (s.size : Int) := by omega
            obtain ⟨c, hcc⟩ : ∃ c : Nat, (s[k]'hks).toNat = c := ⟨_, rfl⟩
            have HCC := Lib.hid hcc
            by_cases hc1 : c < 128
            · have q3 : decide ((c : Int) < 128) = true := by simp; omega
              go_wp2_with fail
              go_ret
              exact ⟨rfl, 0, rfl, .inl rfl⟩
            · have q3 : decide ((c : Int) < 128) = false := by simp; omega
              by_cases hc2 : 191 < c
              · have q4 : decide (191 < (c : Int)) = true := by simp; omega
                go_wp2_with fail
                go_ret
                exact ⟨rfl, 0, rfl, .inl rfl⟩
              · have q4 : decide (191 < (c : Int)) = false := by simp; omega
                go_wp2_with fail
                exact ⟨⟨k + 1, by simp, by omega, by omega, HC.out.step hks HCC.out hc1 hc2, trivial⟩, by simp only [intOf]; omega⟩
          · obtain rfl : k = 3 := by omega
            go_wp2_with fail
            go_ret
            exact ⟨rfl, 3, rfl, .inr (charAt3 s h0 h1 (by omega) a b HA.out HB.out (by omega) HC.out)⟩

set_option maxRecDepth 100000 in
set_option maxHeartbeats 400000 in
theorem rl_6 (s : ByteArray) (hs : s.size ≤ 1000000000) (h0 : 0 < s.size) (a : Nat) (ha : (s[0]'h0).toNat = a) (hr : a = 237) (w : World) :
    Calls Try.prog 18 #[.string s] w fun e w' => RuneLen s.data.toList e w w' := by
  have HA := Lib.hid ha
  have hi0 : (0 : Int) < (s.size : Int) := by omega
  subst hr
  go_enter Try.func18, Try.ntmps18
  by_cases hn : s.size < 3
  · have hn2 : (s.size : Int) < 3 := by omega
    go_wp2_with fail
    go_ret
    exact ⟨rfl, 0, rfl, .inl rfl⟩
  · have hn2 : ¬ (s.size : Int) < 3 := by omega
    have h1 : 1 < s.size := by omega
    have hi1 : (1 : Int) < (s.size : Int) := by omega
    obtain ⟨b, hb⟩ : ∃ b : Nat, (s[1]'h1).toNat = b := ⟨_, rfl⟩
    have HB := Lib.hid hb
    by_cases hb1 : b < 128
    · have q1 : decide ((b : Int) < 128) = true := by simp; omega
      go_wp2_with fail
      go_ret
      exact ⟨rfl, 0, rfl, .inl rfl⟩
    · have q1 : decide ((b : Int) < 128) = false := by simp; omega
      by_cases hb2 : 159 < b
      · have q2 : decide (159 < (b : Int)) = true := by simp; omega
        go_wp2_with fail
        go_ret
        exact ⟨rfl, 0, rfl, .inl rfl⟩
      · have q2 : decide (159 < (b : Int)) = false := by simp; omega
        go_wp2_with fail
        go_loopw [7] (fun t wr => ∃ k : Nat, t = .int .i64 k ∧ 2 ≤ k ∧ k ≤ 3 ∧ Conts s k ∧ wr = w) (fun t _ => 3 - (intOf t).toNat)
        case atStart => exact ⟨2, rfl, by omega, by omega, conts2 s, rfl⟩
        case round =>
          obtain ⟨k, rfl, hk1, hk2, hc, rfl⟩ := hrel
          have HC := Lib.hid hc
          clear hc
          by_cases hk : k < 3
          · have hks : k < s.size := by omega
            have hik0 : (0 : Int) ≤ (k : Int) := by omega
            have hik1 : (k : Int) < (s.size : Int) := by omega
            obtain ⟨c, hcc⟩ : ∃ c : Nat, (s[k]'hks).toNat = c := ⟨_, rfl⟩
            have HCC := Lib.hid hcc
            by_cases hc1 : c < 128
            · have q3 : decide ((c : Int) < 128) = true := by simp; omega
              go_wp2_with fail
              go_ret
              exact ⟨rfl, 0, rfl, .inl rfl⟩
            · have q3 : decide ((c : Int) < 128) = false := by simp; omega
              by_cases hc2 : 191 < c
              · have q4 : decide (191 < (c : Int)) = true := by simp; omega
                go_wp2_with fail
                go_ret
                exact ⟨rfl, 0, rfl, .inl rfl⟩
              · have q4 : decide (191 < (c : Int)) = false := by simp; omega
                go_wp2_with fail
                exact ⟨⟨k + 1, by simp, by omega, by omega, HC.out.step hks HCC.out hc1 hc2, trivial⟩, by simp only [intOf]; omega⟩
          · obtain rfl : k = 3 := by omega
            go_wp2_with fail
            go_ret
            exact ⟨rfl, 3, rfl, .inr (charAt3 s h0 h1 (by omega) 237 b HA.out HB.out (by omega) HC.out)⟩

set_option maxRecDepth 100000 in
set_option maxHeartbeats 400000 in
theorem rl_7 (s : ByteArray) (hs : s.size ≤ 1000000000) (h0 : 0 < s.size) (a : Nat) (ha : (s[0]'h0).toNat = a) (hr : a = 240) (w : World) :
    Calls Try.prog 18 #[.string s] w fun e w' => RuneLen s.data.toList e w w' := by
  have HA := Lib.hid ha
  have hi0 : (0 : Int) < (s.size : Int) := by omega
  subst hr
  go_enter Try.func18, Try.ntmps18
  by_cases hn : s.size < 4
  · have hn2 : (s.size : Int) < 4 := by omega
    go_wp2_with fail
    go_ret
    exact ⟨rfl, 0, rfl, .inl rfl⟩
  · have hn2 : ¬ (s.size : Int) < 4 := by omega
    have h1 : 1 < s.size := by omega
    have hi1 : (1 : Int) < (s.size : Int) := by omega
    obtain ⟨b, hb⟩ : ∃ b : Nat, (s[1]'h1).toNat = b := ⟨_, rfl⟩
    have HB := Lib.hid hb
    by_cases hb1 : b < 144
    · have q1 : decide ((b : Int) < 144) = true := by simp; omega
      go_wp2_with fail
      go_ret
      exact ⟨rfl, 0, rfl, .inl rfl⟩
    · have q1 : decide ((b : Int) < 144) = false := by simp; omega
      by_cases hb2 : 191 < b
      · have q2 : decide (191 < (b : Int)) = true := by simp; omega
        go_wp2_with fail
        go_ret
        exact ⟨rfl, 0, rfl, .inl rfl⟩
      · have q2 : decide (191 < (b : Int)) = false := by simp; omega
        go_wp2_with fail
        go_loopw [7] (fun t wr => ∃ k : Nat, t = .int .i64 k ∧ 2 ≤ k ∧ k ≤ 4 ∧ Conts s k ∧ wr = w) (fun t _ => 4 - (intOf t).toNat)
        case atStart => exact ⟨2, rfl, by omega, by omega, conts2 s, rfl⟩
        case round =>
          obtain ⟨k, rfl, hk1, hk2, hc, rfl⟩ := hrel
          have HC := Lib.hid hc
          clear hc
          by_cases hk : k < 4
          · have hks : k < s.size := by omega
            have hik0 : (0 : Int) ≤ (k : Int) := by omega
            have hik1 : (k : Int) < (s.size : Int) := by omega
            obtain ⟨c, hcc⟩ : ∃ c : Nat, (s[k]'hks).toNat = c := ⟨_, rfl⟩
            have HCC := Lib.hid hcc
            by_cases hc1 : c < 128
            · have q3 : decide ((c : Int) < 128) = true := by simp; omega
              go_wp2_with fail
              go_ret
              exact ⟨rfl, 0, rfl, .inl rfl⟩
            · have q3 : decide ((c : Int) < 128) = false := by simp; omega
              by_cases hc2 : 191 < c
              · have q4 : decide (191 < (c : Int)) = true := by simp; omega
                go_wp2_with fail
                go_ret
                exact ⟨rfl, 0, rfl, .inl rfl⟩
              · have q4 : decide (191 < (c : Int)) = false := by simp; omega
                go_wp2_with fail
                exact ⟨⟨k + 1, by simp, by omega, by omega, HC.out.step hks HCC.out hc1 hc2, trivial⟩, by simp only [intOf]; omega⟩
          · obtain rfl : k = 4 := by omega
            go_wp2_with fail
            go_ret
            exact ⟨rfl, 4, rfl, .inr (charAt4 s h0 h1 (by omega) 240 b HA.out HB.out (by omega) HC.out)⟩

set_option maxRecDepth 100000 in
set_option maxHeartbeats 400000 in
theorem rl_8 (s : ByteArray) (hs : s.size ≤ 1000000000) (h0 : 0 < s.size) (a : Nat) (ha : (s[0]'h0).toNat = a) (hr1 : 241 ≤ a) (hr2 : a ≤ 243) (w : World) :
    Calls Try.prog 18 #[.string s] w fun e w' => RuneLen s.data.toList e w w' := by
  have HA := Lib.hid ha
  have hi0 : (0 : Int) < (s.size : Int) := by omega
  have d0 : decide ((a : Int) < 128) = false := by simp; omega
  have d1 : decide (194 ≤ (a : Int)) = true := by simp; omega
  have d2 : decide ((a : Int) ≤ 223) = false := by simp; omega
  have d3 : decide (224 ≤ (a : Int)) = true := by simp; omega
  have d4 : decide ((a : Int) ≤ 239) = false := by simp; omega
  have d5 : decide (240 ≤ (a : Int)) = true := by simp; omega
  have d6 : decide ((a : Int) ≤ 244) = true := by simp; omega
  have e0 : ((a : Int) == 224) = false := by rw [beq_eq_false_iff_ne]; omega
  have e1 : ((a : Int) == 237) = false := by rw [beq_eq_false_iff_ne]; omega
  have e2 : ((a : Int) == 240) = false := by rw [beq_eq_false_iff_ne]; omega
  have e3 : ((a : Int) == 244) = false := by rw [beq_eq_false_iff_ne]; omega
  go_enter Try.func18, Try.ntmps18
  by_cases hn : s.size < 4
  · have hn2 : (s.size : Int) < 4 := by omega
    go_wp2_with fail
    go_ret
    exact ⟨rfl, 0, rfl, .inl rfl⟩
  · have hn2 : ¬ (s.size : Int) < 4 := by omega
    have h1 : 1 < s.size := by omega
    have hi1 : (1 : Int) < (s.size : Int) := by omega
    obtain ⟨b, hb⟩ : ∃ b : Nat, (s[1]'h1).toNat = b := ⟨_, rfl⟩
    have HB := Lib.hid hb
    by_cases hb1 : b < 128
    · have q1 : decide ((b : Int) < 128) = true := by simp; omega
      go_wp2_with fail
      go_ret
      exact ⟨rfl, 0, rfl, .inl rfl⟩
    · have q1 : decide ((b : Int) < 128) = false := by simp; omega
      by_cases hb2 : 191 < b
      · have q2 : decide (191 < (b : Int)) = true := by simp; omega
        go_wp2_with fail
        go_ret
        exact ⟨rfl, 0, rfl, .inl rfl⟩
      · have q2 : decide (191 < (b : Int)) = false := by simp; omega
        go_wp2_with fail
        go_loopw [7] (fun t wr => ∃ k : Nat, t = .int .i64 k ∧ 2 ≤ k ∧ k ≤ 4 ∧ Conts s k ∧ wr = w) (fun t _ => 4 - (intOf t).toNat)
        case atStart => exact ⟨2, rfl, by omega, by omega, conts2 s, rfl⟩
        case round =>
          obtain ⟨k, rfl, hk1, hk2, hc, rfl⟩ := hrel
          have HC := Lib.hid hc
          clear hc
          by_cases hk : k < 4
          · have hks : k < s.size := by omega
            have hik0 : (0 : Int) ≤ (k : Int) := by omega
            have hik1 : (k : Int) < (s.size : Int) := by omega
            obtain ⟨c, hcc⟩ : ∃ c : Nat, (s[k]'hks).toNat = c := ⟨_, rfl⟩
            have HCC := Lib.hid hcc
            by_cases hc1 : c < 128
            · have q3 : decide ((c : Int) < 128) = true := by simp; omega
              go_wp2_with fail
              go_ret
              exact ⟨rfl, 0, rfl, .inl rfl⟩
            · have q3 : decide ((c : Int) < 128) = false := by simp; omega
              by_cases hc2 : 191 < c
              · have q4 : decide (191 < (c : Int)) = true := by simp; omega
                go_wp2_with fail
                go_ret
                exact ⟨rfl, 0, rfl, .inl rfl⟩
              · have q4 : decide (191 < (c : Int)) = false := by simp; omega
                go_wp2_with fail
                exact ⟨⟨k + 1, by simp, by omega, by omega, HC.out.step hks HCC.out hc1 hc2, trivial⟩, by simp only [intOf]; omega⟩
          · obtain rfl : k = 4 := by omega
            go_wp2_with fail
            go_ret
            exact ⟨rfl, 4, rfl, .inr (charAt4 s h0 h1 (by omega) a b HA.out HB.out (by omega) HC.out)⟩

set_option maxRecDepth 100000 in
set_option maxHeartbeats 400000 in
theorem rl_9 (s : ByteArray) (hs : s.size ≤ 1000000000) (h0 : 0 < s.size) (a : Nat) (ha : (s[0]'h0).toNat = a) (hr : a = 244) (w : World) :
    Calls Try.prog 18 #[.string s] w fun e w' => RuneLen s.data.toList e w w' := by
  have HA := Lib.hid ha
  have hi0 : (0 : Int) < (s.size : Int) := by omega
  subst hr
  go_enter Try.func18, Try.ntmps18
  by_cases hn : s.size < 4
  · have hn2 : (s.size : Int) < 4 := by omega
    go_wp2_with fail
    go_ret
    exact ⟨rfl, 0, rfl, .inl rfl⟩
  · have hn2 : ¬ (s.size : Int) < 4 := by omega
    have h1 : 1 < s.size := by omega
    have hi1 : (1 : Int) < (s.size : Int) := by omega
    obtain ⟨b, hb⟩ : ∃ b : Nat, (s[1]'h1).toNat = b := ⟨_, rfl⟩
    have HB := Lib.hid hb
    by_cases hb1 : b < 128
    · have q1 : decide ((b : Int) < 128) = true := by simp; omega
      go_wp2_with fail
      go_ret
      exact ⟨rfl, 0, rfl, .inl rfl⟩
    · have q1 : decide ((b : Int) < 128) = false := by simp; omega
      by_cases hb2 : 143 < b
      · have q2 : decide (143 < (b : Int)) = true := by simp; omega
        go_wp2_with fail
        go_ret
        exact ⟨rfl, 0, rfl, .inl rfl⟩
      · have q2 : decide (143 < (b : Int)) = false := by simp; omega
        go_wp2_with fail
        go_loopw [7] (fun t wr => ∃ k : Nat, t = .int .i64 k ∧ 2 ≤ k ∧ k ≤ 4 ∧ Conts s k ∧ wr = w) (fun t _ => 4 - (intOf t).toNat)
        case atStart => exact ⟨2, rfl, by omega, by omega, conts2 s, rfl⟩
        case round =>
          obtain ⟨k, rfl, hk1, hk2, hc, rfl⟩ := hrel
          have HC := Lib.hid hc
          clear hc
          by_cases hk : k < 4
          · have hks : k < s.size := by omega
            have hik0 : (0 : Int) ≤ (k : Int) := by omega
            have hik1 : (k : Int) < (s.size : Int) := by omega
            obtain ⟨c, hcc⟩ : ∃ c : Nat, (s[k]'hks).toNat = c := ⟨_, rfl⟩
            have HCC := Lib.hid hcc
            by_cases hc1 : c < 128
            · have q3 : decide ((c : Int) < 128) = true := by simp; omega
              go_wp2_with fail
              go_ret
              exact ⟨rfl, 0, rfl, .inl rfl⟩
            · have q3 : decide ((c : Int) < 128) = false := by simp; omega
              by_cases hc2 : 191 < c
              · have q4 : decide (191 < (c : Int)) = true := by simp; omega
                go_wp2_with fail
                go_ret
                exact ⟨rfl, 0, rfl, .inl rfl⟩
              · have q4 : decide (191 < (c : Int)) = false := by simp; omega
                go_wp2_with fail
                exact ⟨⟨k + 1, by simp, by omega, by omega, HC.out.step hks HCC.out hc1 hc2, trivial⟩, by simp only [intOf]; omega⟩
          · obtain rfl : k = 4 := by omega
            go_wp2_with fail
            go_ret
            exact ⟨rfl, 4, rfl, .inr (charAt4 s h0 h1 (by omega) 244 b HA.out HB.out (by omega) HC.out)⟩

theorem runeLength_any (s : ByteArray) (hs : s.size ≤ 1000000000) (h0 : 0 < s.size) (w : World) :
    Calls Try.prog 18 #[.string s] w fun e w' => RuneLen s.data.toList e w w' := by
  obtain ⟨a, ha⟩ : ∃ a : Nat, (s[0]'h0).toNat = a := ⟨_, rfl⟩
  by_cases c1 : a < 128
  · exact rl_1 s hs h0 a ha c1 w
  by_cases c2 : a < 194
  · exact rl_2 s hs h0 a ha (by omega) c2 w
  by_cases c3 : a ≤ 223
  · exact rl_3 s hs h0 a ha (by omega) c3 w
  by_cases c4 : a = 224
  · exact rl_4 s hs h0 a ha c4 w
  by_cases c6 : a = 237
  · exact rl_6 s hs h0 a ha c6 w
  by_cases c5 : a ≤ 239
  · exact rl_5 s hs h0 a ha (by omega) c5 c6 w
  by_cases c7 : a = 240
  · exact rl_7 s hs h0 a ha c7 w
  by_cases c8 : a ≤ 243
  · exact rl_8 s hs h0 a ha (by omega) c8 w
  by_cases c9 : a = 244
  · exact rl_9 s hs h0 a ha c9 w
  · exact rl_10 s hs h0 a ha (by omega) w


end Go.Proofs.Ytalkajcndllipaa
