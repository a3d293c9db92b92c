/- Parents of a pointer, and what it contains. FnPointerUp: its walk. -/
import Derived.Test.YtalkajcndllipaaBuilt
namespace Go.Proofs.Ytalkajcndllipaa
open Go.RowKit

theorem at_append {A B : List UInt8} {c : UInt8} {l : List UInt8} (hl : l = A ++ c :: B) (hB : ∀ x ∈ B, x ≠ c) (k : Nat) (hk : k < l.length) (h : A.length < k) : l[k] ≠ c := by
  subst hl
  rw [List.getElem_append_right (by omega)]
  obtain ⟨m, hm⟩ : ∃ m, k - A.length = m + 1 := ⟨k - A.length - 1, by omega⟩
  simp only [hm, List.getElem_cons_succ]
  exact hB _ (List.getElem_mem _)

set_option maxRecDepth 100000 in
set_option maxHeartbeats 1000000 in
theorem lastStr_any (s : ByteArray) (A C : List UInt8) (hl : s.data.toList = A ++ 47 :: C) (hC : ∀ c ∈ C, c ≠ 47) (hs : s.size ≤ 100000) (w : World) :
    Calls Try.prog 35 #[.string s, .int .u8 47] w fun e w' => w' = w ∧ e = .returned (.int .i64 (A.length : Int)) := by
  have hlen : A.length < s.size := by rw [← size_eq, hl]; simp
  have hat : ∀ k (hk : k < s.size), A.length < k → s[k] ≠ 47 := fun k hk h => at_append hl hC k (by rw [size_eq]; exact hk) h
  have h47 : s[A.length]'hlen = 47 := by
    have : s.data.toList[A.length]'(by rw [size_eq]; exact hlen) = 47 := by simp [hl]
    exact this
  have HAT := Lib.hid hat
  have H47 := Lib.hid h47
  clear hl hC hat h47
  have hn : (0 : Int) < (s.size : Int) := by omega
  go_enter Try.func35, Try.ntmps35
  go_wp2_with fail
  go_loopw [5] (fun t wr => ∃ k : Nat, t = .int .i64 k ∧ A.length ≤ k ∧ k < s.size ∧ wr = w) (fun t _ => (intOf t).toNat)
  case atStart => exact ⟨s.size - 1, by simp; omega, by omega, by omega, rfl⟩
  case round =>
    obtain ⟨k, rfl, hk, hk2, rfl⟩ := hrel
    have hk0 : (0 : Int) ≤ (k : Int) := by omega
    have hk1 : (k : Int) < (s.size : Int) := by omega
    obtain ⟨a, ha⟩ : ∃ a : Nat, (s[k]'hk2).toNat = a := ⟨_, rfl⟩
    by_cases he : k = A.length
    · have h9 : a = 47 := by subst he; rw [← ha, H47.out]; rfl
      subst h9
      have HE := Lib.hid he
      clear he
      go_wp2_with fail
      go_ret
      exact ⟨rfl, by rw [← HE.out]; rfl⟩
    · have h9 : a ≠ 47 := fun e => HAT.out k hk2 (by omega) (UInt8.toNat_inj.1 (ha.trans e))
      have hn47 : ((a : Int) == 47) = false := by rw [beq_eq_false_iff_ne]; omega
      go_wp2_with fail
      exact ⟨⟨k - 1, by simp; omega, by omega, by omega, trivial⟩, by simp only [intOf]; omega⟩

set_option maxRecDepth 100000 in
theorem lastStr_nil (w : World) :
    Calls Try.prog 35 #[.string ⟨#[]⟩, .int .u8 47] w fun e w' => w' = w ∧ e = .returned (.int .i64 (-1)) := by
  go_enter Try.func35, Try.ntmps35
  go_wp2_with fail
  go_loopw [5] (fun t wr => t = .int .i64 (-1) ∧ wr = w) (fun _ _ => 0)
  case atStart => exact ⟨rfl, rfl⟩
  case round =>
    obtain ⟨rfl, rfl⟩ := hrel
    go_wp2_with fail
    go_ret
    exact ⟨rfl, rfl⟩

set_option maxRecDepth 100000 in
set_option maxHeartbeats 1000000 in
theorem last_any (s : ByteArray) (i : Int) (h : ∀ w : World, Calls Try.prog 35 #[.string s, .int .u8 47] w fun e w' => w' = w ∧ e = .returned (.int .i64 i)) (w : World) :
    Calls Try.prog 28 #[.string s, .int .u8 47] w fun e w' => w' = w ∧ e = .returned (.int .i64 i) := by
  have H := Lib.hid h
  clear h
  go_enter Try.func28, Try.ntmps28
  go_wp2_with fail
  refine (H.out _).mono ?_
  rintro e w1 ⟨rfl, rfl⟩
  go_wp2_with fail
  go_ret
  exact ⟨rfl, rfl⟩

set_option maxRecDepth 100000 in
set_option maxHeartbeats 1000000 in
theorem parent_any (s a : ByteArray) (C : List UInt8) (hl : s.data.toList = a.data.toList ++ 47 :: C) (hC : ∀ c ∈ C, c ≠ 47) (hs : s.size ≤ 100000) (w : World) :
    Calls Try.prog 21 #[.string s] w fun e w' => w' = w ∧ e = .returned (.string a) := by
  have hlen : a.size < s.size := by rw [← size_eq, ← size_eq, hl]; simp
  have hx : s.extract 0 a.size = a := bytes_ext (by rw [extract_toList, hl, ← size_eq]; simp)
  have hl2 := lastStr_any s a.data.toList C hl hC hs
  rw [size_eq] at hl2
  have H2 := Lib.hid hl2
  clear hl hl2
  have h0 : (0 : Int) ≤ (a.size : Int) := by omega
  have h1 : (a.size : Int) ≤ (s.size : Int) := by omega
  have h2 : ¬ (a.size : Int) < 0 := by omega
  go_enter Try.func21, Try.ntmps21
  go_wp2_with fail
  refine (last_any s _ H2.out _).mono ?_
  rintro e w1 ⟨rfl, rfl⟩
  go_wp2_with fail
  go_ret
  exact ⟨rfl, rfl⟩

set_option maxRecDepth 100000 in
set_option maxHeartbeats 1000000 in
theorem parent_nil (w : World) :
    Calls Try.prog 21 #[.string ⟨#[]⟩] w fun e w' => w' = w ∧ e = .returned (.string ⟨#[]⟩) := by
  go_enter Try.func21, Try.ntmps21
  go_wp2_with fail
  refine (last_any _ _ lastStr_nil _).mono ?_
  rintro e w1 ⟨rfl, rfl⟩
  go_wp2_with fail
  go_ret
  exact ⟨rfl, rfl⟩

set_option maxRecDepth 100000 in
set_option maxHeartbeats 1000000 in
theorem implParent_any (s a : ByteArray) (h : ∀ w : World, Calls Try.prog 21 #[.string s] w fun e w' => w' = w ∧ e = .returned (.string a)) (w : World) :
    Calls Try.prog 15 #[.string s] w fun e w' => w' = w ∧ e = .returned (.string a) := by
  have H := Lib.hid h
  clear h
  go_enter Try.func15, Try.ntmps15
  go_wp2_with fail
  refine (H.out _).mono ?_
  rintro e w1 ⟨rfl, rfl⟩
  go_wp2_with fail
  go_ret
  exact ⟨rfl, rfl⟩

set_option maxRecDepth 100000 in
set_option maxHeartbeats 1000000 in
theorem contains_any (a p : ByteArray) (r : List UInt8) (hl : p.data.toList = a.data.toList ++ r) (hr : Head r) (w : World) :
    Calls Try.prog 16 #[.string a, .string p] w fun e w' => w' = w ∧ e = .returned (.bool true) := by
  have hlen : a.size ≤ p.size := by rw [← size_eq, ← size_eq, hl]; simp
  have hx : (p.extract 0 a.size) = a := bytes_ext (by rw [extract_toList, hl, ← size_eq]; simp)
  obtain ⟨sr, hsr⟩ : ∃ sr : ByteArray, sr = p.extract a.size p.size := ⟨_, rfl⟩
  have hsl : sr.data.toList = r := by rw [hsr, extract_list, hl, ← size_eq]; simp
  have hx2 := hsr.symm
  have heq : (a.toList == a.toList) = true := by rw [beq_iff_eq]
  have h0 : (0 : Int) ≤ (a.size : Int) := by omega
  have h1 : (a.size : Int) ≤ (p.size : Int) := by omega
  clear hl hsr
  rcases hr with rfl | ⟨t, rfl⟩
  · have he : sr.toList.isEmpty = true := by rw [Lib.toList_data, hsl]; rfl
    clear hsl
    go_enter Try.func16, Try.ntmps16
    go_wp2_with (first | go_in)
    go_ret
    exact ⟨rfl, rfl⟩
  · have he : sr.toList.isEmpty = false := by rw [Lib.toList_data, hsl]; rfl
    have h2 : 0 < sr.size := by rw [← size_eq, hsl]; simp
    have h3 : (0 : Int) < (sr.size : Int) := by omega
    have h4 : (sr[0]'h2).toNat = 47 := by
      have : sr.data.toList[0]'(by rw [size_eq]; exact h2) = 47 := by simp [hsl]
      exact congrArg UInt8.toNat this
    clear hsl
    go_enter Try.func16, Try.ntmps16
    go_wp2_with (first | go_in)
    go_ret
    exact ⟨rfl, rfl⟩

theorem joinP_head (ts : List (List UInt8)) : Head (joinP ts) := by
  cases ts with
  | nil => exact .inl rfl
  | cons t u => exact .inr ⟨esc t ++ joinP u, rfl⟩

theorem esc_no (t : List UInt8) : ∀ c ∈ esc t, c ≠ 47 := by
  intro c hc
  unfold esc at hc
  obtain ⟨x, _, hx⟩ := List.mem_flatMap.1 hc
  unfold escB at hx
  split at hx
  · simp at hx; rcases hx with rfl | rfl <;> decide
  · split at hx
    · simp at hx; rcases hx with rfl | rfl <;> decide
    · rename_i _ h
      simp at hx
      subst hx
      exact h

end Go.Proofs.Ytalkajcndllipaa
namespace Go.Proofs.Ytalkajcndllipaa.PtrUp
open Go.RowKit Go.Proofs.Ytalkajcndllipaa

set_option maxRecDepth 100000 in
set_option maxHeartbeats 1000000 in
theorem walk (p : ByteArray) (hp : p.size ≤ maxLen) (w : World) :
    Calls Try.prog 5 #[.string p] w fun e w' => e = .returned (.bool true) ∧ Below w.heap.size w w' := by
  unfold maxLen at hp
  by_cases h1 : 2147483647 < p.size
  · go_enter Try.func5, Try.ntmps5
    go_wp2
    go_ret
    exact ⟨rfl, Below.refl _ _⟩
  go_enter Try.func5, Try.ntmps5
  go_wp2_with fail
  refine (pointers10_any p (by omega) _ _ _ (by simp)).mono ?_
  rintro e w1 ⟨rfl, b, rfl, hb⟩
  cases b with
  | false =>
    clear hb
    go_wp2_with fail
    go_ret
    exact ⟨rfl, (Below.refl _ _).alloc (Nat.le_refl _) _⟩
  | true =>
    have hp2 : p.size ≤ 4000 := by have := (hb rfl).2; rw [size_eq] at this; exact this
    obtain ⟨ts, hts⟩ := (hb rfl).1.toks
    have hlen := hts.len
    rw [size_eq] at hlen
    have hjn := hts.join
    have HT := Lib.hid hts
    have HJ := Lib.hid hjn
    clear hb hts hjn
    go_wp2_with fail
    refine (implTokens_any p ts _ HT.out (by omega)).mono ?_
    rintro e w2 ⟨b2, g, c, rfl, t2, g2, l2⟩
    have b0 : Below w.heap.size w w2 := below_step ((Below.refl _ _).alloc (Nat.le_refl _) _) b2
    have B0 := Lib.hid b0
    clear b2 t2 b0
    obtain ⟨n, hn⟩ : ∃ n, n = ts.length := ⟨_, rfl⟩
    rw [← hn]
    rw [← hn] at hlen
    have HN := Lib.hid hn
    clear hn
    go_wp2_with fail
    go_loopw [3, 15] (fun v t wr => ∃ k : Nat, t = .int .i64 k ∧ k ≤ n ∧ v = .string ⟨(joinP (ts.take (n - k))).toArray⟩ ∧ wr = w2) (fun _ t _ => n - (intOf t).toNat)
    case atStart =>
      refine ⟨0, rfl, Nat.zero_le _, ?_, rfl⟩
      rw [Nat.sub_zero, HN.out, List.take_length, HJ.out, toArr]
    case round =>
      obtain ⟨k, rfl, hk, rfl, rfl⟩ := hrel
      obtain ⟨s, hs⟩ : ∃ s : ByteArray, s = ⟨(joinP (ts.take (n - k))).toArray⟩ := ⟨_, rfl⟩
      have hsl : s.data.toList = joinP (ts.take (n - k)) := by rw [hs]
      rw [← hs]
      by_cases hk2 : k < n
      · have hk0 : (0 : Int) ≤ (k : Int) := by omega
        have hk1 : (k : Int) < (n : Int) := by omega
        obtain ⟨m, hm⟩ : ∃ m, n - k = m + 1 := ⟨n - k - 1, by omega⟩
        have hmt : m < ts.length := by rw [← HN.out]; omega
        obtain ⟨a, ha⟩ : ∃ a : ByteArray, a = ⟨(joinP (ts.take m)).toArray⟩ := ⟨_, rfl⟩
        have hal : a.data.toList = joinP (ts.take m) := by rw [ha]
        have hs40 : s.size ≤ 100000 := by
          have := join_len (ts := ts) (n - k)
          rw [← hsl, HJ.out, size_eq, size_eq] at this
          omega
        have hsa : s.data.toList = a.data.toList ++ 47 :: esc ts[m] := by rw [hsl, hal, hm, join_step hmt]
        have hpa : p.data.toList = a.data.toList ++ joinP (ts.drop m) := by rw [hal, ← joinP_append, List.take_append_drop, HJ.out]
        have HSA := Lib.hid hsa
        have HPA := Lib.hid hpa
        have HA := Lib.hid ha
        have HM := Lib.hid hm
        clear hs ha hm hsa hpa hal hsl
        go_wp2_with fail
        refine (implParent_any s a (parent_any s a _ HSA.out (esc_no _) hs40) _).mono ?_
        rintro e w3 ⟨rfl, rfl⟩
        go_wp2_with fail
        refine (contains_any a p _ HPA.out (joinP_head _) _).mono ?_
        rintro e w3 ⟨rfl, rfl⟩
        go_wp2_with fail
        refine ⟨⟨k + 1, by simp, by omega, ?_, trivial⟩, by simp only [intOf]; omega⟩
        rw [show n - (k + 1) = m by have := HM.out; omega, HA.out]
      · obtain rfl : k = n := by omega
        have hse : s = ⟨#[]⟩ := bytes_ext (by rw [hsl, Nat.sub_self]; rfl)
        subst hse
        clear hs hsl
        go_wp2_with fail
        refine (contains_any p p [] (by simp) (.inl rfl) _).mono ?_
        rintro e w3 ⟨rfl, rfl⟩
        go_wp2_with fail
        refine (implParent_any _ _ parent_nil _).mono ?_
        rintro e w3 ⟨rfl, rfl⟩
        go_wp2_with fail
        go_ret
        exact ⟨rfl, B0.out⟩

end Go.Proofs.Ytalkajcndllipaa.PtrUp
