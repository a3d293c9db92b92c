/- The reference's style: strings and numbers as they stand, gaps, lines. -/
import Derived.Test.YtlgmdcaoogiooaaGreatDoorDecS
import Derived.Test.YtlgmdcaoogiooaaGreatDoorNlW
import Derived.Test.YtlgmdcaoogiooaaGreatDoorDecK
import Derived.Test.YtlgmdcaoogiooaaGreatDoorPush
import Derived.Test.YtlgmdcaoogiooaaGreatDoorZzS
import Derived.Test.YtlgmdcaoogiooaaGreatDoorNd
namespace Go.Proofs.YtlgmdcaoogiooaaGreatDoor.Sty
open Go.RowKit Go.Proofs.YtlgmdcaoogiooaaGreatDoor Go.Proofs.YtlgmdcaoogiooaaGreatDoor.Ind

/-- The style of encoding/json over lines. -/
def styl (p i : ByteArray) : Value := .agg #[.bool false, .bool false, .bool false, .bool false, .bool true, .bool false, .bool false, .bool false, .bool true, .bool true, .bool false, .string i, .string p]

theorem marked_plain (q : ByteArray) (w : World) :
    Calls Tryz.prog 56 #[.string q, .agg #[.bool false, .bool false]] w fun e w' => Below w.heap.size w w' ∧ e = .returned (.string ⟨#[]⟩) := by
  go_enter Tryz.func56, Tryz.ntmps56
  go_wp2
  go_ret
  exact ⟨(Below.refl _ _).alloc (Nat.le_refl _) _, rfl⟩

set_option maxRecDepth 100000 in
set_option maxHeartbeats 1000000 in
theorem kept_any (s : ByteArray) (hs : s.size ≤ 100000) (w : World) :
    Calls Tryz.prog 36 #[.string s, .agg #[.bool false, .bool false]] w fun e w' => Below w.heap.size w w' ∧ e = .returned (.string s) := by
  obtain ⟨W1, hW1⟩ : ∃ W1, W1 = w.alloc (.cells #[.bool false, .bool false] 30) := ⟨_, rfl⟩
  have B1 := Lib.hid (show Below w.heap.size w W1 by rw [hW1]; exact (Below.refl _ _).alloc (Nat.le_refl _) _)
  have hm := heap_alloc_new w (.cells #[.bool false, .bool false] 30)
  rw [← hW1] at hm
  have HM0 := Lib.hid hm
  have HW1 := Lib.hid hW1
  have hz1 : W1.heap.size = w.heap.size + 1 := by rw [hW1]; simp
  have HZ1 := Lib.hid hz1
  clear hm hW1 hz1
  go_enter Tryz.func36, Tryz.ntmps36
  go_wp2_with fail
  rw [← HW1.out]
  go_loopw [5, 6, 8, 9] (fun v t _ _ wr => ∃ (k : Nat), t = .int .i64 k ∧ k ≤ s.size ∧ MadeQ W1 wr v (s.data.toList.take k)) (fun _ t _ _ _ => s.size - (intOf t).toNat)
  case atStart =>
    refine ⟨0, rfl, Nat.zero_le _, ?_⟩
    rw [← HZ1.out]
    exact ⟨Own.lit W1 _ #[] [] rfl (Nat.zero_le _) 0 0 rfl rfl, (Below.refl _ _).alloc (Nat.le_refl _) _, fun a ha => by simp [baseOf] at ha; subst ha; exact Nat.le_refl _⟩
  case round =>
    obtain ⟨k, rfl, hk, hmade⟩ := hrel
    have HM := Lib.hid hmade
    clear hmade
    by_cases hk2 : k < s.size
    · have hk0 : (0 : Int) ≤ (k : Int) := by omega
      have hk1 : (k : Int) < (s.size : Int) := by omega
      go_wp2_with fail
      refine (width_any s k hk2 (by omega) _).mono ?_
      rintro e w1 ⟨b1, n, rfl, hw⟩
      have hn : n ≤ 4 ∧ k + n ≤ s.size := by
        rcases hw with ⟨_, hch⟩ | ⟨rfl, _⟩
        · have hle := hch.le
          rw [List.length_drop, size_eq] at hle
          have hch4 : n ≤ 4 := by rcases hch with ⟨rfl, _⟩ | ⟨rfl, _⟩ | ⟨rfl, _⟩ | ⟨rfl, _⟩ <;> decide
          omega
        · omega
      have HM1 := Lib.hid (HM.out.step b1)
      have c0 := cell_of_row w1 w.heap.size 0 _ _ _ ((b1.block w.heap.size (by have := HM.out.below.size; have := HZ1.out; omega)).trans ((HM.out.below.block w.heap.size (by have := HZ1.out; omega)).trans HM0.out))
      have c1 := cell_of_row w1 w.heap.size 1 _ _ _ ((b1.block w.heap.size (by have := HM.out.below.size; have := HZ1.out; omega)).trans ((HM.out.below.block w.heap.size (by have := HZ1.out; omega)).trans HM0.out))
      obtain ⟨hn4, hns⟩ := hn
      clear b1 hw
      by_cases hn1 : 1 ≤ n
      · have x1 : (1 : Int) ≤ (n : Int) := by omega
        have x2 : (0 : Int) < (n : Int) := by omega
        have g1 : (0 : Int) ≤ (k : Int) + (n : Int) := by omega
        have g2 : (k : Int) ≤ (k : Int) + (n : Int) := by omega
        have g3 : (k : Int) + (n : Int) ≤ (s.size : Int) := by omega
        go_wp2_with fail
        refine (marked_plain _ _).mono ?_
        rintro e w2 ⟨b2, rfl⟩
        have HM2 := Lib.hid (HM1.out.step b2)
        clear b2
        go_wp2_with (at_builtin; refine wpList_app u8m rfl (.tmp 31) (.tmp 32) 9 rfl (AppTo.refl HM2.out.own) (by rfl) ((s.data.toList.drop k).take n) (by rfl) (by exact src_strm _ _ (extract_m s k n)) (by rw [List.length_take, List.length_take, List.length_drop, size_eq]; omega) ?_; intro v3 w3 k3; have K3 := Lib.hid k3; clear k3)
        exact ⟨⟨k + n, by simp, by omega, by rw [List.take_add]; exact HM2.out.app K3.out⟩, by simp only [intOf]; omega⟩
      · obtain rfl : n = 0 := by omega
        have g1 : (0 : Int) ≤ (k : Int) + 1 := by omega
        have g2 : (k : Int) ≤ (k : Int) + 1 := by omega
        have g3 : (k : Int) + 1 ≤ (s.size : Int) := by omega
        go_wp2_with fail
        refine (marked_plain _ _).mono ?_
        rintro e w2 ⟨b2, rfl⟩
        have HM2 := Lib.hid (HM1.out.step b2)
        clear b2
        go_wp2_with (at_builtin; refine wpList_app u8m rfl (.tmp 31) (.tmp 32) 9 rfl (AppTo.refl HM2.out.own) (by rfl) ((s.data.toList.drop k).take 1) (by rfl) (by exact src_strm _ _ (extract_m s k 1)) (by rw [List.length_take, List.length_take, List.length_drop, size_eq]; omega) ?_; intro v3 w3 k3; have K3 := Lib.hid k3; clear k3)
        exact ⟨⟨k + 1, by simp, by omega, by rw [List.take_add]; exact HM2.out.app K3.out⟩, by simp only [intOf]; omega⟩
    · obtain rfl : k = s.size := by omega
      go_wp2_with (refine wpList_toString u8m rfl (.tmp 37) _ rfl string9m rfl HM.out.own ?_)
      go_ret
      refine ⟨B1.out.trans (HM.out.below.mono (by have := HZ1.out; omega)), ?_⟩
      have : (⟨(s.data.toList.take s.size).toArray⟩ : ByteArray) = s := bytes_ext (by show s.data.toList.take s.size = _; rw [List.take_of_length_le (by rw [size_eq]; exact Nat.le_refl _)])
      exact congrArg (fun x => Ending.returned (Value.string x)) this

set_option maxRecDepth 100000 in
set_option maxHeartbeats 1000000 in
theorem whole_any (s : ByteArray) (hs : s.size ≤ 1000000) (w : World) :
    Calls Tryz.prog 39 #[.string s] w fun e w' => (∃ b, e = .returned (.bool b)) ∧ w' = w := by
  go_enter Tryz.func39, Tryz.ntmps39
  go_wp2_with fail
  go_loopw [3, 6] (fun _ t wr => wr = w ∧ ∃ k : Nat, t = .int .i64 k ∧ k ≤ s.size) (fun _ t _ => s.size - (intOf t).toNat)
  case atStart => exact ⟨rfl, 0, rfl, Nat.zero_le _⟩
  case round =>
    obtain ⟨rfl, k, rfl, hk⟩ := hrel
    by_cases hk2 : k < s.size
    · have hk0 : (0 : Int) ≤ (k : Int) := by omega
      have hk1 : (k : Int) < (s.size : Int) := by omega
      obtain ⟨a, ha⟩ : ∃ a : Nat, (s[k]'hk2).toNat = a := ⟨_, rfl⟩
      have next : ∃ k' : Nat, (Value.int .i64 ((k : Int) + 1)) = .int .i64 (k' : Int) ∧ k' ≤ s.size := ⟨k + 1, by simp, by omega⟩
      have NX := Lib.hid next
      clear next
      by_cases a46 : a = 46
      · subst a46
        go_wp2_with fail
        go_ret
        exact ⟨⟨_, rfl⟩, rfl⟩
      have n46 : ((a : Int) == 46) = false := by rw [beq_eq_false_iff_ne]; omega
      by_cases a101 : a = 101
      · subst a101
        go_wp2_with fail
        go_ret
        exact ⟨⟨_, rfl⟩, rfl⟩
      have n101 : ((a : Int) == 101) = false := by rw [beq_eq_false_iff_ne]; omega
      by_cases a69 : a = 69
      · subst a69
        go_wp2_with fail
        go_ret
        exact ⟨⟨_, rfl⟩, rfl⟩
      have n69 : ((a : Int) == 69) = false := by rw [beq_eq_false_iff_ne]; omega
      go_wp2_with fail
      exact ⟨⟨trivial, NX.out⟩, by simp only [intOf]; omega⟩
    · go_wp2_with fail
      go_ret
      exact ⟨⟨_, rfl⟩, rfl⟩

theorem gap_yes (m : ByteArray) (hm : m.size ≤ 10) (w : World) :
    Calls Tryz.prog 22 #[.string m, .bool true] w fun e w' => e = .returned (.string (m ++ ⟨#[32]⟩)) ∧ w' = w := by
  go_enter Tryz.func22, Tryz.ntmps22
  go_wp2
  go_ret
  exact ⟨rfl, rfl⟩
theorem gap_no (m : ByteArray) (w : World) :
    Calls Tryz.prog 22 #[.string m, .bool false] w fun e w' => e = .returned (.string m) ∧ w' = w := by
  go_enter Tryz.func22, Tryz.ntmps22
  go_wp2
  go_ret
  exact ⟨rfl, rfl⟩

end Go.Proofs.YtlgmdcaoogiooaaGreatDoor.Sty

namespace Go.Proofs.YtlgmdcaoogiooaaGreatDoor.Sty
open Go.RowKit Go.Proofs.YtlgmdcaoogiooaaGreatDoor Go.Proofs.YtlgmdcaoogiooaaGreatDoor.Ind

set_option maxRecDepth 100000 in
set_option maxHeartbeats 1000000 in
theorem stringText_any (p i t : ByteArray) (ht : t.size ≤ 100000) (w : World) :
    Calls Tryz.prog 21 #[styl p i, .string t] w fun e w' => e = .returned (.string t) ∧ Below w.heap.size w w' := by
  unfold styl
  go_enter Tryz.func21, Tryz.ntmps21
  go_wp2_with fail
  refine (kept_any t ht _).mono ?_
  rintro e w1 ⟨b1, rfl⟩
  have B1 := Lib.hid b1
  clear b1
  go_wp2_with fail
  go_ret
  exact ⟨rfl, below_step ((Below.refl _ _).alloc (Nat.le_refl _) _) B1.out⟩

set_option maxRecDepth 100000 in
set_option maxHeartbeats 1000000 in
theorem numberText_any (p i t : ByteArray) (ht : t.size ≤ 100000) (w : World) :
    Calls Tryz.prog 24 #[styl p i, .string t] w fun e w' => e = .returned (.string t) ∧ Below w.heap.size w w' := by
  unfold styl
  have hz : (t.toList == [45, 48]) = true ∨ (t.toList == [45, 48]) = false := by cases (t.toList == [45, 48]) <;> simp
  go_enter Tryz.func24, Tryz.ntmps24
  go_wp2_with fail
  refine (whole_any t (by omega) _).mono ?_
  rintro e w1 ⟨⟨b1, rfl⟩, rfl⟩
  cases b1
  all_goals
    go_wp2_with fail
    refine (whole_any t (by omega) _).mono ?_
    rintro e w1 ⟨⟨b2, rfl⟩, rfl⟩
    cases b2
    all_goals
      rcases hz with hz | hz
      all_goals
        go_wp2_with fail
        go_ret
        exact ⟨rfl, (Below.refl _ _).alloc (Nat.le_refl _) _⟩

theorem toStr (l : List UInt8) : (⟨l.toArray⟩ : ByteArray).data.toList = l := rfl

set_option maxRecDepth 100000 in
set_option maxHeartbeats 1000000 in
theorem line_any (p i : ByteArray) (hp : p.size ≤ 16) (hi : i.size ≤ 16) (d : Nat) (hd : d ≤ 2000) (w : World) :
    Calls Tryz.prog 38 #[styl p i, .int .i64 (d : Int)] w fun e w' => (∃ t : ByteArray, e = .returned (.string t) ∧ t.data.toList = nlB p.data.toList i.data.toList (d : Int)) ∧ Below w.heap.size w w' := by
  obtain ⟨W1, hW1⟩ : ∃ W1, W1 = w.alloc (.cells #[.bool false, .bool false, .bool false, .bool false, .bool true, .bool false, .bool false, .bool false, .bool true, .bool true, .bool false, .string i, .string p] 32) := ⟨_, rfl⟩
  have B1 := Lib.hid (show Below w.heap.size w W1 by rw [hW1]; exact (Below.refl _ _).alloc (Nat.le_refl _) _)
  have hm := heap_alloc_new w (.cells #[.bool false, .bool false, .bool false, .bool false, .bool true, .bool false, .bool false, .bool false, .bool true, .bool true, .bool false, .string i, .string p] 32)
  rw [← hW1] at hm
  have c11 := cell_of_row W1 w.heap.size 11 _ _ _ hm
  have HW1 := Lib.hid hW1
  clear hm hW1
  unfold styl
  go_enter Tryz.func38, Tryz.ntmps38
  go_wp2_with fail
  rw [← HW1.out]
  go_loopw [5, 13] (fun v j wr => wr = W1 ∧ ∃ (k : Nat) (t : ByteArray), j = .int .i64 (k : Int) ∧ k ≤ d ∧ v = .string t ∧ t.data.toList = 10 :: (p.data.toList ++ (List.replicate k i.data.toList).flatten)) (fun _ j _ => d - (intOf j).toNat)
  case atStart => exact ⟨rfl, 0, _, rfl, Nat.zero_le _, rfl, by simp⟩
  case round =>
    obtain ⟨rfl, k, t, rfl, hk, rfl, ht⟩ := hrel
    have hts : t.size ≤ 40000 := by
      have h1 := rep_len i.data.toList k (by rw [size_eq]; exact hi) (by omega)
      have h2 := congrArg List.length ht
      rw [size_eq, List.length_cons, List.length_append, size_eq] at h2
      omega
    have HT := Lib.hid ht
    clear ht
    by_cases hkd : k < d
    · have hkd' : (k : Int) < (d : Int) := by omega
      go_wp2_with fail
      exact ⟨⟨trivial, k + 1, _, by simp, by omega, rfl, by rw [data_append, HT.out, rep_succ]; simp⟩, by simp only [intOf]; omega⟩
    · obtain rfl : k = d := by omega
      go_wp2_with fail
      go_ret
      refine ⟨⟨t, rfl, ?_⟩, B1.out⟩
      rw [HT.out]
      unfold nlB
      simp

/-- The parts, each on a line of its own. -/
def acc (p i : List UInt8) (d1 : Int) : List (List UInt8) → List UInt8
  | [] => []
  | x :: xs => nlB p i d1 ++ x ++ joinT p i d1 xs

theorem joinT_snoc (p i : List UInt8) (d1 : Int) (y : List UInt8) : ∀ L, joinT p i d1 (L ++ [y]) = joinT p i d1 L ++ 44 :: (nlB p i d1 ++ y)
  | [] => by simp [joinT]
  | x :: xs => by
    show 44 :: (nlB p i d1 ++ x ++ joinT p i d1 (xs ++ [y])) = 44 :: (nlB p i d1 ++ x ++ joinT p i d1 xs) ++ 44 :: (nlB p i d1 ++ y)
    rw [joinT_snoc p i d1 y xs]
    simp

theorem acc_snoc (p i : List UInt8) (d1 : Int) (y : List UInt8) : ∀ L, acc p i d1 (L ++ [y]) = acc p i d1 L ++ (if L = [] then [] else [44]) ++ (nlB p i d1 ++ y)
  | [] => by simp [acc, joinT]
  | x :: xs => by
    show nlB p i d1 ++ x ++ joinT p i d1 (xs ++ [y]) = (nlB p i d1 ++ x ++ joinT p i d1 xs) ++ (if x :: xs = [] then [] else [44]) ++ (nlB p i d1 ++ y)
    rw [joinT_snoc, if_neg (by simp)]
    simp

theorem within_acc (p i : List UInt8) (a b : UInt8) (d : Int) (parts : List (List UInt8)) (h : parts ≠ []) : within p i a b d parts = a :: (acc p i (d + 1) parts ++ nlB p i d ++ [b]) := by
  cases parts with
  | nil => exact absurd rfl h
  | cons x xs =>
    show a :: (nlB p i (d + 1) ++ (x ++ joinT p i (d + 1) xs) ++ nlB p i d ++ [b]) = a :: (nlB p i (d + 1) ++ x ++ joinT p i (d + 1) xs ++ nlB p i d ++ [b])
    simp

theorem take_snoc {α : Type} (L : List α) (k : Nat) (h : k < L.length) : L.take (k + 1) = L.take k ++ [L[k]] := by
  rw [List.take_add_one, List.getElem?_eq_getElem h]
  rfl

theorem acc_mono (p i : List UInt8) (d1 : Int) (L : List (List UInt8)) : ∀ n k, L.length - k ≤ n → (acc p i d1 (L.take k)).length ≤ (acc p i d1 L).length
  | 0, k, h => by rw [List.take_of_length_le (by omega)]; exact Nat.le_refl _
  | n + 1, k, h => by
    by_cases hk : k < L.length
    · refine Nat.le_trans ?_ (acc_mono p i d1 L n (k + 1) (by omega))
      rw [take_snoc L k hk, acc_snoc, List.length_append, List.length_append]
      omega
    · rw [List.take_of_length_le (by omega)]; exact Nat.le_refl _

theorem line_int (p i : ByteArray) (hp : p.size ≤ 16) (hi : i.size ≤ 16) (d : Nat) (hd : d ≤ 2000) (x : Int) (hx : x = (d : Int)) (w : World) :
    Calls Tryz.prog 38 #[styl p i, .int .i64 x] w fun e w' => (∃ t : ByteArray, e = .returned (.string t) ∧ t.data.toList = nlB p.data.toList i.data.toList (d : Int) ∧ t.size ≤ 40000) ∧ Below w.heap.size w w' := by
  subst hx
  refine (line_any p i hp hi d hd w).mono fun e w' ⟨⟨t, h1, h2⟩, h3⟩ => ⟨⟨t, h1, h2, ?_⟩, h3⟩
  have h := congrArg List.length h2
  have h4 := rep_len i.data.toList d (by rw [size_eq]; exact hi) (by omega)
  unfold nlB at h
  rw [size_eq, List.length_cons, List.length_append, size_eq] at h
  simp only [Int.toNat_natCast] at h
  omega

set_option maxRecDepth 100000 in
set_option maxHeartbeats 1000000 in
theorem within_none (p i : ByteArray) (pa : Option Addr) (pc : Nat) (a b : UInt8) (d : Int) (w : World) :
    Calls Tryz.prog 23 #[styl p i, .slice pa 0 pc, .string ⟨#[a]⟩, .string ⟨#[b]⟩, .int .i64 d] w fun e w' => (∃ t : ByteArray, e = .returned (.string t) ∧ t.data.toList = [a, b]) ∧ Below w.heap.size w w' := by
  unfold styl
  go_enter Tryz.func23, Tryz.ntmps23
  go_wp2_with fail
  go_ret
  exact ⟨⟨_, rfl, rfl⟩, (Below.refl _ _).alloc (Nat.le_refl _) _⟩

set_option maxRecDepth 100000 in
set_option maxHeartbeats 1000000 in
theorem within_any (p i : ByteArray) (hp : p.size ≤ 16) (hi : i.size ≤ 16) (g n pc : Nat) (ss : List ByteArray) (hn : n = ss.length) (h0 : 0 < n) (hn1 : n ≤ 1000000) (a b : UInt8) (d : Nat) (hd : d ≤ 1500) (w : World) (hs : Strs w g ss) (hg : g < w.heap.size)
    (hl : (within p.data.toList i.data.toList a b (d : Int) (ss.map (·.data.toList))).length ≤ 50000000) (hss : ∀ s ∈ ss, s.size ≤ 50000000) :
    Calls Tryz.prog 23 #[styl p i, .slice (some ⟨g, 0, none⟩) n pc, .string ⟨#[a]⟩, .string ⟨#[b]⟩, .int .i64 (d : Int)] w fun e w' => (∃ t : ByteArray, e = .returned (.string t) ∧ t.data.toList = within p.data.toList i.data.toList a b (d : Int) (ss.map (·.data.toList))) ∧ Below w.heap.size w w' := by
  obtain ⟨W1, hW1⟩ : ∃ W1, W1 = w.alloc (.cells #[.bool false, .bool false, .bool false, .bool false, .bool true, .bool false, .bool false, .bool false, .bool true, .bool true, .bool false, .string i, .string p] 32) := ⟨_, rfl⟩
  have B1 := Lib.hid (show Below w.heap.size w W1 by rw [hW1]; exact (Below.refl _ _).alloc (Nat.le_refl _) _)
  have hm := heap_alloc_new w (.cells #[.bool false, .bool false, .bool false, .bool false, .bool true, .bool false, .bool false, .bool false, .bool true, .bool true, .bool false, .string i, .string p] 32)
  rw [← hW1] at hm
  have HM := Lib.hid hm
  have HW1 := Lib.hid hW1
  have hz1 : W1.heap.size = w.heap.size + 1 := by rw [hW1]; simp
  have HZ1 := Lib.hid hz1
  obtain ⟨L, hL⟩ : ∃ L, L = ss.map (·.data.toList) := ⟨_, rfl⟩
  have hLn : L.length = n := by rw [hL, List.length_map, hn]
  rw [← hL] at hl ⊢
  have hne : L ≠ [] := fun e => by rw [e] at hLn; simp at hLn; omega
  rw [within_acc _ _ _ _ _ _ hne] at hl ⊢
  have hacc : (acc p.data.toList i.data.toList ((d : Int) + 1) L).length ≤ 50000000 := by
    rw [List.length_cons, List.length_append, List.length_append] at hl
    omega
  have HAcc := Lib.hid hacc
  have HLn := Lib.hid hLn
  have HL := Lib.hid hL
  have HS := Lib.hid hs
  have HSS := Lib.hid hss
  have HN := Lib.hid hn
  have n0 : ((n : Int) == 0) = false := by rw [beq_eq_false_iff_ne]; omega
  clear hm hW1 hz1 hL hLn hl hacc hs hss hne hn
  unfold styl
  go_enter Tryz.func23, Tryz.ntmps23
  go_wp2_with fail
  rw [← HW1.out]
  go_loopw [11, 12, 13, 23] (fun v _ _ j wr => Below W1.heap.size W1 wr ∧ ∃ (k : Nat) (t : ByteArray), j = .int .i64 (k : Int) ∧ k ≤ n ∧ v = .string t ∧ t.data.toList = a :: acc p.data.toList i.data.toList ((d : Int) + 1) (L.take k)) (fun _ _ _ j _ => n - (intOf j).toNat)
  case atStart => exact ⟨Below.refl _ _, 0, _, rfl, Nat.zero_le _, rfl, rfl⟩
  case round =>
    obtain ⟨hb, k, t, rfl, hk, rfl, ht⟩ := hrel
    have hts : t.size ≤ 50000001 := by
      have h1 := acc_mono p.data.toList i.data.toList ((d : Int) + 1) L _ k (Nat.le_refl _)
      have h2 := congrArg List.length ht
      rw [size_eq, List.length_cons] at h2
      have := HAcc.out
      omega
    have hrow := (hb.block w.heap.size (by have := HZ1.out; omega)).trans HM.out
    have c0 := cell_of_row wr w.heap.size 0 _ _ _ hrow
    have c1 := cell_of_row wr w.heap.size 1 _ _ _ hrow
    have c2 := cell_of_row wr w.heap.size 2 _ _ _ hrow
    have c3 := cell_of_row wr w.heap.size 3 _ _ _ hrow
    have c4 := cell_of_row wr w.heap.size 4 _ _ _ hrow
    have c5 := cell_of_row wr w.heap.size 5 _ _ _ hrow
    have c6 := cell_of_row wr w.heap.size 6 _ _ _ hrow
    have c7 := cell_of_row wr w.heap.size 7 _ _ _ hrow
    have c8 := cell_of_row wr w.heap.size 8 _ _ _ hrow
    have c9 := cell_of_row wr w.heap.size 9 _ _ _ hrow
    have c10 := cell_of_row wr w.heap.size 10 _ _ _ hrow
    have c11 := cell_of_row wr w.heap.size 11 _ _ _ hrow
    have c12 := cell_of_row wr w.heap.size 12 _ _ _ hrow
    have HB := Lib.hid hb
    have HT := Lib.hid ht
    have HROW := Lib.hid hrow
    clear ht
    by_cases hkn : k < n
    · have hks : k < ss.length := by have := HN.out; omega
      have cg : wr.cell? ⟨g, k, none⟩ = some (.string (ss[k]'hks)) := by
        have h1 := hb.block g (by have := HZ1.out; omega)
        have h2 : W1.heap[g]? = w.heap[g]? := by rw [HW1.out]; exact Below.heap_alloc w _ g hg
        exact (cell_of_heap (h1.trans h2) k).trans (HS.out k hks)
      have hsz := HSS.out _ (List.getElem_mem hks)
      have hLk : L.take (k + 1) = L.take k ++ [(ss[k]'hks).data.toList] := by
        rw [take_snoc L k (by have := HLn.out; omega)]
        congr 2
        simp [HL.out]
      obtain ⟨s, hs⟩ : ∃ s, ss[k]'hks = s := ⟨_, rfl⟩
      rw [hs] at cg hsz hLk
      have TK := Lib.hid hLk
      clear hLk hs hb
      have hg0 : g < wr.heap.size := by have := HB.out.size; have := HZ1.out; omega
      have kk0 : (0 : Int) ≤ (k : Int) := by omega
      have kk1 : (k : Int) < (n : Int) := by omega
      by_cases hk0 : k = 0
      · subst hk0
        go_wp2_with fail
        refine (line_int p i hp hi (d + 1) (by omega) _ (by omega) _).mono ?_
        rintro e w2 ⟨⟨t2, rfl, ht2, hts2⟩, hb2⟩
        have HT2 := Lib.hid ht2
        have HB2 := Lib.hid hb2
        clear ht2 hb2
        go_wp2_with fail
        exact ⟨⟨below_step HB.out HB2.out, 0 + 1, _, by simp, by omega, rfl, by rw [TK.out, acc_snoc]; simp only [data_append]; rw [HT.out, HT2.out]; simp [acc]⟩, by simp only [intOf]; omega⟩
      · have hk0' : (0 : Int) < (k : Int) := by omega
        have AS0 : L.take k ≠ [] := fun e => by
          have := congrArg List.length e
          rw [List.length_take, HLn.out, List.length_nil] at this
          omega
        have AS := Lib.hid (show (if L.take k = [] then ([] : List UInt8) else [44]) = [44] from if_neg AS0)
        clear AS0
        go_wp2_with fail
        refine (gap_no ⟨#[44]⟩ _).mono ?_
        rintro e w1 ⟨rfl, rfl⟩
        go_wp2_with fail
        refine (line_int p i hp hi (d + 1) (by omega) _ (by omega) _).mono ?_
        rintro e w2 ⟨⟨t2, rfl, ht2, hts2⟩, hb2⟩
        have HT2 := Lib.hid ht2
        have HB2 := Lib.hid hb2
        clear ht2 hb2
        go_wp2_with fail
        exact ⟨⟨below_step HB.out HB2.out, k + 1, _, by simp, by omega, rfl, by rw [TK.out, acc_snoc, AS.out]; simp only [data_append]; rw [HT.out, HT2.out]; simp⟩, by simp only [intOf]; omega⟩
    · obtain rfl : k = n := by omega
      have TK := Lib.hid (show L.take k = L from List.take_of_length_le (by rw [HLn.out]; exact Nat.le_refl _))
      go_wp2_with fail
      refine (line_int p i hp hi d (by omega) _ rfl _).mono ?_
      rintro e w2 ⟨⟨t2, rfl, ht2, hts2⟩, hb2⟩
      have HT2 := Lib.hid ht2
      have HB2 := Lib.hid hb2
      clear ht2 hb2
      go_wp2_with fail
      go_ret
      refine ⟨⟨_, rfl, ?_⟩, B1.out.trans ((below_step HB.out HB2.out).mono (by have := HZ1.out; omega))⟩
      simp only [data_append]
      rw [HT.out, HT2.out, TK.out]
      simp

end Go.Proofs.YtlgmdcaoogiooaaGreatDoor.Sty

namespace Go.Proofs.YtlgmdcaoogiooaaGreatDoor
open Go.RowKit

/-- An element type of one cell and sixteen bytes. -/
structure El16 (P : Program) (t e : TypeId) (z : Value) : Prop where
  und : P.underlying t = some (.slice e)
  inf : (P.info? e).map (fun i => (i.zero, i.size, i.bytes)) = some (some z, 1, 16)
  one : z.cells.size = 1

theorem run_pushS {P : Program} {t e : TypeId} {z : Value} (E : El16 P t e z) (w : World) (B : Nat) (pv : Value) (n : Nat) (xs : List Value) (hown : w.ownsRow B e 1 pv n xs) (a : Addr) (x : Value) (c : Nat)
    (hx : ∀ j u, ([x] : List Value)[j]? = some u → w.cell? (a.add j) = some u) (hx1 : ∀ u ∈ ([x] : List Value), u.oneCell' = true) (hn : n < 1000000) (hB : B ≤ w.heap.size) (ty : TypeId) :
    ∃ q cap w', (Builtin.append_ #[t, t] ty #[pv, .slice (some a) 1 c]).run P w = .ok (.slice (some ⟨q, 0, none⟩) (n + 1) cap) w' ∧ w'.ownsRow B e 1 (.slice (some ⟨q, 0, none⟩) (n + 1) cap) (n + 1) (xs ++ [x]) ∧ w.grownBy w' pv.ownBlock ∧ PAt w pv (.slice (some ⟨q, 0, none⟩) (n + 1) cap) := by
  obtain ⟨i, hi, hz, hsz, hby⟩ := info_parts E.inf
  have hl : ([x] : List Value).length = 1 * i.size := by rw [hsz]; rfl
  obtain ⟨v', w', hrun, h1, h2, _⟩ := run_append_own (P := P) (w := w) B t ty e i z 1 16 E.und hi hz hsz hby E.one (by decide) pv n xs hown a 1 c [x] rfl hx hx1 (by unfold maxLen; omega) (by omega) hB
  rcases hown.2 with ⟨rfl, rfl⟩ | ⟨g, cap, cur, rfl, hg1, hg, hnc, hcm, hcs, htk⟩
  · have hr := run_append_nil (P := P) (w := w) t ty e i z E.und hi hz a 1 c [x] hl hx (by decide) (by decide) (by rw [hby]; decide)
    rw [hr] at hrun
    cases hrun
    exact ⟨_, _, _, hr, h1, h2, .inr (fun k hk => by simp [Value.ownBlock] at hk; omega)⟩
  · have hxs : xs.length = n := by rw [hown.1, Nat.mul_one]
    by_cases hroom : n + 1 ≤ cap
    · have hr := run_append_room (P := P) (w := w) t ty e i E.und hi g n cap cur hg a 1 c [x] hl hx hx1 hroom (by rw [hsz, hcs]; simp; omega)
      rw [hr] at hrun
      cases hrun
      exact ⟨_, _, _, hr, h1, h2, .inl rfl⟩
    · have hr := run_append_grow (P := P) (w := w) t ty e i z E.und hi hz ⟨g, 0, none⟩ n cap xs (by rw [hsz, Nat.mul_one, hxs]) (hown.cells (g := g) rfl) a 1 c [x] hl hx (by omega) (by omega) (growslice_fits (by omega) (by rw [hby]; omega))
      rw [hr] at hrun
      cases hrun
      exact ⟨_, _, _, hr, h1, h2, .inr (fun k hk => by simp [Value.ownBlock] at hk; omega)⟩

theorem wpList_pushS {P : Program} {t e : TypeId} {z : Value} (E : El16 P t e z) {w : World} {ops : Array Oper} {rest : List Oper} {o : Oper} {a : Act} {Q : Exit → Act → World → Prop} (hw : Region.wanted o (yielded ops a.tmps) = true) (s x : Operand)
    (ho : o.op = .call { callee := .builtin .append, args := #[s, x], argTypes := #[t, t] })
    (B : Nat) {pv : Value} (n : Nat) (xs : List Value) (hown : w.ownsRow B e 1 pv n xs) (hv : a.eval s = pv) (ad : Addr) (c : Nat) (v : Value) (hx : a.eval x = .slice (some ad) 1 c)
    (hc : ∀ j u, ([v] : List Value)[j]? = some u → w.cell? (ad.add j) = some u) (h1 : ∀ u ∈ ([v] : List Value), u.oneCell' = true) (hn : n < 1000000) (hB : B ≤ w.heap.size)
    (hK : ∀ q cap w', w'.ownsRow B e 1 (.slice (some ⟨q, 0, none⟩) (n + 1) cap) (n + 1) (xs ++ [v]) → w.grownBy w' pv.ownBlock → PAt w pv (.slice (some ⟨q, 0, none⟩) (n + 1) cap) → wpList P ops Q rest (a.put o.dst (.slice (some ⟨q, 0, none⟩) (n + 1) cap)) w') : wpList P ops Q (o :: rest) a w := by
  obtain ⟨q, cap, w', hrun, r1, r2, r3⟩ := run_pushS E w B pv n xs hown ad v c hc h1 hn hB o.type
  exact wpList_run hw (by simp [execOp, ho, resolve, invoke, builtin, hv, hx, hrun, Result.andThen]) (hK q cap w' r1 r2 r3)

end Go.Proofs.YtlgmdcaoogiooaaGreatDoor

namespace Go.Proofs.YtlgmdcaoogiooaaGreatDoor.Sty
open Go.RowKit Go.Proofs.YtlgmdcaoogiooaaGreatDoor Go.Proofs.YtlgmdcaoogiooaaGreatDoor.Ind

/-- The cells of a row. -/
theorem row_cell {w : World} {B : Nat} {e : TypeId} {v : Value} {n : Nat} {xs : List Value} (h : w.ownsRow B e 1 v n xs) (h0 : 0 < n) : ∃ g c, v = .slice (some ⟨g, 0, none⟩) n c ∧ B ≤ g ∧ g < w.heap.size ∧ ∀ k, k < n → w.cell? ⟨g, k, none⟩ = xs[k]? := by
  rcases h.2 with ⟨rfl, h2⟩ | ⟨g, cap, cur, rfl, hb, hg, h1, h2, h3, h4⟩
  · omega
  · refine ⟨g, cap, rfl, hb, (Array.getElem?_eq_some_iff.1 hg).1, fun k hk => ?_⟩
    rw [cell_of_row w g k _ _ _ hg, ← h4, List.getElem?_take, if_pos (by omega), Array.getElem?_toList]

theorem below_push {n : Nat} {w wr w3 : World} {e : TypeId} {sz k : Nat} {v : Value} {xs : List Value} (hb : Below n w wr) (hn : n ≤ wr.heap.size) (o : Obj) (hv : wr.ownsRow n e sz v k xs) (hg : (wr.alloc o).grownBy w3 v.ownBlock) : Below n w w3 := by
  have hs : (wr.alloc o).heap.size = wr.heap.size + 1 := by simp
  have h1 := hg.size
  refine hb.trans ⟨hg.os, hg.tape, hg.output, by omega, fun q hq => (hg.block q (by omega) (fun e => ?_)).trans (Below.heap_alloc wr o q (by omega))⟩
  have := (ownsRow_at hv q e.symm).1
  omega

/-- A name that 'Decode' takes. -/
def NameSafe (nm : ByteArray) : Prop := 2 ≤ nm.size ∧ nm.size ≤ 1000 ∧ Wire.Safe ((nm.data.toList.drop 1).take (nm.size - 2)) 0

/-- What 'order' gives. -/
def Order (w : World) (n : Nat) (e : Ending) (w' : World) : Prop :=
  ∃ v, e = .returned v ∧ w'.ownsRow w.heap.size 3 1 v n ((List.range n).map I64) ∧ Below w.heap.size w w'

set_option maxRecDepth 100000 in
set_option maxHeartbeats 1000000 in
theorem order_any (p i : ByteArray) (kind : Nat) (tx : ByteArray) (nv kv : Value) (names : List ByteArray) (n : Nat) (hn : n = names.length) (w : World) (hrow : w.ownsRow 0 9 1 nv n (names.map .string)) (hs : ∀ nm ∈ names, NameSafe nm) (hl : n ≤ 100000) :
    Calls Tryz.prog 20 #[styl p i, .agg #[.int .u8 (kind : Int), .string tx, nv, kv]] w (Order w n) := by
  obtain ⟨na, nc, rfl⟩ : ∃ a c, nv = .slice a n c := ownsRow_slice hrow
  obtain ⟨W1, hW1⟩ : ∃ W1, W1 = (w.alloc (.cells #[.bool false, .bool false, .bool false, .bool false, .bool true, .bool false, .bool false, .bool false, .bool true, .bool true, .bool false, .string i, .string p] 32)).alloc (.cells #[.int .u8 (kind : Int), .string tx, .slice na n nc, kv] 41) := ⟨_, rfl⟩
  have hz1 : W1.heap.size = w.heap.size + 1 + 1 := by rw [hW1]; simp
  have B1 := Lib.hid (show Below w.heap.size w W1 by rw [hW1]; exact ((Below.refl _ _).alloc (Nat.le_refl _) _).alloc (by simp) _)
  have hst : W1.heap[w.heap.size]? = some (.cells #[.bool false, .bool false, .bool false, .bool false, .bool true, .bool false, .bool false, .bool false, .bool true, .bool true, .bool false, .string i, .string p] 32 (0, 0)) := by
    rw [hW1, Below.heap_alloc _ _ _ (by simp)]
    exact heap_alloc_new w _
  have hnd : W1.heap[w.heap.size + 1]? = some (.cells #[.int .u8 (kind : Int), .string tx, .slice na n nc, kv] 41 (0, 0)) := by
    have h0 := heap_alloc_new (w.alloc (.cells #[.bool false, .bool false, .bool false, .bool false, .bool true, .bool false, .bool false, .bool false, .bool true, .bool true, .bool false, .string i, .string p] 32)) (.cells #[.int .u8 (kind : Int), .string tx, .slice na n nc, kv] 41)
    rw [show (w.alloc (.cells #[.bool false, .bool false, .bool false, .bool false, .bool true, .bool false, .bool false, .bool false, .bool true, .bool true, .bool false, .string i, .string p] 32)).heap.size = w.heap.size + 1 by simp] at h0
    rw [hW1]
    exact h0
  have HST := Lib.hid hst
  have HND := Lib.hid hnd
  have HW1 := Lib.hid hW1
  have HZ1 := Lib.hid hz1
  have HROW := Lib.hid hrow
  have HS := Lib.hid hs
  have HN := Lib.hid hn
  have d2 := cell_of_row W1 (w.heap.size + 1) 2 _ _ _ hnd
  clear hst hnd hW1 hz1 hrow hs hn
  unfold styl
  go_enter Tryz.func20, Tryz.ntmps20
  go_wp2_with fail
  rw [← HW1.out]
  go_loopw [5, 16] (fun v j wr => Below W1.heap.size W1 wr ∧ ∃ k : Nat, j = .int .i64 (k : Int) ∧ k ≤ n ∧ wr.ownsRow W1.heap.size 3 1 v k ((List.range k).map I64)) (fun _ j _ => n - (intOf j).toNat)
  case atStart =>
    refine ⟨(Below.refl _ _).alloc (Nat.le_refl _) _, 0, rfl, Nat.zero_le _, rfl, .inr ⟨W1.heap.size, 0, #[], by rw [HZ1.out], Nat.le_refl _, heap_alloc_new W1 _, Nat.le_refl _, Nat.zero_le _, rfl, rfl⟩⟩
  case round =>
    obtain ⟨hb, k, rfl, hk, hv⟩ := hrel
    have HB := Lib.hid hb
    have HV := Lib.hid hv
    have hzr := hb.size
    by_cases hkn : k < n
    · obtain ⟨g, c, hnv, _, hg, hcells⟩ := row_cell HROW.out (by omega)
      cases hnv
      have hkl : k < names.length := by have := HN.out; omega
      have hz := HZ1.out
      obtain ⟨nm, hnm⟩ : ∃ nm, names[k]'hkl = nm := ⟨_, rfl⟩
      have CG := Lib.hid (fun (W : World) (h : Below W1.heap.size W1 W) => show W.cell? ⟨g, k, none⟩ = some (.string nm) by
        have h1 := (h.block g (by omega)).trans (B1.out.block g hg)
        rw [cell_of_heap h1, hcells k hkn, List.getElem?_map, List.getElem?_eq_getElem hkl, hnm]
        rfl)
      have CN := Lib.hid (fun (W : World) (h : Below W1.heap.size W1 W) => show W.cell? ⟨w.heap.size + 1, 2, none⟩ = some (.slice (some ⟨g, 0, none⟩) n nc) from (cell_of_heap (h.block (w.heap.size + 1) (by omega)) 2).trans d2)
      have CS := Lib.hid (fun (W : World) (h : Below W1.heap.size W1 W) => show W.cell? ⟨w.heap.size, 7, none⟩ = some (.bool false) from (cell_of_heap (h.block w.heap.size (by omega)) 7).trans (cell_of_row W1 w.heap.size 7 _ _ _ HST.out))
      have hg1 : g < W1.heap.size := by omega
      have hsafe := HS.out _ (List.getElem_mem hkl)
      rw [hnm] at hsafe
      have HSA := Lib.hid hsafe
      have kk0 : (0 : Int) ≤ (k : Int) := by omega
      have kk1 : (k : Int) < (n : Int) := by omega
      have hk6 : k < 1000000 := by omega
      have hgr : g < wr.heap.size := by omega
      clear hb hv hcells hnm hsafe hz
      go_wp2_with (at_builtin; refine wpList_push el_int rfl (.tmp 19) (.tmp 21) rfl W1.heap.size k ((List.range k).map I64) (HV.out.alloc _) (by rfl) ⟨wr.heap.size, 0, none⟩ 1 (I64 k) (by rfl) (one_new wr _ _) (by intro u hu; simp at hu; subst hu; rfl) hk6 (by have := HB.out.size; simp; omega) ?_; intro q cap3 w3 own3 grow3 at3; have OWN3 := Lib.hid own3; have hb3 := below_push HB.out HB.out.size _ HV.out grow3; have B3 := Lib.hid hb3; have e1 := CG.out _ hb3; have e2 := CN.out _ hb3; have hg3 : g < w3.heap.size := Nat.lt_of_lt_of_le hg1 hb3.size; clear own3 grow3 at3 hb3)
      refine (Wire.decode_safe nm (by have := HSA.out.2.1; omega) HSA.out.1 _ HSA.out.2.2).mono ?_
      rintro e w4 ⟨hb4, t4, b4, rfl⟩
      have hb5 := below_step B3.out hb4
      have B5 := Lib.hid hb5
      have e3 := CS.out _ hb5
      have OWN5 := Lib.hid (ownsRow_same OWN3.out (fun g hg => hb4.block g (ownsRow_at OWN3.out g hg).2))
      clear hb4 hb5
      go_wp2_with fail
      go_loopw [9] (fun _ wr' => wr' = w4) (fun _ _ => 0)
      case atStart => rfl
      case round =>
        subst hrel
        go_wp2_with fail
        exact ⟨⟨B5.out, k + 1, by simp, by omega, by rw [List.range_succ, List.map_append]; exact OWN5.out⟩, by simp only [intOf]; omega⟩
    · obtain rfl : k = n := by omega
      go_wp2_with fail
      go_ret
      exact ⟨_, rfl, ownsRow_base HV.out (by have := HZ1.out; omega), B1.out.trans (HB.out.mono (by have := HZ1.out; omega))⟩

end Go.Proofs.YtlgmdcaoogiooaaGreatDoor.Sty
