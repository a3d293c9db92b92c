/- The law 'a scan tells begins and ends': the walk. -/
import Derived.Test.YtebiendmngmjcaaZzO
import Derived.Test.YtebiendmngmjcaaFits
namespace Go.Proofs.Ytebiendmngmjcaa.ScanLaw
open Go.RowKit

/-- How often a code was told among the first k. -/
def C (c : Nat) (L : List Nat) (k : Nat) : Nat := cnt c (L.take k)

theorem C_succ {c : Nat} {L : List Nat} {k v : Nat} (hk : k < L.length) (hv : v = L[k]'hk) : C c L (k + 1) = C c L k + (if v = c then 1 else 0) := by
  unfold C
  rw [List.take_add_one, List.getElem?_eq_getElem hk, ← hv]
  unfold cnt
  rw [List.countP_append]
  by_cases h : v = c <;> simp [h]

theorem C_le (c : Nat) (L : List Nat) (k : Nat) : C c L k ≤ k := by
  unfold C cnt
  exact Nat.le_trans List.countP_le_length (List.length_take_le k L)

theorem C_all (c : Nat) (L : List Nat) : C c L L.length = cnt c L := by unfold C; rw [List.take_length]

/-- What is counted after k codes. -/
structure Cn (L : List Nat) (k : Nat) (o a f : Int) : Prop where
  o : o = (C 2 L k : Int) - C 5 L k
  a : a = (C 6 L k : Int) - C 8 L k
  f : f = C 11 L k

theorem Cn.next {L : List Nat} {k v : Nat} {o a f o' a' f' : Int} (h : Cn L k o a f) (hk : k < L.length) (hv : v = L[k]'hk) (ho : o' = o + (if v = 2 then 1 else 0) - (if v = 5 then 1 else 0)) (ha : a' = a + (if v = 6 then 1 else 0) - (if v = 8 then 1 else 0)) (hf : f' = f + (if v = 11 then 1 else 0)) : Cn L (k + 1) o' a' f' := by
  obtain ⟨h1, h2, h3⟩ := h
  refine ⟨?_, ?_, ?_⟩
  · rw [C_succ hk hv, C_succ hk hv, ho, h1]
    split <;> split <;> push_cast <;> omega
  · rw [C_succ hk hv, C_succ hk hv, ha, h2]
    split <;> split <;> push_cast <;> omega
  · rw [C_succ hk hv, hf, h3]
    split <;> push_cast <;> omega

theorem Cn.bounds {L : List Nat} {k : Nat} {o a f : Int} (h : Cn L k o a f) (hk : k ≤ 1001) : o ≤ 1001 ∧ -1001 ≤ o ∧ a ≤ 1001 ∧ -1001 ≤ a ∧ 0 ≤ f ∧ f ≤ 1001 := by
  have := C_le 2 L k
  have := C_le 5 L k
  have := C_le 6 L k
  have := C_le 8 L k
  have := C_le 11 L k
  obtain ⟨h1, h2, h3⟩ := h
  omega

theorem Cn.fine {L : List Nat} {k : Nat} {o a f : Int} (h : Cn L k o a f) (hk : k ≤ L.length) (hp : ∀ i ≤ L.length, cnt 5 (L.take i) ≤ 0 + cnt 2 (L.take i) ∧ cnt 8 (L.take i) ≤ 0 + cnt 6 (L.take i)) : 0 ≤ o ∧ 0 ≤ a := by
  have := hp k hk
  obtain ⟨h1, h2, h3⟩ := h
  unfold C at h1 h2
  omega

set_option maxRecDepth 100000 in
set_option maxHeartbeats 4000000 in
theorem walk_small (s : ByteArray) (hs : s.size ≤ 1000) (w : World) :
    Calls Try.prog 3 #[.string s] w fun e w' => e = .returned (.bool true) ∧ Below w.heap.size w w' := by
  obtain ⟨L, hL⟩ : ∃ L, (scanAll newCfg 0 s.data.toList).1 = L := ⟨_, rfl⟩
  obtain ⟨er, her⟩ : ∃ er, (scanAll newCfg 0 s.data.toList).2.er = er := ⟨_, rfl⟩
  have ht := told s.data.toList newCfg newCfg_wf 0
  rw [hL, her, show s.data.toList.length = s.size by rw [Array.length_toList]; rfl] at ht
  have hF : fitsB [s] = true := fitsB_true (fun j hj => by
    have : j = 0 := by simp at hj; exact hj
    subst this; exact hs)
  have hlen : L.length ≤ 1001 := by have := ht.len.2; omega
  have H := Lib.hid hF
  have HL := Lib.hid hL
  have HE := Lib.hid her
  have HT := Lib.hid ht
  clear hL her ht hF
  go_enter Try.func3, Try.ntmps3
  go_wp2_with (go_at_call 5; refine (fits8_any [s] _ _ _ _ rfl (by simp) (strs1 _ _ _) (sizes1 (by omega))).mono ?_; rintro e w1 ⟨rfl, rfl⟩; rw [H.out])
  go_wp2_with fail
  refine (oldScan_any s _ hs).mono ?_
  rintro e w2 ⟨q, cap, rfl, q1, q2, q3, q4⟩
  rw [HL.out] at q1 q3
  rw [HL.out, HE.out]
  have HI := Lib.hid q3
  have HB := Lib.hid (((Below.refl w.heap.size w).alloc (Nat.le_refl _) _).trans (q4.mono (by simp)))
  clear q3 q4
  unfold maxLen at q2
  go_wp2_with fail
  go_loopw [5, 6, 7, 24] (fun o a f i wr => wr = w2 ∧ ∃ (k : Nat) (io ia jf : Int), k ≤ L.length ∧ i = .int .i64 k ∧ o = .int .i64 io ∧ a = .int .i64 ia ∧ f = .int .i64 jf ∧ Cn L k io ia jf) (fun _ _ _ i _ => L.length - (intOf i).toNat)
  case atStart => exact ⟨rfl, 0, 0, 0, 0, Nat.zero_le _, rfl, rfl, rfl, rfl, ⟨by simp [C, cnt], by simp [C, cnt], by simp [C, cnt]⟩⟩
  case round =>
    obtain ⟨rfl, k, o, a, f, hk, rfl, rfl, rfl, rfl, hc⟩ := hrel
    have HC := Lib.hid hc
    obtain ⟨b1, b2, b3, b4, b5, b6⟩ := hc.bounds (by omega)
    have hfine := hc.fine hk HT.out.pre
    clear hc
    by_cases hkn : k < L.length
    · have hc0 := HI.out k hkn
      obtain ⟨v, hv⟩ : ∃ v : Nat, v = (L[k]'hkn) := ⟨_, rfl⟩
      rw [← hv] at hc0
      have HV := Lib.hid hv
      clear hv hfine
      by_cases e2 : v = 2
      · subst e2
        have hn := HC.out.next (o' := o + 1) (a' := a) (f' := f) hkn HV.out (by simp) (by simp) (by simp)
        obtain ⟨z1, z2⟩ := hn.fine hkn HT.out.pre
        have y1 : ¬ (o + 1 < 0) := by omega
        have y2 : ¬ (a < 0) := by omega
        have HN := Lib.hid hn
        clear hn z1 z2
        go_wp2_with fail
        go_roundw
        case rel => exact ⟨trivial, k + 1, _, _, _, hkn, by go_num, rfl, rfl, rfl, HN.out⟩
        case measure => simp [intOf]; omega
      have x2 : ((v : Int) == 2) = false := by rw [beq_eq_false_iff_ne]; omega
      by_cases e5 : v = 5
      · subst e5
        have hn := HC.out.next (o' := o - 1) (a' := a) (f' := f) hkn HV.out (by simp) (by simp) (by simp)
        obtain ⟨z1, z2⟩ := hn.fine hkn HT.out.pre
        have y1 : ¬ (o - 1 < 0) := by omega
        have y2 : ¬ (a < 0) := by omega
        have HN := Lib.hid hn
        clear hn z1 z2
        go_wp2_with fail
        go_roundw
        case rel => exact ⟨trivial, k + 1, _, _, _, hkn, by go_num, rfl, rfl, rfl, HN.out⟩
        case measure => simp [intOf]; omega
      have x5 : ((v : Int) == 5) = false := by rw [beq_eq_false_iff_ne]; omega
      by_cases e6 : v = 6
      · subst e6
        have hn := HC.out.next (o' := o) (a' := a + 1) (f' := f) hkn HV.out (by simp) (by simp) (by simp)
        obtain ⟨z1, z2⟩ := hn.fine hkn HT.out.pre
        have y1 : ¬ (o < 0) := by omega
        have y2 : ¬ (a + 1 < 0) := by omega
        have HN := Lib.hid hn
        clear hn z1 z2
        go_wp2_with fail
        go_roundw
        case rel => exact ⟨trivial, k + 1, _, _, _, hkn, by go_num, rfl, rfl, rfl, HN.out⟩
        case measure => simp [intOf]; omega
      have x6 : ((v : Int) == 6) = false := by rw [beq_eq_false_iff_ne]; omega
      by_cases e8 : v = 8
      · subst e8
        have hn := HC.out.next (o' := o) (a' := a - 1) (f' := f) hkn HV.out (by simp) (by simp) (by simp)
        obtain ⟨z1, z2⟩ := hn.fine hkn HT.out.pre
        have y1 : ¬ (o < 0) := by omega
        have y2 : ¬ (a - 1 < 0) := by omega
        have HN := Lib.hid hn
        clear hn z1 z2
        go_wp2_with fail
        go_roundw
        case rel => exact ⟨trivial, k + 1, _, _, _, hkn, by go_num, rfl, rfl, rfl, HN.out⟩
        case measure => simp [intOf]; omega
      have x8 : ((v : Int) == 8) = false := by rw [beq_eq_false_iff_ne]; omega
      by_cases e11 : v = 11
      · subst e11
        have hn := HC.out.next (o' := o) (a' := a) (f' := f + 1) hkn HV.out (by simp) (by simp) (by simp)
        obtain ⟨z1, z2⟩ := hn.fine hkn HT.out.pre
        have y1 : ¬ (o < 0) := by omega
        have y2 : ¬ (a < 0) := by omega
        have HN := Lib.hid hn
        clear hn z1 z2
        go_wp2_with fail
        go_roundw
        case rel => exact ⟨trivial, k + 1, _, _, _, hkn, by go_num, rfl, rfl, rfl, HN.out⟩
        case measure => simp [intOf]; omega
      have x11 : ((v : Int) == 11) = false := by rw [beq_eq_false_iff_ne]; omega
      have hn := HC.out.next (o' := o) (a' := a) (f' := f) hkn HV.out (by rw [if_neg e2, if_neg e5]; omega) (by rw [if_neg e6, if_neg e8]; omega) (by rw [if_neg e11]; omega)
      obtain ⟨z1, z2⟩ := hn.fine hkn HT.out.pre
      have y1 : ¬ (o < 0) := by omega
      have y2 : ¬ (a < 0) := by omega
      have HN := Lib.hid hn
      clear hn z1 z2 e2 e5 e6 e8 e11
      go_wp2_with fail
      go_roundw
      case rel => exact ⟨trivial, k + 1, _, _, _, hkn, by go_num, rfl, rfl, rfl, HN.out⟩
      case measure => simp [intOf]; omega
    · have hkl : k = L.length := by omega
      obtain ⟨m, hm⟩ : ∃ m, L.length = m + 1 := ⟨L.length - 1, by have := List.length_pos_iff.2 HT.out.len.1; omega⟩
      have hcm := HI.out m (by omega)
      have hlast : L.getLast? = some (L[m]'(by omega)) := by
        rw [List.getLast?_eq_getElem?, show L.length - 1 = m by omega, List.getElem?_eq_getElem (by omega)]
      have hcc := HC.out
      rw [hkl] at hcc
      have ho := hcc.o
      have ha := hcc.a
      have hf := hcc.f
      rw [C_all, C_all] at ho ha
      rw [C_all] at hf
      cases er with
      | some x =>
        obtain ⟨t1, t2⟩ := HT.out.bad (by simp)
        rw [hlast] at t2
        have t3 : L[m]'(by omega) = 11 := by simpa using t2
        rw [t3] at hcm
        have hf1 : f = 1 := by omega
        have hle := HT.out.len.2
        rw [hm] at hle
        subst hf1
        clear ho ha hf hcc t1 t2 t3 hlast hfine
        go_wp2_with fail
        go_ret
        exact ⟨congrArg (fun x => Ending.returned (Value.bool x)) (decide_eq_true (by omega)), HB.out⟩
      | none =>
        obtain ⟨t1, t2, t3, t4, t5⟩ := HT.out.good rfl
        rw [hlast] at t5
        have t6 : L[m]'(by omega) = 10 := by simpa using t5
        rw [t6] at hcm
        have hf1 : f = 0 := by omega
        have ho1 : o = 0 := by have : nObj newCfg.ps = 0 := rfl; omega
        have ha1 : a = 0 := by have : nArr newCfg.ps = 0 := rfl; omega
        have hms : m = s.size := by omega
        subst hf1 ho1 ha1
        clear ho ha hf hcc t1 t2 t3 t4 t5 t6 hlast hfine
        subst hms
        go_wp2_with fail
        go_ret
        exact ⟨rfl, HB.out⟩

set_option maxHeartbeats 400000 in
theorem walk_big (s : ByteArray) (hs : s.size ≤ maxLen) (h : 1000 < s.size) (w : World) :
    Calls Try.prog 3 #[.string s] w fun e w' => e = .returned (.bool true) ∧ Below w.heap.size w w' := by
  unfold maxLen at hs
  have hF : fitsB [s] = false := fitsB_false 0 (by simp) h
  have H := Lib.hid hF
  clear hF
  by_cases h1 : 2147483647 < s.size
  · go_enter Try.func3, Try.ntmps3
    go_wp2
    go_ret
    exact ⟨rfl, Below.refl _ _⟩
  · go_enter Try.func3, Try.ntmps3
    go_wp2_with (go_at_call 5; refine (fits8_any [s] _ _ _ _ rfl (by simp) (strs1 _ _ _) (sizes1 (by omega))).mono ?_; rintro e w1 ⟨rfl, rfl⟩; rw [H.out])
    go_ret
    exact ⟨rfl, (Below.refl _ _).alloc (Nat.le_refl _) _⟩

theorem walk (a0 : ByteArray) (w0 : a0.size ≤ maxLen) (w : World) :
    Calls Try.prog 3 #[.string a0] w fun e w' => e = .returned (.bool true) ∧ Below w.heap.size w w' := by
  by_cases h : a0.size ≤ 1000
  · exact walk_small a0 h w
  · exact walk_big a0 w0 (by omega) w

end Go.Proofs.Ytebiendmngmjcaa.ScanLaw
