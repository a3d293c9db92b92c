/- The reference's 'OldQuoted'. -/
import Derived.Test.YtojlplpofjaljaaDoorUnit
import Derived.Test.YtojlplpofjaljaaDoorMade
import Derived.Test.YtojlplpofjaljaaDoorQuoB
import Derived.Deep.RegionLaw
namespace Go.Proofs.YtojlplpofjaljaaDoor
open Go.RowKit

/-- Between two rounds. -/
structure OInv (w : World) (f : List UInt8 → List UInt8) (l : List UInt8) (k : Nat) (v : Value) (q : List UInt8) (wr : World) : Prop where
  made : MadeQ w wr v (34 :: q)
  len : q.length ≤ 10 * k
  qi : QI f l q k k

theorem qp_len (html js : Bool) (p : List UInt8) : (Exact.qp html js p).length ≤ p.length + 6 := by
  have hu : ∀ c, (Exact.unit c).length = 6 := fun _ => rfl
  have hm : (Exact.mk html js p).length ≤ 6 := by
    unfold Exact.mk
    split
    · exact Nat.le_of_eq (hu _)
    · split
      · exact Nat.le_of_eq (hu _)
      · split
        · exact Nat.le_of_eq (hu _)
        · simp
  unfold Exact.qp
  split
  · omega
  · repeat' split
    all_goals (try rw [hu])
    all_goals (simp; try omega)

set_option maxRecDepth 100000 in
set_option maxHeartbeats 4000000 in
theorem oldQuoted_any (html : Bool) (s : ByteArray) (hs : s.size ≤ 10000) (w : World) :
    Calls Tryd.prog 6 #[.string s, .bool html] w fun e w' => Below w.heap.size w w' ∧ ∃ q, Quoted (Exact.qp html true) s.data.toList q ∧ q.length ≤ 10 * s.size ∧ e = .returned (.string ⟨(34 :: q ++ [34]).toArray⟩) := by
  have hpart : ∀ (p : ByteArray), 0 < p.size → p.size ≤ 1000 → ∀ w : World, Calls Tryd.prog 10 #[.string p, .agg #[.bool html, .bool true]] w (Exact.Tells w (Exact.qp html true p.data.toList)) :=
    fun p h0 h1 w => Exact.part_any html true p h0 h1 w
  have HP := Lib.hid hpart
  clear hpart
  go_enter Tryd.func6, Tryd.ntmps6
  go_wp2_with fail
  go_loopw [5, 6] (fun v t wr => ∃ (k : Nat) (q : List UInt8), t = .int .i64 k ∧ k ≤ s.size ∧ OInv w (Exact.qp html true) s.data.toList k v q wr) (fun _ t _ => s.size - (intOf t).toNat)
  case atStart =>
    exact ⟨0, [], rfl, Nat.zero_le _, ⟨Own.lit w _ #[.int .u8 34] [34] rfl (by decide) 1 1 rfl rfl, (Below.refl _ _).alloc (Nat.le_refl _) _, fun a ha => by simp [baseOf] at ha; subst ha; exact Nat.le_refl _⟩, Nat.zero_le _, QI.start⟩
  case round =>
    obtain ⟨k, q, rfl, hk, hinv⟩ := hrel
    have HI := Lib.hid hinv
    have hql := hinv.len
    clear hinv
    by_cases hk2 : k < s.size
    · have hk0 : (0 : Int) ≤ (k : Int) := by omega
      have hk1 : (k : Int) < (s.size : Int) := by omega
      go_wp2_with fail
      refine (width_any s k hk2 (by omega) _).mono ?_
      rintro e w2 ⟨b2, n, rfl, ⟨hn0, hch⟩ | ⟨rfl, hno⟩⟩
      · have hle := hch.le4
        rw [List.length_drop, size_eq] at hle
        have hm := HI.out.made.step b2
        have hnz : ((n : Int) == 0) = false := by rw [beq_eq_false_iff_ne]; omega
        obtain ⟨p, hp⟩ : ∃ p : ByteArray, s.extract k (k + n) = p := ⟨_, rfl⟩
        have hpl : p.data.toList = (s.data.toList.drop k).take n := by rw [← hp, extract_m]
        have hpn : p.size = n := by rw [← size_eq, hpl, List.length_take, List.length_drop, size_eq]; omega
        have hqq := HI.out.qi.esc hch trivial (e := Exact.qp html true p.data.toList) (by rw [hpl])
        rw [Nat.sub_self, List.take_zero, List.append_nil] at hqq
        have hpart := HP.out p (by omega) (by omega)
        have hlen := qp_len html true p.data.toList
        rw [size_eq] at hlen
        have HM := Lib.hid hm
        have HQ := Lib.hid hqq
        have HPN := Lib.hid hpn
        have HPart := Lib.hid hpart
        have HLen := Lib.hid hlen
        clear b2 hm hch hpl hpn hqq hpart hlen
        have h1 : (0 : Int) ≤ (k : Int) + (n : Int) := by omega
        have h2 : (k : Int) ≤ (k : Int) + (n : Int) := by omega
        have h3 : (k : Int) + (n : Int) ≤ (s.size : Int) := by omega
        go_wp2_with fail
        refine (HPart.out _).mono ?_
        rintro e w3 ⟨b3, rfl⟩
        have HM3 := Lib.hid (HM.out.step b3)
        clear b3
        go_wp2_with (first
          | (at_builtin
             refine wpList_app u8m rfl (.tmp 23) (.tmp 32) 9 rfl (AppTo.refl HM3.out.own) (by rfl) (Exact.qp html true p.data.toList) (by rfl) (by exact src_strm _ _ rfl) (by have := HLen.out; have := HPN.out; simp only [List.length_cons]; omega) ?_
             intro v4 w4 k4
             have K4 := Lib.hid k4
             clear k4))
        exact ⟨⟨k + n, q ++ Exact.qp html true p.data.toList, by simp, by omega, HM3.out.app K4.out, by have := HLen.out; have := HPN.out; rw [List.length_append]; omega, HQ.out⟩, by simp only [intOf]; omega⟩
      · have hm := HI.out.made.step b2
        have hqq := HI.out.qi.bad (by rw [size_eq]; exact hk2) hno
        rw [Nat.sub_self, List.take_zero, List.append_nil] at hqq
        have HM := Lib.hid hm
        have HQ := Lib.hid hqq
        clear b2 hm hno hqq
        go_wp2_with fail
        refine (Exact.unitText_any 65533 (by decide) _ (by rfl) _).mono ?_
        rintro e w3 ⟨b3, rfl⟩
        have hu : Exact.unit 65533 = bad := by decide +kernel
        rw [hu]
        have HM3 := Lib.hid (HM.out.step b3)
        clear b3 hu
        go_wp2_with (first
          | (at_builtin
             refine wpList_app u8m rfl (.tmp 18) (.tmp 19) 9 rfl (AppTo.refl HM3.out.own) (by rfl) bad (by rfl) (by exact src_strm _ _ rfl) (by simp only [bad, List.length_cons, List.length_nil]; omega) ?_
             intro v4 w4 k4
             have K4 := Lib.hid k4
             clear k4))
        exact ⟨⟨k + 1, q ++ bad, by simp, by omega, HM3.out.app K4.out, by rw [List.length_append]; simp only [bad, List.length_cons, List.length_nil]; omega, HQ.out⟩, by simp only [intOf]; omega⟩
    · obtain rfl : k = s.size := by omega
      have hqi := HI.out.qi
      rw [← size_eq] at hqi
      have hd := hqi.done
      rw [List.drop_length, List.append_nil] at hd
      have HD := Lib.hid hd
      clear hqi hd
      go_wp2_with (first
        | (at_builtin
           refine wpList_app u8m rfl (.tmp 37) (.tmp 38) 27 rfl (AppTo.refl (HI.out.made.own.alloc _)) (by rfl) [34] (by rfl) (by exact src_block u8m (by exact heap_alloc_new wr _) [34] (by rfl) 1) (by simp; omega) ?_
           intro v4 w4 k4
           have K4 := Lib.hid k4
           clear k4)
        | (refine wpList_toString u8m rfl (.tmp 39) _ rfl string9m rfl K4.out.own ?_))
      go_ret
      have hmd : MadeQ w (wr.alloc (.cells #[.int .u8 34] 5)) _ (34 :: q) := HI.out.made.step ((Below.refl _ _).alloc (Nat.le_refl _) _)
      exact ⟨(hmd.app K4.out).below, q, HD.out, hql, rfl⟩

end Go.Proofs.YtojlplpofjaljaaDoor
