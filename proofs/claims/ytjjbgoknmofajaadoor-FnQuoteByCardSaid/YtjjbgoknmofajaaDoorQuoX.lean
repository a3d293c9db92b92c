/- The reference's Quote, exactly, for all marks. -/
import Derived.Test.YtjjbgoknmofajaaDoorMend
import Derived.Test.YtjjbgoknmofajaaDoorUnit
import Derived.Test.YtjjbgoknmofajaaDoorQuoC
import Derived.Deep.RegionLaw
namespace Go.Proofs.YtjjbgoknmofajaaDoor.Wire
open Go.RowKit Go.Proofs.YtjjbgoknmofajaaDoor

theorem qp_len (html js : Bool) (p : List UInt8) : (Exact.qp html js p).length ≤ p.length + 6 := by
  have hu : ∀ c, (Exact.unit c).length = 6 := fun _ => rfl
  have hm : (Exact.mk html js p).length ≤ 6 := by
    unfold Exact.mk
    split
    · exact Nat.le_of_eq (hu _)
    · split
      · exact Nat.le_of_eq (hu _)
      · split
        · exact Nat.le_of_eq (hu _)
        · simp
  unfold Exact.qp
  split
  · omega
  · repeat' split
    all_goals (try rw [hu])
    all_goals (simp; try omega)

/-- Mending and then quoting. -/
theorem Quoted.comp {f : List UInt8 → List UInt8} (hf : f bad = bad) {l t : List UInt8} (h : Quoted id l t) : ∀ q, Quoted f t q → Quoted f l q := by
  have hbad : CharAt bad 3 := .inr (.inr (.inl ⟨rfl, 239, 191, 189, [], rfl, by decide, by decide, by unfold cont; decide, by unfold cont; decide, by decide, by decide⟩))
  induction h with
  | nil => exact fun q k => k
  | @char l t n hc _ ih =>
    intro q k
    have hl : (l.take n).length = n := by rw [List.length_take]; have := hc.le4; omega
    have hcc : CharAt (l.take n ++ t) n := (hc.takeN (Nat.le_refl n)).append
    have e1 : (l.take n ++ t).take n = l.take n := by rw [List.take_append_of_le_length (by omega), List.take_of_length_le (by omega)]
    have e2 : (l.take n ++ t).drop n = t := by rw [List.drop_append_of_le_length (by omega), List.drop_of_length_le (by omega), List.nil_append]
    change Quoted f (l.take n ++ t) q at k
    generalize hm : l.take n ++ t = m at k
    rw [hm] at hcc e1 e2
    cases k with
    | nil => have := hcc.le4; simp at this; omega
    | char hc' k' =>
      obtain rfl := CharAt.one hcc hc'
      rw [e2] at k'
      rw [e1]
      exact .char hc (ih _ k')
    | broken _ hno _ => exact absurd hcc (hno _)
  | @broken l t hne hno _ ih =>
    intro q k
    have hcc : CharAt (bad ++ t) 3 := hbad.append
    have e1 : (bad ++ t).take 3 = bad := rfl
    have e2 : (bad ++ t).drop 3 = t := rfl
    generalize hm : bad ++ t = m at k
    rw [hm] at hcc e1 e2
    cases k with
    | nil => have := hcc.le4; simp at this
    | char hc' k' =>
      obtain rfl := CharAt.one hcc hc'
      rw [e2] at k'
      rw [e1, hf]
      exact .broken hne hno (ih _ k')
    | broken _ hno' _ => exact absurd hcc (hno' _)

/-- Between two rounds of 'Mended'. -/
structure MInv2 (w : World) (l : List UInt8) (k : Nat) (cl : Bool) (v : Value) (out : List UInt8) (wr : World) : Prop where
  base : MInv w l k cl v out wr
  qi : QI id l out k k

/-- What 'Mended' tells. -/
structure Mend2 (w : World) (l : List UInt8) (e : Ending) (w' : World) : Prop where
  below : Below w.heap.size w w'
  what : ∃ (t : ByteArray) (cl : Bool), e = .returned (.tuple #[.string t, .bool cl]) ∧ Text t.data.toList ∧ t.size ≤ 3 * l.length ∧ (cl = true → Text l) ∧ (cl = false → ¬ Text l) ∧ Quoted id l t.data.toList

set_option maxRecDepth 100000 in
set_option maxHeartbeats 2000000 in
theorem mended_exact (s : ByteArray) (hs : s.size ≤ 2147483647) (w : World) :
    Calls Tryd.prog 25 #[.string s] w (Mend2 w s.data.toList) := by
  go_enter Tryd.func25, Tryd.ntmps25
  go_wp2_with fail
  go_loopw [4, 5, 6] (fun v c t wr => ∃ (k : Nat) (cl : Bool) (out : List UInt8), t = .int .i64 k ∧ k ≤ s.size ∧ c = .bool cl ∧ MInv2 w s.data.toList k cl v out wr) (fun _ _ t _ => s.size - (intOf t).toNat)
  case atStart =>
    refine ⟨0, true, [], rfl, Nat.zero_le _, rfl, ⟨⟨Own.lit w _ #[] [] rfl (Nat.zero_le _) 0 0 rfl rfl, (Below.refl _ _).alloc (Nat.le_refl _) _, fun a ha => by simp [baseOf] at ha; subst ha; exact Nat.le_refl _⟩, .nil, Nat.zero_le _, fun _ => ⟨by simp, by simp⟩, fun h => by cases h⟩, QI.start⟩
  case round =>
    obtain ⟨k, cl, out, rfl, hk, rfl, hinv, hqi⟩ := hrel
    have HI := Lib.hid hinv
    have HQ := Lib.hid hqi
    have hol := hinv.len
    clear hinv hqi
    by_cases hk2 : k < s.size
    · have hk0 : (0 : Int) ≤ (k : Int) := by omega
      have hk1 : (k : Int) < (s.size : Int) := by omega
      have hne : s.data.toList.drop k ≠ [] := by
        intro e
        have := congrArg List.length e
        rw [List.length_drop, size_eq, List.length_nil] at this
        omega
      have HNe := Lib.hid hne
      clear hne
      go_wp2_with fail
      refine (width_any s k hk2 (by omega) _).mono ?_
      rintro e w1 ⟨b1, n, rfl, ⟨hn0, hch⟩ | ⟨rfl, hno⟩⟩
      · have hle := hch.le
        rw [List.length_drop, size_eq] at hle
        have hm := HI.out.made.step b1
        have hq := HQ.out.esc (e := (s.data.toList.drop k).take n) hch trivial rfl
        rw [Nat.sub_self, List.take_zero, List.append_nil] at hq
        have HM := Lib.hid hm
        have HC := Lib.hid hch
        have HQ2 := Lib.hid hq
        clear b1 hm hch hq
        have hnz : ((n : Int) == 0) = false := by rw [beq_eq_false_iff_ne]; omega
        have h1 : (0 : Int) ≤ (k : Int) + (n : Int) := by omega
        have h2 : (k : Int) ≤ (k : Int) + (n : Int) := by omega
        have h3 : (k : Int) + (n : Int) ≤ (s.size : Int) := by omega
        go_wp2_with (first
          | (at_builtin
             refine wpList_app u8m rfl (.tmp 22) (.tmp 28) 9 rfl (AppTo.refl HM.out.own) (by rfl) ((s.data.toList.drop k).take n) (by rfl) (by exact src_strm _ _ (extract_m s k n)) (by rw [List.length_take, List.length_drop, size_eq]; omega) ?_
             intro v3 w3 k3
             have K3 := Lib.hid k3
             clear k3))
        refine ⟨⟨k + n, cl, _, by simp, by omega, rfl, ⟨HM.out.app K3.out, HI.out.text.add (Text.one HC.out), ?_, fun hc => ?_, HI.out.no⟩, HQ2.out⟩, by simp only [intOf]; omega⟩
        · rw [List.length_append, List.length_take, List.length_drop, size_eq]
          omega
        · obtain ⟨e1, e2⟩ := HI.out.yes hc
          refine ⟨by rw [e1, ← List.take_add], e2.trans ?_⟩
          rw [← List.drop_drop]
          exact text_step HC.out
      · have hm := HI.out.made.step b1
        have hq := HQ.out.bad (by rw [size_eq]; exact hk2) hno
        rw [Nat.sub_self, List.take_zero, List.append_nil] at hq
        have HM := Lib.hid hm
        have HNo := Lib.hid hno
        have HQ2 := Lib.hid hq
        clear b1 hm hno hq
        go_wp2_with (first
          | (at_builtin
             refine wpList_app u8m rfl (.tmp 18) (.const (.string ⟨#[239, 191, 189]⟩)) 9 rfl (AppTo.refl HM.out.own) (by rfl) [239, 191, 189] (by rfl) (by exact src_strm _ _ rfl) (by simp; omega) ?_
             intro v3 w3 k3
             have K3 := Lib.hid k3
             clear k3))
        refine ⟨⟨k + 1, false, _, by simp, by omega, rfl, ⟨HM.out.app K3.out, HI.out.text.add broken_text, (by simp; omega), fun h => (by cases h), fun _ ht => ?_⟩, HQ2.out⟩, by simp only [intOf]; omega⟩
        cases cl with
        | false => exact HI.out.no rfl ht
        | true => exact text_none HNe.out HNo.out ((HI.out.yes rfl).2.1 ht)
    · obtain rfl : k = s.size := by omega
      have hq := HQ.out
      rw [← size_eq] at hq
      have hd := hq.done
      rw [List.drop_length, List.append_nil] at hd
      have HD := Lib.hid hd
      clear hq hd
      go_wp2_with (refine wpList_toString u8m rfl (.tmp 33) _ rfl string9m rfl HI.out.made.own ?_)
      go_ret2
      refine ⟨HI.out.made.below, ⟨out.toArray⟩, cl, rfl, HI.out.text, by show out.toArray.size ≤ _; rw [size_eq]; simpa using hol, fun h => ?_, HI.out.no, HD.out⟩
      obtain ⟨e1, e2⟩ := HI.out.yes h
      have hd : s.data.toList.drop s.size = [] := List.drop_eq_nil_of_le (by rw [size_eq]; exact Nat.le_refl _)
      rw [hd] at e2
      exact e2.2 .nil

/-- Between two rounds of 'Quote'. -/
structure SInv (w : World) (f : List UInt8 → List UInt8) (l : List UInt8) (k : Nat) (v : Value) (q : List UInt8) (wr : World) : Prop where
  made : MadeQ w wr v (34 :: q)
  text : Text (l.drop k)
  len : q.length ≤ 10 * k
  qi : QI f l q k k

/-- What 'Quote' tells. -/
structure Quot2 (w : World) (f : List UInt8 → List UInt8) (l : List UInt8) (e : Ending) (w' : World) : Prop where
  below : Below w.heap.size w w'
  what : ∃ q cl, Quoted f l q ∧ q.length ≤ 30 * l.length ∧ (cl = true → Text l) ∧ (cl = false → ¬ Text l) ∧ e = .returned (.tuple #[.string ⟨(34 :: q ++ [34]).toArray⟩, .bool cl])

theorem qp_bad (html js : Bool) : Exact.qp html js bad = bad := by cases html <;> cases js <;> decide +kernel

set_option maxRecDepth 100000 in
set_option maxHeartbeats 4000000 in
theorem quote_exact (html js : Bool) (s : ByteArray) (hs : s.size ≤ 2147483647) (w : World) :
    Calls Tryd.prog 14 #[.string s, .agg #[.bool html, .bool js]] w (Quot2 w (Exact.qp html js) s.data.toList) := by
  have hpart : ∀ (p : ByteArray), 0 < p.size → p.size ≤ 1000 → ∀ w : World, Calls Tryd.prog 27 #[.string p, .agg #[.bool html, .bool js]] w (Exact.Tells w (Exact.qp html js p.data.toList)) :=
    fun p h0 h1 w => Exact.part_any html js p h0 h1 w
  have HP := Lib.hid hpart
  clear hpart
  go_enter Tryd.func14, Tryd.ntmps14
  go_wp2_with fail
  refine (mended_exact s (by omega) _).mono ?_
  rintro e w1 ⟨b1, t, cl, rfl, ht, hlen, hyes, hno, hqq⟩
  rw [size_eq] at hlen
  have hm0 : Below w.heap.size w w1 := below_step ((Below.refl _ _).alloc (Nat.le_refl _) _) b1
  have hbx : w1.cell? ⟨w.heap.size, 0, none⟩ = some (.bool html) ∧ w1.cell? ⟨w.heap.size, 1, none⟩ = some (.bool js) := by
    refine ⟨(cell_of_heap (b1.block _ (by simp)) _).trans (World.cell?_alloc_new w _ _ 0), (cell_of_heap (b1.block _ (by simp)) _).trans (World.cell?_alloc_new w _ _ 1)⟩
  have hw1 : w.heap.size < w1.heap.size := by have := b1.size; simp at this; omega
  have HT := Lib.hid ht
  have HY := Lib.hid hyes
  have HNo := Lib.hid hno
  have HM0 := Lib.hid hm0
  have HBX := Lib.hid hbx
  have HQQ := Lib.hid hqq
  clear b1 ht hyes hno hm0 hbx hqq
  go_wp2_with fail
  go_loopw [8, 9] (fun v t' wr => ∃ (k : Nat) (q : List UInt8), t' = .int .i64 k ∧ k ≤ t.size ∧ SInv w1 (Exact.qp html js) t.data.toList k v q wr) (fun _ t' _ => t.size - (intOf t').toNat)
  case atStart =>
    refine ⟨0, [], rfl, Nat.zero_le _, ⟨Own.lit w1 _ #[.int .u8 34] [34] rfl (by decide) 1 1 rfl rfl, (Below.refl _ _).alloc (Nat.le_refl _) _, fun a ha => by simp [baseOf] at ha; subst ha; exact Nat.le_refl _⟩, HT.out, Nat.zero_le _, QI.start⟩
  case round =>
    obtain ⟨k, q, rfl, hk, hinv⟩ := hrel
    have HI := Lib.hid hinv
    have hql := hinv.len
    clear hinv
    by_cases hk2 : k < t.size
    · have hk0 : (0 : Int) ≤ (k : Int) := by omega
      have hk1 : (k : Int) < (t.size : Int) := by omega
      have hne : t.data.toList.drop k ≠ [] := by
        intro e
        have := congrArg List.length e
        rw [List.length_drop, size_eq, List.length_nil] at this
        omega
      have HNe := Lib.hid hne
      clear hne
      go_wp2_with fail
      refine (width_any t k hk2 (by omega) _).mono ?_
      rintro e w2 ⟨b2, n, rfl, ⟨hn0, hch⟩ | ⟨rfl, hno⟩⟩
      · have hle := hch.le4
        rw [List.length_drop, size_eq] at hle
        have hm := HI.out.made.step b2
        have hb2 : Below w1.heap.size w1 w2 := hm.below
        have hc1 := (cell_of_heap (hb2.block _ hw1) 0).trans HBX.out.1
        have hc2 := (cell_of_heap (hb2.block _ hw1) 1).trans HBX.out.2
        obtain ⟨m, hmk⟩ : ∃ m : Nat, m = k + n := ⟨_, rfl⟩
        obtain ⟨p, hp⟩ : ∃ p : ByteArray, p = t.extract k m := ⟨_, rfl⟩
        have hpl : p.data.toList = (t.data.toList.drop k).take n := by rw [hp, hmk, extract_m]
        have hpn : p.size = n := by rw [← size_eq, hpl, List.length_take, List.length_drop, size_eq]; omega
        have hpx := hp.symm
        have hqq := HI.out.qi.esc hch trivial (e := Exact.qp html js p.data.toList) (by rw [hpl])
        rw [Nat.sub_self, List.take_zero, List.append_nil] at hqq
        have hpart := HP.out p (by omega) (by omega)
        have hlenq := qp_len html js p.data.toList
        rw [size_eq] at hlenq
        have htx : Text (t.data.toList.drop (k + n)) := by rw [← List.drop_drop]; exact (text_step hch).1 HI.out.text
        have HM := Lib.hid hm
        have HQ := Lib.hid hqq
        have HPart := Lib.hid hpart
        have HLen := Lib.hid hlenq
        have HPN := Lib.hid hpn
        have HTX := Lib.hid htx
        clear b2 hm hch hp hpl hpn hb2 hqq hpart hlenq htx
        have h4 : IntKind.i64.wrap ((k : Int) + (n : Int)) = (k : Int) + (n : Int) := by rw [IntWalk.i64_in _ (by omega)]
        have hsl : (Instr.slice 9 (.string t) (some (.int .i64 (k : Int))) (some (.int .i64 ((k : Int) + (n : Int)))) none).run Tryd.prog w2.drew = .ok (.string p) w2.drew := by
          have := run_slice_string (P := Tryd.prog) w2.drew 9 t .i64 .i64 (k : Int) ((k : Int) + (n : Int)) string9m (by omega) (by omega) (by omega)
          simp only [Int.toNat_natCast, show ((k : Int) + (n : Int)).toNat = m by omega, hpx] at this
          exact this
        clear hpx
        go_wp2_with fail
        go_region_law (first
          | (refine step_app u8m rfl (.tmp 24) (.tmp 32) 9 rfl (AppTo.refl HM3.out.own) (by rfl) (Exact.qp html js p.data.toList) (by rfl) (by exact src_strm _ _ rfl) (by have := HLen.out; have := HPN.out; simp only [List.length_cons]; omega) ?_
             intro v4 w4 k4
             have K4 := Lib.hid k4
             clear k4)
          | (go_simp
             go_wp2_with (go_at_call 27
                          refine (HPart.out _).mono ?_
                          rintro e w3 ⟨b3, rfl⟩
                          have HM3 := Lib.hid ((MadeQ.step (w1 := w2.drew) HM.out (Below.refl _ _).drew).step b3)
                          clear b3)))
        all_goals go_wp2_with fail
        all_goals exact ⟨⟨k + n, q ++ Exact.qp html js p.data.toList, by simp, by omega, HM3.out.app K4.out, HTX.out, by have := HLen.out; have := HPN.out; rw [List.length_append]; omega, HQ.out⟩, by simp only [intOf]; omega⟩
      · have hbad := text_none HNe.out hno HI.out.text
        exact hbad.elim
    · obtain rfl : k = t.size := by omega
      have hqi := HI.out.qi
      rw [← size_eq] at hqi
      have hd := hqi.done
      rw [List.drop_length, List.append_nil] at hd
      have hd2 := HQQ.out.comp (qp_bad html js) _ hd
      have HD := Lib.hid hd2
      clear hqi hd hd2
      go_wp2_with (first
        | (at_builtin
           refine wpList_app u8m rfl (.tmp 37) (.tmp 38) 39 rfl (AppTo.refl (HI.out.made.own.alloc _)) (by rfl) [34] (by rfl) (by exact src_block u8m (by exact heap_alloc_new wr _) [34] (by rfl) 1) (by simp; omega) ?_
           intro v4 w4 k4
           have K4 := Lib.hid k4
           clear k4)
        | (refine wpList_toString u8m rfl (.tmp 39) _ rfl string9m rfl K4.out.own ?_))
      go_ret2
      have hmd : MadeQ w1 (wr.alloc (.cells #[.int .u8 34] 5)) _ (34 :: q) := HI.out.made.step ((Below.refl _ _).alloc (Nat.le_refl _) _)
      have hbl := (hmd.app K4.out).below
      exact ⟨below_step HM0.out hbl, q, cl, HD.out, by rw [size_eq]; omega, HY.out, HNo.out, rfl⟩

end Go.Proofs.YtjjbgoknmofajaaDoor.Wire
