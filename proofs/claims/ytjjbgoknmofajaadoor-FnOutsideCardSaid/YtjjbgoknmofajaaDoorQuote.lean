/- The reference's quoted text, under the strictest options. -/
import Derived.Test.YtjjbgoknmofajaaDoorMend
import Derived.Deep.RegionLaw
namespace Go.Proofs.YtjjbgoknmofajaaDoor
open Go.RowKit

/-- A text of characters that all stand as they are. -/
inductive Calm : List UInt8 → Prop
  | nil : Calm []
  | cons {l : List UInt8} {n : Nat} : CharAt l n → Still (l.take n) → Calm (l.drop n) → Calm l

theorem calm_step {l : List UInt8} {n : Nat} (h : CharAt l n) (hs : Still (l.take n)) : Calm l ↔ Calm (l.drop n) := by
  constructor
  · intro k
    cases k with
    | nil => have := h.le; simp at this; omega
    | cons hc _ ht => rw [char_one h hc]; exact ht
  · exact .cons h hs

theorem calm_not {l : List UInt8} {n : Nat} (h : CharAt l n) (hs : ¬ Still (l.take n)) : ¬ Calm l := by
  intro k
  cases k with
  | nil => have := h.le; simp at this; omega
  | cons hc hq _ => exact hs (by rw [char_one h hc]; exact hq)

theorem Calm.text {l : List UInt8} (h : Calm l) : Text l := by
  induction h with
  | nil => exact .nil
  | cons hc _ _ ih => exact .cons hc ih

/-- Between two rounds. -/
structure QInv' (w : World) (l : List UInt8) (k : Nat) (v : Value) (q : List UInt8) (wr : World) : Prop where
  made : MadeQ w wr v (34 :: q)
  text : Text (l.drop k)
  len : q.length ≤ 10 * k
  how : (q = l.take k ∧ (Calm l ↔ Calm (l.drop k))) ∨ (k < q.length ∧ ¬ Calm l)

/-- What 'Quote' tells. -/
structure Quot (w : World) (l : List UInt8) (e : Ending) (w' : World) : Prop where
  below : Below w.heap.size w w'
  what : ∃ (t : ByteArray) (cl : Bool), e = .returned (.tuple #[.string t, .bool cl]) ∧ (cl = true → Text l ∧ (Calm l → t.data.toList = 34 :: (l ++ [34])) ∧ (¬ Calm l → l.length + 2 < t.size)) ∧ (cl = false → ¬ Text l)

theorem char_le4 {l : List UInt8} {n : Nat} (h : CharAt l n) : n ≤ 4 := by
  rcases h with ⟨rfl, _⟩ | ⟨rfl, _⟩ | ⟨rfl, _⟩ | ⟨rfl, _⟩ <;> omega

theorem QInv'.step {w wr w1 : World} {l q : List UInt8} {k n : Nat} {v v1 : Value} {t : ByteArray} (h : QInv' w l k v q wr) (hc : CharAt (l.drop k) n) (hm : MadeQ w w1 v1 (34 :: q ++ t.data.toList)) (p : ByteArray) (hp : p.data.toList = (l.drop k).take n) (hpn : p.size = n)
    (h1 : t.size ≤ p.size + 6) (h2 : Still p.data.toList → t = p) (h3 : ¬ Still p.data.toList → p.size < t.size) (hk : k + n ≤ l.length) : QInv' w l (k + n) v1 (q ++ t.data.toList) w1 := by
  have hn1 := hc.le.1
  refine ⟨hm, by rw [← List.drop_drop]; exact (text_step hc).1 h.text, by have := h.len; rw [List.length_append, size_eq]; omega, ?_⟩
  by_cases hs : Still p.data.toList
  · have ht := h2 hs
    subst ht
    rcases h.how with ⟨e1, e2⟩ | ⟨e1, e2⟩
    · refine .inl ⟨by rw [e1, hp, ← List.take_add], e2.trans ?_⟩
      rw [← List.drop_drop]
      exact calm_step hc (by rw [← hp]; exact hs)
    · refine .inr ⟨by rw [List.length_append, size_eq]; omega, e2⟩
  · have := h3 hs
    refine .inr ?_
    rcases h.how with ⟨e1, e2⟩ | ⟨e1, e2⟩
    · refine ⟨?_, fun hcalm => calm_not hc (by rw [← hp]; exact hs) (e2.1 hcalm)⟩
      have hl : q.length = k := by rw [e1, List.length_take]; omega
      rw [List.length_append, size_eq]
      omega
    · exact ⟨by rw [List.length_append, size_eq]; omega, e2⟩

set_option maxRecDepth 100000 in
set_option maxHeartbeats 4000000 in
theorem quote_any (s : ByteArray) (hs : s.size ≤ 10000) (w : World) :
    Calls Tryd.prog 14 #[.string s, strict] w (Quot w s.data.toList) := by
  unfold strict
  go_enter Tryd.func14, Tryd.ntmps14
  go_wp2_with fail
  refine (mended_any s (by omega) _).mono ?_
  rintro e w1 ⟨b1, t, cl, rfl, ht, hlen, hyes, hno⟩
  rw [size_eq] at hlen
  have hm0 : Below w.heap.size w w1 := below_step ((Below.refl _ _).alloc (Nat.le_refl _) _) b1
  have hbx : w1.cell? ⟨w.heap.size, 0, none⟩ = some (.bool true) ∧ w1.cell? ⟨w.heap.size, 1, none⟩ = some (.bool true) := by
    refine ⟨(cell_of_heap (b1.block _ (by simp)) _).trans (World.cell?_alloc_new w _ _ 0), (cell_of_heap (b1.block _ (by simp)) _).trans (World.cell?_alloc_new w _ _ 1)⟩
  have hw1 : w.heap.size < w1.heap.size := by have := b1.size; simp at this; omega
  have HT := Lib.hid ht
  have HY := Lib.hid hyes
  have HNo := Lib.hid hno
  have HM0 := Lib.hid hm0
  have HBX := Lib.hid hbx
  clear b1 ht hyes hno hm0 hbx
  go_wp2_with fail
  go_loopw [8, 9] (fun v t' wr => ∃ (k : Nat) (q : List UInt8), t' = .int .i64 k ∧ k ≤ t.size ∧ QInv' w1 t.data.toList k v q wr) (fun _ t' _ => t.size - (intOf t').toNat)
  case atStart =>
    refine ⟨0, [], rfl, Nat.zero_le _, ⟨Own.lit w1 _ #[.int .u8 34] [34] rfl (by decide) 1 1 rfl rfl, (Below.refl _ _).alloc (Nat.le_refl _) _, fun a ha => by simp [baseOf] at ha; subst ha; exact Nat.le_refl _⟩, HT.out, Nat.zero_le _, .inl ⟨by simp, by simp⟩⟩
  case round =>
    obtain ⟨k, q, rfl, hk, hinv⟩ := hrel
    have HI := Lib.hid hinv
    have hql := hinv.len
    clear hinv
    by_cases hk2 : k < t.size
    · have hk0 : (0 : Int) ≤ (k : Int) := by omega
      have hk1 : (k : Int) < (t.size : Int) := by omega
      have hne : t.data.toList.drop k ≠ [] := by
        intro e
        have := congrArg List.length e
        rw [List.length_drop, size_eq, List.length_nil] at this
        omega
      have HNe := Lib.hid hne
      clear hne
      go_wp2_with fail
      refine (width_any t k hk2 (by omega) _).mono ?_
      rintro e w2 ⟨b2, n, rfl, ⟨hn0, hch⟩ | ⟨rfl, hno⟩⟩
      · have hle := hch.le
        have hn4 := char_le4 hch
        rw [List.length_drop, size_eq] at hle
        have hm := HI.out.made.step b2
        have hb2 : Below w1.heap.size w1 w2 := hm.below
        have hc1 := (cell_of_heap (hb2.block _ hw1) 0).trans HBX.out.1
        have hc2 := (cell_of_heap (hb2.block _ hw1) 1).trans HBX.out.2
        obtain ⟨m, hmk⟩ : ∃ m : Nat, m = k + n := ⟨_, rfl⟩
        obtain ⟨p, hp⟩ : ∃ p : ByteArray, p = t.extract k m := ⟨_, rfl⟩
        have hpl : p.data.toList = (t.data.toList.drop k).take n := by rw [hp, hmk, extract_m]
        have hpn : p.size = n := by rw [← size_eq, hpl, List.length_take, List.length_drop, size_eq]; omega
        have hpx := hp.symm
        have hpc : CharAt p.data.toList n := by rw [hpl]; exact char_take hch
        have HM := Lib.hid hm
        have HC := Lib.hid hch
        have HPL := Lib.hid hpl
        have HPN := Lib.hid hpn
        have HPC := Lib.hid hpc
        clear b2 hm hch hp hpl hpn hpc hb2
        have h4 : IntKind.i64.wrap ((k : Int) + (n : Int)) = (k : Int) + (n : Int) := by rw [IntWalk.i64_in _ (by omega)]
        have hsl : (Instr.slice 9 (.string t) (some (.int .i64 (k : Int))) (some (.int .i64 ((k : Int) + (n : Int)))) none).run Tryd.prog w2.drew = .ok (.string p) w2.drew := by
          have := run_slice_string (P := Tryd.prog) w2.drew 9 t .i64 .i64 (k : Int) ((k : Int) + (n : Int)) string9m (by omega) (by omega) (by omega)
          simp only [Int.toNat_natCast, show ((k : Int) + (n : Int)).toNat = m by omega, hpx] at this
          exact this
        clear hpx
        go_wp2_with fail
        go_region_law (first
          | (refine step_app u8m rfl (.tmp 24) (.tmp 32) 9 rfl (AppTo.refl HM3.out.own) (by rfl) t3.data.toList (by rfl) (by exact src_strm t3 _ rfl) (by have := HT3.out.1; have := HPN.out; rw [size_eq]; simp only [List.length_cons]; omega) ?_
             intro v4 w4 k4
             have K4 := Lib.hid k4
             clear k4)
          | (go_simp
             go_wp2_with (go_at_call 27
                          refine (quotedPart_any p n HPN.out HPC.out _).mono ?_
                          rintro e w3 ⟨b3, t3, rfl, q1, q2, q3⟩
                          have HT3 := Lib.hid (And.intro q1 (And.intro q2 q3))
                          have HM3 := Lib.hid ((MadeQ.step (w1 := w2.drew) HM.out (Below.refl _ _).drew).step b3)
                          clear q1 q2 q3 b3)))
        all_goals go_wp2_with fail
        all_goals exact ⟨⟨k + n, q ++ t3.data.toList, by simp, by omega, HI.out.step HC.out (HM3.out.app K4.out) p HPL.out HPN.out HT3.out.1 HT3.out.2.1 HT3.out.2.2 (by rw [size_eq]; omega)⟩, by simp only [intOf]; omega⟩
      · have hbad := text_none HNe.out hno HI.out.text
        exact hbad.elim
    · obtain rfl : k = t.size := by omega
      go_wp2_with (first
        | (at_builtin
           refine wpList_app u8m rfl (.tmp 37) (.tmp 38) 39 rfl (AppTo.refl (HI.out.made.own.alloc _)) (by rfl) [34] (by rfl) (by exact src_block u8m (by exact heap_alloc_new wr _) [34] (by rfl) 1) (by simp; omega) ?_
           intro v4 w4 k4
           have K4 := Lib.hid k4
           clear k4)
        | (refine wpList_toString u8m rfl (.tmp 39) _ rfl string9m rfl K4.out.own ?_))
      go_ret2
      have hmd : MadeQ w1 (wr.alloc (.cells #[.int .u8 34] 5)) u8 (34 :: q) := HI.out.made.step ((Below.refl _ _).alloc (Nat.le_refl _) _)
      have hbl := (hmd.app K4.out).below
      refine ⟨below_step HM0.out hbl, _, cl, rfl, fun h => ?_, HNo.out⟩
      obtain ⟨e1, e2⟩ := HY.out h
      have hhow := HI.out.how
      rw [e2, List.drop_of_length_le (by rw [← e2, size_eq]; exact Nat.le_refl _), List.take_of_length_le (by rw [← e2, size_eq]; exact Nat.le_refl _)] at hhow
      refine ⟨e1, fun hc => ?_, fun hc => ?_⟩
      · rcases hhow with ⟨q1, _⟩ | ⟨_, q2⟩
        · show 34 :: q ++ [34] = _
          rw [q1]
          rfl
        · exact absurd hc q2
      · rcases hhow with ⟨_, q2⟩ | ⟨q1, _⟩
        · exact absurd (q2.2 .nil) hc
        · show _ < (34 :: q ++ [34]).toArray.size
          rw [← size_eq, e2] at q1
          have := size_eq s
          simp
          omega

end Go.Proofs.YtjjbgoknmofajaaDoor
