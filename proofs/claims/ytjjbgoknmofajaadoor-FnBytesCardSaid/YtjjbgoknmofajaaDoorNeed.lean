/- 'utf8.DecodeRune' at any bytes (this seat's own laying); the reference's 'HasBroken' and 'Simple'; NeedEscape. -/
import Derived.Test.YtjjbgoknmofajaaDoorValid
import Derived.Test.YtjjbgoknmofajaaDoorQuote
import Derived.Test.YtjjbgoknmofajaaDoorQPlain
import Derived.Shelf.Spec.DecodeRune
namespace Go.Proofs
open Go.Shelf
def Tryd.laysNm732_ren : Go.Shelf.Ren := ⟨fun | 32 => 38 | 49 => 53 | n => n, fun | 30 => 39 | 21 => 21 | 3 => 3 | 0 => 0 | 5 => 5 | 4 => 4 | 33 => 65 | 66 => 108 | 25 => 63 | 69 => 111 | 68 => 110 | n => n, fun | 2 => 3 | 3 => 4 | n => n⟩
theorem Tryd.laysNm732 : Go.Proofs.Lays7.n32 Tryd.prog Tryd.laysNm732_ren := {
  mixed := by kernel_rfl
  f32 := Tryd.func38.trans (congrArg some (by kernel_rfl))
  f49 := Tryd.func53.trans (congrArg some (by kernel_rfl))
  t0 := Tryd.underlying0
  a0 := Tryd.isAgg0
  z0 := Tryd.sizeOf0
  v0 := Tryd.zeroValue0
  i0 := by kernel_rfl
  t3 := Tryd.underlying3
  a3 := Tryd.isAgg3
  z3 := Tryd.sizeOf3
  v3 := Tryd.zeroValue3
  i3 := by kernel_rfl
  t4 := Tryd.underlying4
  a4 := Tryd.isAgg4
  z4 := Tryd.sizeOf4
  v4 := Tryd.zeroValue4
  i4 := by kernel_rfl
  t5 := Tryd.underlying5
  a5 := Tryd.isAgg5
  z5 := Tryd.sizeOf5
  v5 := Tryd.zeroValue5
  i5 := by kernel_rfl
  t21 := Tryd.underlying21
  a21 := Tryd.isAgg21
  z21 := Tryd.sizeOf21
  v21 := Tryd.zeroValue21
  i21 := by kernel_rfl
  t25 := Tryd.underlying63
  a25 := Tryd.isAgg63
  z25 := Tryd.sizeOf63
  v25 := Tryd.zeroValue63
  i25 := by kernel_rfl
  t30 := Tryd.underlying39
  a30 := Tryd.isAgg39
  z30 := Tryd.sizeOf39
  v30 := Tryd.zeroValue39
  i30 := by kernel_rfl
  t33 := Tryd.underlying65
  a33 := Tryd.isAgg65
  z33 := Tryd.sizeOf65
  v33 := Tryd.zeroValue65
  i33 := by kernel_rfl
  t66 := Tryd.underlying108
  a66 := Tryd.isAgg108
  z66 := Tryd.sizeOf108
  t68 := Tryd.underlying110
  a68 := Tryd.isAgg110
  z68 := Tryd.sizeOf110
  v68 := Tryd.zeroValue110
  i68 := by kernel_rfl
  t69 := Tryd.underlying111
  a69 := Tryd.isAgg111
  z69 := Tryd.sizeOf111
  v69 := Tryd.zeroValue111
  i69 := by kernel_rfl
  g2 := by kernel_rfl
  g3 := by kernel_rfl }
end Go.Proofs
namespace Go.Proofs.YtjjbgoknmofajaaDoor
open Go.RowKit

/-- What decoding says of the bytes. -/
structure Read (l : List UInt8) (r n : Nat) : Prop where
  char : r ≠ 65533 → CharAt l n
  back : ∀ m, CharAt l m → m = n ∧ Lib.encodeRune r = l.take m ∧ r = rv (l.take m)
  none : (∀ m, ¬ CharAt l m) → r = 65533 ∧ n = 1

theorem decRune_any (l : List UInt8) (hne : l ≠ []) (b off len cap : Nat) (w : World) (hlen : len = l.length) (hB : Bytes w b off l) (hT : Lib.Utf8Tabs 3 4 w) :
    Calls Tryd.prog 38 #[.slice (some ⟨b, off, none⟩) len cap] w fun e w' => Below w.heap.size w w' ∧ ∃ r n : Nat, e = .returned (.tuple #[.int .i32 (r : Int), .int .i64 (n : Int)]) ∧ Read l r n := by
  have hsz : (ByteArray.mk l.toArray).size = l.length := by simp [ByteArray.size]
  have h := Any7.utf8_DecodeRune Tryd.laysNm732 ⟨l.toArray⟩ b off cap w hT (fun j hj => by
    rw [hsz] at hj
    rw [hB.at j hj]
    have := (get_of (s := ⟨l.toArray⟩) (pos := 0) (i := j) (a := l[j]) (by simp [hj])).1
    rw [Nat.zero_add] at this
    rw [this])
  have h3 : Lib.decodeGo ⟨l.toArray⟩ = Utf8.decode ⟨l.toArray⟩ 0 := by
    have hn0 : ¬ (ByteArray.mk l.toArray).size = 0 := by rw [hsz]; have := List.length_pos_iff.2 hne; omega
    rw [Lib.decodeGo, if_neg hn0]
  rw [h3, hsz, ← hlen] at h
  refine h.mono ?_
  rintro e w' ⟨rfl, hb⟩
  refine ⟨hb, _, _, rfl, fun hr => decode_valid l hne _ _ rfl hr, fun m hm => ?_, fun hno => by rw [decode_none l hne hno]; exact ⟨rfl, rfl⟩⟩
  obtain ⟨r, h1, h2, _, _, _, _, h7⟩ := decode_char' ⟨l.toArray⟩ 0 m (by simpa using hm)
  rw [h1]
  exact ⟨rfl, by simpa using h2, by simpa using h7⟩

/-- No U+FFFD. -/
def NoBroken (l : List UInt8) : Prop := ∀ i, (l.drop i).take 3 ≠ [239, 191, 189]

/-- What 'HasBroken' tells. -/
structure Brk (l : List UInt8) (e : Ending) (w w' : World) : Prop where
  world : w' = w
  what : ∃ b : Bool, e = .returned (.bool b) ∧ (b = false → NoBroken l)

set_option maxRecDepth 100000 in
set_option maxHeartbeats 1000000 in
theorem hasBroken_any (s : ByteArray) (hs : s.size ≤ 100000) (w : World) :
    Calls Tryd.prog 10 #[.string s] w fun e w' => Brk s.data.toList e w w' := by
  go_enter Tryd.func10, Tryd.ntmps10
  go_wp2_with fail
  go_loopw [3] (fun t wr => ∃ k : Nat, t = .int .i64 k ∧ k ≤ s.size + 1 ∧ (∀ j, j < k → (s.data.toList.drop j).take 3 ≠ [239, 191, 189]) ∧ wr = w) (fun t _ => s.size + 1 - (intOf t).toNat)
  case atStart => exact ⟨0, rfl, Nat.zero_le _, fun j h => absurd h (Nat.not_lt_zero _), rfl⟩
  case round =>
    obtain ⟨k, rfl, hk, hno, rfl⟩ := hrel
    have HN := Lib.hid hno
    clear hno
    by_cases hk2 : k + 3 ≤ s.size
    · have hk0 : (0 : Int) ≤ (k : Int) := by omega
      have hk1 : (k : Int) + 3 ≤ (s.size : Int) := by omega
      have hk5 : (0 : Int) ≤ (k : Int) + 3 := by omega
      have hk6 : (k : Int) ≤ (k : Int) + 3 := by omega
      have hx : (s.extract k (k + 3)).toList = (s.data.toList.drop k).take 3 := by rw [Lib.toList_data, extract_m]
      by_cases hy : (s.data.toList.drop k).take 3 = [239, 191, 189]
      · have hb : ((s.extract k (k + 3)).toList == [239, 191, 189]) = true := by rw [beq_iff_eq, hx]; exact hy
        clear hx hy
        go_wp2_with fail
        go_ret
        exact ⟨rfl, true, rfl, fun h => (by cases h)⟩
      · have hb : ((s.extract k (k + 3)).toList == [239, 191, 189]) = false := by rw [beq_eq_false_iff_ne, hx]; exact hy
        have HY := Lib.hid hy
        clear hx hy
        go_wp2_with fail
        refine ⟨⟨k + 1, by simp, by omega, fun j hj => ?_, trivial⟩, by simp only [intOf]; omega⟩
        by_cases e : j = k
        · subst e; exact HY.out
        · exact HN.out j (by omega)
    · have hk1 : ¬ (k : Int) + 3 ≤ (s.size : Int) := by omega
      go_wp2_with fail
      go_ret
      refine ⟨rfl, false, rfl, fun _ i h => ?_⟩
      by_cases hi : i < k
      · exact HN.out i hi h
      · have := congrArg List.length h
        rw [List.length_take, List.length_drop, size_eq] at this
        simp at this
        omega

/-- What 'Simple' tells. -/
structure Simp (w : World) (l : List UInt8) (e : Ending) (w' : World) : Prop where
  below : Below w.heap.size w w'
  what : ∃ b : Bool, e = .returned (.bool b) ∧ (b = true ↔ Calm l)

set_option maxRecDepth 100000 in
set_option maxHeartbeats 1000000 in
theorem simple_any (s : ByteArray) (hs : s.size ≤ 10000) (w : World) :
    Calls Tryd.prog 12 #[.string s] w (Simp w s.data.toList) := by
  obtain ⟨q1, hq1⟩ : ∃ q1 : ByteArray, (⟨#[34]⟩ : ByteArray) ++ s = q1 := ⟨_, rfl⟩
  obtain ⟨q, hq⟩ : ∃ q : ByteArray, q1 ++ (⟨#[34]⟩ : ByteArray) = q := ⟨_, rfl⟩
  have hql : q.data.toList = 34 :: (s.data.toList ++ [34]) := by rw [← hq, ← hq1, data_append, data_append]; rfl
  have hq1s : q1.size ≤ 20000 := by rw [← size_eq, ← hq1, data_append]; simp; omega
  have hbig1 : ¬ 9223372036854775807 < 1 + s.size := by omega
  have hbig2 : ¬ 9223372036854775807 < q1.size + 1 := by omega
  have HQ := Lib.hid hql
  clear hql
  have hst : strict = .agg #[.bool true, .bool true] := rfl
  have hqt := quote_any s hs
  rw [hst] at hqt
  have HQT := Lib.hid hqt
  clear hqt hst
  go_enter Tryd.func12, Tryd.ntmps12
  go_wp2_with fail
  refine (HQT.out _).mono ?_
  rintro e w1 ⟨b1, t, cl, rfl, hy, hn⟩
  have B1 := Lib.hid b1
  have HY := Lib.hid hy
  have HN := Lib.hid hn
  clear b1 hy hn
  cases cl with
  | false =>
    go_wp2_with fail
    go_ret
    exact ⟨B1.out, false, rfl, ⟨fun h => (by cases h), fun h => absurd (Calm.text h) (HN.out trivial)⟩⟩
  | true =>
    obtain ⟨_, y1, y2⟩ := HY.out rfl
    by_cases hc : Calm s.data.toList
    · have heq : (t.toList == q.toList) = true := by rw [beq_iff_eq, Lib.toList_data, Lib.toList_data, y1 hc, HQ.out]
      have HC := Lib.hid hc
      clear y1 y2 hc
      go_wp2_with fail
      go_ret
      exact ⟨B1.out, true, rfl, ⟨fun _ => HC.out, fun _ => rfl⟩⟩
    · have heq : (t.toList == q.toList) = false := by
        rw [beq_eq_false_iff_ne, Lib.toList_data, Lib.toList_data, HQ.out]
        intro e
        have h1 := congrArg List.length e
        have h2 := y2 hc
        rw [size_eq] at h1
        simp at h1 h2
        omega
      have HC := Lib.hid hc
      clear y1 y2 hc
      go_wp2_with fail
      go_ret
      exact ⟨B1.out, false, rfl, ⟨fun h => (by cases h), fun h => absurd h HC.out⟩⟩

/-- The whole table of what may want an escape. -/
def EscAll (f : Nat → Nat) : Prop := ∀ c, c < 128 → (f c = 0 ↔ (32 ≤ c ∧ c ≠ 34 ∧ c ≠ 92 ∧ c ≠ 60 ∧ c ≠ 62 ∧ c ≠ 38))

/-- What 'NeedEscape' tells. -/
structure NeedR (w : World) (l : List UInt8) (e : Ending) (w' : World) : Prop where
  below : Below w.heap.size w w'
  what : ∃ r : Bool, e = .returned (.bool r) ∧ (r = false → Calm l) ∧ (r = true → NoBroken l → ¬ Calm l)

theorem still_ascii {c : UInt8} {f : Nat → Nat} (hf : EscAll f) (hc : c.toNat < 128) : Still [c] ↔ f c.toNat = 0 := by
  rw [hf c.toNat hc]
  constructor
  · rintro (⟨d, e, k1, k2, k3, k4, k5, k6⟩ | ⟨k, _⟩)
    · simp at e
      subst e
      exact ⟨k1, fun h => k2 (UInt8.toNat_inj.1 h), fun h => k3 (UInt8.toNat_inj.1 h), fun h => k4 (UInt8.toNat_inj.1 h), fun h => k5 (UInt8.toNat_inj.1 h), fun h => k6 (UInt8.toNat_inj.1 h)⟩
    · simp at k
  · rintro ⟨k1, k2, k3, k4, k5, k6⟩
    refine .inl ⟨c, rfl, k1, ?_, ?_, ?_, ?_, ?_⟩ <;> (intro e; subst e)
    · exact k2 rfl
    · exact k3 rfl
    · exact k4 rfl
    · exact k5 rfl
    · exact k6 rfl

theorem char_high {l : List UInt8} {c : UInt8} {t : List UInt8} {n : Nat} (e : l = c :: t) (hc : ¬ c.toNat < 128) (h : CharAt l n) : 2 ≤ n := by
  rcases h with ⟨rfl, a, u, e2, h1⟩ | ⟨rfl, _⟩ | ⟨rfl, _⟩ | ⟨rfl, _⟩
  · rw [e] at e2
    simp at e2
    rw [e2.1] at hc
    omega
  · omega
  · omega
  · omega

theorem calm_of_read {l : List UInt8} {r n : Nat} {c : UInt8} {t : List UInt8} (hd : l = c :: t) (hc : ¬ c.toNat < 128) (hr : Read l r n) (hbad : r = 65533 ∨ r = 8232 ∨ r = 8233) (hb : l.take 3 ≠ [239, 191, 189]) : ¬ Calm l := by
  intro h
  cases h with
  | nil => cases hd
  | @cons _ m hch hst _ =>
    obtain ⟨rfl, h2, _⟩ := hr.back _ hch
    have h3 := char_high hd hc hch
    rcases hbad with rfl | rfl | rfl
    · have e : Lib.encodeRune ((65533 : Nat) : Int) = [239, 191, 189] := by decide +kernel
      have h4 : l.take m = [239, 191, 189] := h2.symm.trans e
      have h5 := congrArg List.length h4
      rw [List.length_take] at h5
      have h6 := hch.le.2
      simp at h5
      have : m = 3 := by omega
      subst this
      exact hb h4
    · have e : Lib.encodeRune ((8232 : Nat) : Int) = [226, 128, 168] := by decide +kernel
      rw [← h2, e] at hst
      rcases hst with ⟨_, q, _⟩ | ⟨_, q, _⟩
      · cases q
      · exact q rfl
    · have e : Lib.encodeRune ((8233 : Nat) : Int) = [226, 128, 169] := by decide +kernel
      rw [← h2, e] at hst
      rcases hst with ⟨_, q, _⟩ | ⟨_, _, q⟩
      · cases q
      · exact q rfl

theorem still_of_read {l : List UInt8} {r n : Nat} {c : UInt8} {t : List UInt8} (hd : l = c :: t) (hc : ¬ c.toNat < 128) (hr : Read l r n) (h1 : r ≠ 65533) (h2 : r ≠ 8232) (h3 : r ≠ 8233) : CharAt l n ∧ Still (l.take n) := by
  have hch := hr.char h1
  have hn := char_high hd hc hch
  have hle := hch.le.2
  have hv := (hr.back n hch).2.2
  refine ⟨hch, .inr ⟨by rw [List.length_take]; omega, fun e => h2 (by rw [hv, e]; rfl), fun e => h3 (by rw [hv, e]; rfl)⟩⟩

set_option maxRecDepth 100000 in
set_option maxHeartbeats 2000000 in
theorem needEscape_any (f : Nat → Nat) (l : List UInt8) (b n cap : Nat) (w : World) (hT : EscTab f w) (hf : EscAll f) (hU : Lib.Utf8Tabs 3 4 w) (hn : n = l.length) (hb : b < w.heap.size) (hbytes : Bytes w b 0 l) (hlen : l.length ≤ cap) (hs : l.length ≤ 100000) :
    Calls Tryd.prog 24 #[.slice (some ⟨b, 0, none⟩) n cap] w (NeedR w l) := by
  have h0s : 0 < w.heap.size := by have := Go.block_lt_of_cell (hT.cell 0 (by decide)); exact this
  have HT := Lib.hid hT
  have HF := Lib.hid hf
  have HU := Lib.hid hU
  have HN := Lib.hid hn
  have HB := Lib.hid hbytes
  have hnc : n ≤ cap := by omega
  have hn1 : n ≤ 100000 := by omega
  clear hT hf hU hn hbytes hlen
  go_enter Tryd.func24, Tryd.ntmps24
  go_wp2_with fail
  go_loopw [3] (fun t wr => ∃ k : Nat, t = .int .i64 k ∧ k ≤ n ∧ (Calm l ↔ Calm (l.drop k)) ∧ Below w.heap.size w wr) (fun t _ => n - (intOf t).toNat)
  case atStart => exact ⟨0, rfl, Nat.zero_le _, by simp, Below.refl _ _⟩
  case round =>
    obtain ⟨k, rfl, hk, hiff, hbw⟩ := hrel
    have HI := Lib.hid hiff
    have HW := Lib.hid hbw
    clear hiff hbw
    by_cases hk2 : k < n
    · have hkl : k < l.length := by have := HN.out; omega
      have hk0 : (0 : Int) ≤ (k : Int) := by omega
      have hk1 : (k : Int) < (n : Int) := by omega
      have hlt : decide ((k : Int) < (n : Int)) = true := decide_eq_true hk1
      have hc := (HB.out.below HW.out hb).at0 k hkl
      have hd := List.drop_eq_getElem_cons hkl
      obtain ⟨c, hcc⟩ : ∃ c, c = l[k] := ⟨_, rfl⟩
      rw [← hcc] at hc hd
      obtain ⟨a, ha⟩ : ∃ a : Nat, a = c.toNat := ⟨_, rfl⟩
      rw [← ha] at hc
      have HD := Lib.hid hd
      have HA := Lib.hid ha
      clear hcc hd ha
      by_cases h128 : a < 128
      · have ha1 : (a : Int) < 128 := by omega
        have ha2 : (0 : Int) ≤ (a : Int) := by omega
        have ht := (cell_of_heap (HW.out.block 0 h0s) a).trans (HT.out.cell a h128)
        have hch : CharAt (l.drop k) 1 := .inl ⟨rfl, c, _, HD.out, by rw [← HA.out]; exact h128⟩
        have hst : Still ((l.drop k).take 1) ↔ f a = 0 := by
          rw [HD.out, HA.out]
          exact still_ascii HF.out (by rw [← HA.out]; exact h128)
        have HC := Lib.hid hch
        have HS := Lib.hid hst
        clear hch hst
        by_cases hz : f a = 0
        · rw [hz] at ht
          have HZ := Lib.hid hz
          clear hz
          go_wp2_with fail
          refine ⟨⟨k + 1, by simp, by omega, HI.out.trans ?_, HW.out⟩, by simp only [intOf]; omega⟩
          rw [← List.drop_drop]
          exact calm_step HC.out (HS.out.2 HZ.out)
        · have hpos : (0 : Int) < ((f a : Nat) : Int) := by omega
          have HZ := Lib.hid hz
          clear hz
          go_wp2_with fail
          go_ret
          refine ⟨HW.out, true, rfl, fun h => (by cases h), fun _ _ hcalm => ?_⟩
          exact calm_not HC.out (fun h => HZ.out (HS.out.1 h)) (HI.out.1 hcalm)
      · have ha1 : ¬ (a : Int) < 128 := by omega
        obtain ⟨m, hm⟩ : ∃ m, m = n - k := ⟨_, rfl⟩
        have hsub : Bytes wr b k (l.drop k) := by
          have := (HB.out.below HW.out hb).sub k (l.length - k)
          rw [Nat.zero_add, List.take_of_length_le (by rw [List.length_drop]; omega)] at this
          exact this
        have HSub := Lib.hid hsub
        clear hsub
        go_wp2_with fail
        refine (decRune_any (l.drop k) (by rw [HD.out]; exact List.cons_ne_nil _ _) b k (n - k) (cap - k) wr (by rw [List.length_drop, HN.out]) HSub.out (Go.Proofs.Utf8Tabs_below HU.out HW.out)).mono ?_
        rintro e w2 ⟨b2, r, rn, rfl, hread⟩
        have B2 := Lib.hid b2
        have HR := Lib.hid hread
        clear b2 hread
        by_cases e65533 : r = 65533
        · subst e65533
          have HCalm := Lib.hid (fun hb => calm_of_read HD.out (by rw [← HA.out]; exact h128) HR.out (.inl rfl) hb)
          go_wp2_with fail
          go_ret
          exact ⟨below_step HW.out B2.out, true, rfl, fun h => (by cases h), fun _ hb hcalm => HCalm.out (hb k) (HI.out.1 hcalm)⟩
        by_cases e8232 : r = 8232
        · subst e8232
          have HCalm := Lib.hid (fun hb => calm_of_read HD.out (by rw [← HA.out]; exact h128) HR.out (.inr (.inl rfl)) hb)
          go_wp2_with fail
          go_ret
          exact ⟨below_step HW.out B2.out, true, rfl, fun h => (by cases h), fun _ hb hcalm => HCalm.out (hb k) (HI.out.1 hcalm)⟩
        by_cases e8233 : r = 8233
        · subst e8233
          have HCalm := Lib.hid (fun hb => calm_of_read HD.out (by rw [← HA.out]; exact h128) HR.out (.inr (.inr rfl)) hb)
          go_wp2_with fail
          go_ret
          exact ⟨below_step HW.out B2.out, true, rfl, fun h => (by cases h), fun _ hb hcalm => HCalm.out (hb k) (HI.out.1 hcalm)⟩
        have n1 : ((r : Int) == 65533) = false := by rw [beq_eq_false_iff_ne]; omega
        have n2 : ((r : Int) == 8232) = false := by rw [beq_eq_false_iff_ne]; omega
        have n3 : ((r : Int) == 8233) = false := by rw [beq_eq_false_iff_ne]; omega
        have hq := still_of_read HD.out (by rw [← HA.out]; exact h128) HR.out e65533 e8232 e8233
        have hle := hq.1.le
        rw [List.length_drop] at hle
        have hrn : rn ≤ n - k := by have := HN.out; omega
        have HQ := Lib.hid hq
        clear hq
        go_wp2_with fail
        refine ⟨⟨k + rn, by simp, by omega, HI.out.trans ?_, below_step HW.out B2.out⟩, by simp only [intOf]; omega⟩
        rw [← List.drop_drop]
        exact calm_step HQ.out.1 HQ.out.2
    · obtain rfl : k = n := by omega
      have hlt : decide ((k : Int) < (k : Int)) = false := decide_eq_false (by omega)
      have hcalm : Calm l := by
        rw [HI.out, List.drop_of_length_le (by have := HN.out; omega)]
        exact .nil
      have HC := Lib.hid hcalm
      clear hcalm
      go_wp2_with fail
      go_ret
      exact ⟨HW.out, false, rfl, fun _ => HC.out, fun h => (by cases h)⟩

set_option maxRecDepth 100000 in
set_option maxHeartbeats 1000000 in
theorem implNeeds_any (f : Nat → Nat) (s : ByteArray) (w : World) (hT : EscTab f w) (hf : EscAll f) (hU : Lib.Utf8Tabs 3 4 w) (hs : s.size ≤ 100000) :
    Calls Tryd.prog 11 #[.string s] w (NeedR w s.data.toList) := by
  have h0s : 0 < w.heap.size := by have := Go.block_lt_of_cell (hT.cell 0 (by decide)); exact this
  have HT := Lib.hid hT
  have HF := Lib.hid hf
  have HU := Lib.hid hU
  clear hT hf hU
  go_enter Tryd.func11, Tryd.ntmps11
  go_wp2_with (first
    | (refine wpList_conv u8m rfl (.tmp 3) 9 rfl string9m rfl (by unfold maxLen; omega) ?_
       intro c1 w1 o1 b1 z1
       have O1 := Lib.hid o1
       have B1 := Lib.hid b1
       have Z1 := Lib.hid z1
       clear o1 b1 z1))
  have hsl := O1.out.slice
  refine (needEscape_any f s.data.toList w.heap.size s.size c1 w1 (HT.out.below B1.out h0s) HF.out (Go.Proofs.Utf8Tabs_below HU.out B1.out) (size_eq s).symm (by have := Z1.out; omega) hsl.2.2.2.2 hsl.2.1 (by rw [size_eq]; exact hs)).mono ?_
  rintro e w2 ⟨b2, r, rfl, h1, h2⟩
  have B2 := Lib.hid b2
  have H1 := Lib.hid h1
  have H2 := Lib.hid h2
  clear b2 h1 h2 hsl
  go_wp2_with fail
  go_ret
  exact ⟨below_step B1.out B2.out, r, rfl, H1.out, H2.out⟩

end Go.Proofs.YtjjbgoknmofajaaDoor
