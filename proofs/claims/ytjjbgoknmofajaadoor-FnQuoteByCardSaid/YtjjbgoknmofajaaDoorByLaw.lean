/- FnQuoteBy: its walk. -/
import Derived.Test.YtjjbgoknmofajaaDoorByEq
import Derived.Test.YtjjbgoknmofajaaDoorFlagB
import Derived.Test.YtjjbgoknmofajaaDoorByEq
import Derived.Test.YtjjbgoknmofajaaDoorFlagB
import Derived.Test.YtjjbgoknmofajaaDoorFits
namespace Go.Proofs.YtjjbgoknmofajaaDoor.QuoteBy
open Go.RowKit Go.Proofs.YtjjbgoknmofajaaDoor Go.Proofs.YtjjbgoknmofajaaDoor.Wire Go.Proofs.YtjjbgoknmofajaaDoor.FlagB

abbrev arr (o : Opt) : Array Value := #[.int .i64 o.dup, .int .i64 o.inv, .int .i64 o.flo, .int .i64 o.ints, .int .i64 o.html, .int .i64 o.js, .int .i64 o.multi, .int .i64 o.pres, .int .i64 o.reord, .int .i64 o.colon, .int .i64 o.comma, .bool o.indented, .string o.indent, .bool o.prefixed, .string o.pref]
theorem val_eq (o : Opt) : o.val = .agg (arr o) := rfl

theorem opt_cell {w w' : World} {o : Opt} {t : TypeId} (h : Below (w.alloc (.cells (arr o) t)).heap.size (w.alloc (.cells (arr o) t)) w') (j : Nat) (v : Value) (hv : (arr o)[j]? = some v) : w'.cell? ⟨w.heap.size, j, none⟩ = some v :=
  (h.cell (p := ⟨w.heap.size, j, none⟩) (by simp)).trans ((World.cell?_alloc_new w _ _ j).trans hv)

def fits2 (o : Opt) : Bool := decide (o.indent.size ≤ 2147483647) && decide (o.pref.size ≤ 2147483647)

set_option maxHeartbeats 1000000 in
theorem fits2_any (o : Opt) (h1 : o.indent.size ≤ maxLen) (h2 : o.pref.size ≤ maxLen) (w : World) :
    Calls Tryd.prog 13 #[o.val] w fun e w' => e = .returned (.bool (fits2 o)) ∧ Below w.heap.size w w' := by
  unfold maxLen at h1 h2
  rw [val_eq]
  unfold fits2
  by_cases e1 : 2147483647 < o.indent.size
  · rw [decide_eq_false (by omega)]
    go_enter Tryd.func13, Tryd.ntmps13
    go_wp2
    go_ret
    exact ⟨rfl, (Below.refl _ _).alloc (Nat.le_refl _) _⟩
  · rw [decide_eq_true (p := o.indent.size ≤ 2147483647) (by omega)]
    by_cases e2 : 2147483647 < o.pref.size
    · rw [decide_eq_false (by omega)]
      go_enter Tryd.func13, Tryd.ntmps13
      go_wp2
      go_ret
      exact ⟨rfl, (Below.refl _ _).alloc (Nat.le_refl _) _⟩
    · rw [decide_eq_true (p := o.pref.size ≤ 2147483647) (by omega)]
      go_enter Tryd.func13, Tryd.ntmps13
      go_wp2
      go_ret
      exact ⟨rfl, (Below.refl _ _).alloc (Nat.le_refl _) _⟩

/-- What the tables and the sentinel must hold. -/
structure World4 (f : Nat → Nat) (u : TypeId) (x : Value) (w : World) : Prop where
  esc : EscTab f w
  utf : Lib.Utf8Tabs 3 4 w
  err : w.cell? ⟨1, 0, none⟩ = some (.iface u x)
  size : 5 ≤ w.heap.size

theorem World4.below {f : Nat → Nat} {u : TypeId} {x : Value} {w w' : World} (h : World4 f u x w) (b : Below w.heap.size w w') : World4 f u x w' :=
  ⟨h.esc.below b (by have := h.size; omega), Go.Proofs.Utf8Tabs_below h.utf b, (b.cell (p := ⟨1, 0, none⟩) (by have := h.size; exact Nat.lt_of_lt_of_le (by decide) this)).trans h.err, Nat.le_trans h.size b.size⟩

/-- What 'QuoteBy' tells. -/
structure ByRet (w : World) (to s : List UInt8) (f : List UInt8 → List UInt8) (inv : Bool) (e : Ending) (w' : World) : Prop where
  below : Below w.heap.size w w'
  what : ∃ q ok, Quoted f s q ∧ q.length ≤ 8 * s.length ∧ ((Text s ∨ inv = true) → ok = true) ∧ (¬ Text s → inv = false → ok = false) ∧ e = .returned (.tuple #[.string ⟨(to ++ 34 :: (q ++ [34])).toArray⟩, .bool ok])

set_option maxRecDepth 100000 in
set_option maxHeartbeats 4000000 in
theorem quoteBy_any (f : Nat → Nat) (u : TypeId) (x : Value) (to s : ByteArray) (o : Opt) (w : World) (hW : World4 f u x w) (hf : EscAll f) (h1 : to.size ≤ 2147483647) (h2 : s.size ≤ 2147483647) :
    Calls Tryd.prog 15 #[.string to, .string s, o.val] w (ByRet w to.data.toList s.data.toList (fx (decide (o.html = 1)) (decide (o.js = 1))) (decide (o.inv = 1))) := by
  have HW := Lib.hid hW
  have HF := Lib.hid hf
  have h5 := hW.size
  clear hW hf
  rw [val_eq]
  go_enter Tryd.func15, Tryd.ntmps15
  go_wp2_with (first
    | (refine wpList_conv u8q rfl (.tmp 11) 9 rfl string9q rfl (by unfold maxLen; omega) ?_
       intro c1 w1 o1 b1 z1
       have O1 := Lib.hid o1
       have B1 := Lib.hid b1
       have Z1 := Lib.hid z1
       clear o1 b1 z1)
    | (refine wpList_conv u8q rfl (.tmp 13) 9 rfl string9q rfl (by unfold maxLen; omega) ?_
       intro c2 w2 o2 b2 z2
       have O2 := Lib.hid o2
       have B2 := Lib.hid (below_step B1.out b2)
       have B2' := Lib.hid b2
       have Z2 := Lib.hid z2
       have d0 : w2.cell? ⟨w.heap.size, 0, none⟩ = some (.int .i64 o.dup) := opt_cell B2.out 0 _ rfl
       have d1 : w2.cell? ⟨w.heap.size, 1, none⟩ = some (.int .i64 o.inv) := opt_cell B2.out 1 _ rfl
       have d2 : w2.cell? ⟨w.heap.size, 2, none⟩ = some (.int .i64 o.flo) := opt_cell B2.out 2 _ rfl
       have d3 : w2.cell? ⟨w.heap.size, 3, none⟩ = some (.int .i64 o.ints) := opt_cell B2.out 3 _ rfl
       have d4 : w2.cell? ⟨w.heap.size, 4, none⟩ = some (.int .i64 o.html) := opt_cell B2.out 4 _ rfl
       have d5 : w2.cell? ⟨w.heap.size, 5, none⟩ = some (.int .i64 o.js) := opt_cell B2.out 5 _ rfl
       have d6 : w2.cell? ⟨w.heap.size, 6, none⟩ = some (.int .i64 o.multi) := opt_cell B2.out 6 _ rfl
       have d7 : w2.cell? ⟨w.heap.size, 7, none⟩ = some (.int .i64 o.pres) := opt_cell B2.out 7 _ rfl
       have d8 : w2.cell? ⟨w.heap.size, 8, none⟩ = some (.int .i64 o.reord) := opt_cell B2.out 8 _ rfl
       have d9 : w2.cell? ⟨w.heap.size, 9, none⟩ = some (.int .i64 o.colon) := opt_cell B2.out 9 _ rfl
       have d10 : w2.cell? ⟨w.heap.size, 10, none⟩ = some (.int .i64 o.comma) := opt_cell B2.out 10 _ rfl
       have d11 : w2.cell? ⟨w.heap.size, 11, none⟩ = some (.bool o.indented) := opt_cell B2.out 11 _ rfl
       have d12 : w2.cell? ⟨w.heap.size, 12, none⟩ = some (.string o.indent) := opt_cell B2.out 12 _ rfl
       have d13 : w2.cell? ⟨w.heap.size, 13, none⟩ = some (.bool o.prefixed) := opt_cell B2.out 13 _ rfl
       have d14 : w2.cell? ⟨w.heap.size, 14, none⟩ = some (.string o.pref) := opt_cell B2.out 14 _ rfl
       clear o2 b2 z2))
  refine (flags_any o _).mono ?_
  rintro e w3 ⟨fb, rfl, hfb, hfs, b3⟩
  have FS3 := Lib.hid hfs
  have B3 := Lib.hid b3
  have FB := Lib.hid hfb
  clear d0 d1 d2 d3 d4 d5 d6 d7 d8 d9 d10 d11 d12 d13 d14 hfs b3 hfb
  go_wp2_with fail
  have s1 : w1.heap.size = w.heap.size + 2 := by have := Z1.out; simp at this; omega
  have s2 : w2.heap.size = w.heap.size + 3 := by have := Z2.out; omega
  have s3 := B3.out.size
  have hB3 : Below w.heap.size w w3 := ((Below.refl _ _).alloc (Nat.le_refl _) _).trans ((B2.out.trans (B3.out.mono (by have := B2.out.size; exact this))).mono (by simp))
  have BW := Lib.hid hB3
  have hsl := O2.out.slice
  have e1 : (w.alloc (.cells (arr o) 25)).heap.size = w.heap.size + 1 := by simp
  have ho1 := O1.out
  rw [e1] at ho1
  have hown : Own w3 (.slice (some ⟨w.heap.size + 1, 0, none⟩) to.size c1) to.data.toList := (ho1.below B2'.out ho1.lt).below B3.out (fun a ha => by cases ha; show w.heap.size + 1 < _; omega)
  have hbytes : Bytes w3 w1.heap.size 0 s.data.toList := hsl.2.2.2.2.below B3.out (by omega)
  obtain ⟨fi, fh, fj⟩ := all_flags o.inv o.html o.js o.pres o.ints o.flo
  refine (appendQuote_any f (decide (o.html = 1)) (decide (o.js = 1)) (decide (o.inv = 1)) _ _ (.iface u x) _ to.data.toList s.data.toList _ _ _ fb w3 ((HW.out.below BW.out).esc) HF.out ((HW.out.below BW.out).utf) (by rw [size_eq]) hown
    (fun a ha => by cases ha; show 5 ≤ w.heap.size + 1; omega) ((HW.out.below BW.out).size) ((HW.out.below BW.out).err) (by omega) (fun a ha => by cases ha; show w.heap.size + 1 ≠ _; omega) hbytes (by rw [size_eq]; exact hsl.2.1)
    FS3.out.c0 FS3.out.c1 FS3.out.lt (fun a ha => by cases ha; show w.heap.size + 1 ≠ _; have := FB.out; omega)
    (by rw [← fh]; exact get_any _ _ _) (by rw [← fj]; exact get_any _ _ _) (by rw [← fi]; exact get_any _ _ _) (by rw [size_eq]; exact h1) (by rw [size_eq]; exact h2)).mono ?_
  rintro e w4 ⟨q, v4, hq, hlen, happ, hyes, hno⟩
  have hbw : Below w.heap.size w w4 := BW.out.trans (happ.kept.below BW.out.size (fun a ha => by cases ha; show w.heap.size ≤ w.heap.size + 1; omega))
  have hconv := run_toString u8q w4.drew 9 string9q happ.own.drew
  have HQ := Lib.hid hq
  have HL := Lib.hid hlen
  have HBW := Lib.hid hbw
  by_cases hok : Text s.data.toList ∨ decide (o.inv = 1) = true
  · obtain rfl := hyes hok
    clear hyes hno hq hlen happ hbw ho1 hown hbytes hsl fi fh fj
    have HOK := Lib.hid hok
    clear hok
    go_wp2_with fail
    go_region
    all_goals go_wp2_with fail
    all_goals go_ret2
    all_goals exact ⟨HBW.out.drew, q, true, HQ.out, HL.out, fun _ => rfl, fun h1 h2 => (by rcases HOK.out with h | h; exact absurd h h1; rw [h2] at h; cases h), rfl⟩
  · have hnt : ¬ Text s.data.toList := fun h => hok (.inl h)
    have hni : decide (o.inv = 1) = false := by cases hd : decide (o.inv = 1) with
      | false => rfl
      | true => exact absurd (.inr hd) hok
    obtain rfl := hno hnt hni
    clear hyes hno hq hlen happ hbw ho1 hown hbytes hsl fi fh fj
    have HOK := Lib.hid hok
    clear hok hnt hni
    go_wp2_with fail
    go_region
    all_goals go_wp2_with fail
    all_goals go_ret2
    all_goals exact ⟨HBW.out.drew, q, false, HQ.out, HL.out, fun h => absurd h HOK.out, fun _ _ => rfl, rfl⟩

theorem strs2' {w : World} {b : Nat} {x y : ByteArray} (h : w.cell? ⟨b, 0, none⟩ = some (.string x)) (k : w.cell? ⟨b, 1, none⟩ = some (.string y)) : Strs w b [x, y] := by
  intro j hj
  match j, hj with
  | 0, _ => exact h
  | 1, _ => exact k

set_option maxRecDepth 100000 in
set_option maxHeartbeats 4000000 in
theorem walk (f : Nat → Nat) (u : TypeId) (x : Value) (to s : ByteArray) (o : Opt) (w : World) (hW : World4 f u x w) (hf : EscAll f) (ha : to.size ≤ maxLen) (hb : s.size ≤ maxLen) (hi : o.indent.size ≤ maxLen) (hp : o.pref.size ≤ maxLen) :
    Calls Tryd.prog 4 #[.string to, .string s, o.val] w fun e w' => e = .returned (.bool true) ∧ Below w.heap.size w w' := by
  have HW := Lib.hid hW
  have HF := Lib.hid hf
  have h5 := hW.size
  unfold maxLen at ha hb
  clear hW hf
  rw [val_eq]
  by_cases h1 : 2147483647 < to.size
  · go_enter Tryd.func4, Tryd.ntmps4
    go_wp2_with fail
    go_ret
    exact ⟨rfl, (Below.refl _ _).alloc (Nat.le_refl _) _⟩
  by_cases h2 : 2147483647 < s.size
  · go_enter Tryd.func4, Tryd.ntmps4
    go_wp2_with fail
    go_ret
    exact ⟨rfl, (Below.refl _ _).alloc (Nat.le_refl _) _⟩
  go_enter Tryd.func4, Tryd.ntmps4
  go_wp2_with fail
  refine (fits2_any o hi hp _).mono ?_
  rintro e w1 ⟨rfl, b1⟩
  have B1 := Lib.hid b1
  have HB1 := Lib.hid (((Below.refl _ w).alloc (Nat.le_refl _) _).trans (b1.mono (by simp)))
  clear b1
  cases hft : fits2 o with
  | false =>
    go_wp2_with fail
    go_ret
    exact ⟨rfl, HB1.out⟩
  | true =>
    clear hft
    have c4 : w1.cell? ⟨w.heap.size, 4, none⟩ = some (.int .i64 o.html) := opt_cell B1.out 4 _ rfl
    have c5 : w1.cell? ⟨w.heap.size, 5, none⟩ = some (.int .i64 o.js) := opt_cell B1.out 5 _ rfl
    go_wp2_with fail
    refine (quote_exact (decide (o.html = 1)) (decide (o.js = 1)) s (by omega) _).mono ?_
    rintro e w2 ⟨b2, q, cl, hq, hlen, hc1, hc2, rfl⟩
    have hb2 := below_step B1.out b2
    have HB2 := Lib.hid (below_step HB1.out b2)
    have d0 : w2.cell? ⟨w.heap.size, 0, none⟩ = some (.int .i64 o.dup) := opt_cell hb2 0 _ rfl
    have d1 : w2.cell? ⟨w.heap.size, 1, none⟩ = some (.int .i64 o.inv) := opt_cell hb2 1 _ rfl
    have d2 : w2.cell? ⟨w.heap.size, 2, none⟩ = some (.int .i64 o.flo) := opt_cell hb2 2 _ rfl
    have d3 : w2.cell? ⟨w.heap.size, 3, none⟩ = some (.int .i64 o.ints) := opt_cell hb2 3 _ rfl
    have d4 : w2.cell? ⟨w.heap.size, 4, none⟩ = some (.int .i64 o.html) := opt_cell hb2 4 _ rfl
    have d5 : w2.cell? ⟨w.heap.size, 5, none⟩ = some (.int .i64 o.js) := opt_cell hb2 5 _ rfl
    have d6 : w2.cell? ⟨w.heap.size, 6, none⟩ = some (.int .i64 o.multi) := opt_cell hb2 6 _ rfl
    have d7 : w2.cell? ⟨w.heap.size, 7, none⟩ = some (.int .i64 o.pres) := opt_cell hb2 7 _ rfl
    have d8 : w2.cell? ⟨w.heap.size, 8, none⟩ = some (.int .i64 o.reord) := opt_cell hb2 8 _ rfl
    have d9 : w2.cell? ⟨w.heap.size, 9, none⟩ = some (.int .i64 o.colon) := opt_cell hb2 9 _ rfl
    have d10 : w2.cell? ⟨w.heap.size, 10, none⟩ = some (.int .i64 o.comma) := opt_cell hb2 10 _ rfl
    have d11 : w2.cell? ⟨w.heap.size, 11, none⟩ = some (.bool o.indented) := opt_cell hb2 11 _ rfl
    have d12 : w2.cell? ⟨w.heap.size, 12, none⟩ = some (.string o.indent) := opt_cell hb2 12 _ rfl
    have d13 : w2.cell? ⟨w.heap.size, 13, none⟩ = some (.bool o.prefixed) := opt_cell hb2 13 _ rfl
    have d14 : w2.cell? ⟨w.heap.size, 14, none⟩ = some (.string o.pref) := opt_cell hb2 14 _ rfl
    have B2 := Lib.hid hb2
    have HQ := Lib.hid hq
    have HC1 := Lib.hid hc1
    have HC2 := Lib.hid hc2
    obtain ⟨t, ht⟩ : ∃ t : ByteArray, t = ⟨(34 :: q ++ [34]).toArray⟩ := ⟨_, rfl⟩
    rw [← ht]
    have HTT := Lib.hid ht
    have htl : t.size ≤ 64424509412 := by rw [ht]; show (34 :: q ++ [34]).toArray.size ≤ _; rw [size_eq] at hlen; simp; omega
    clear c4 c5 hb2 b2 hq hlen hc1 hc2 ht
    go_wp2_with fail
    refine (quoteBy_any f u x to s o _ (HW.out.below HB2.out) HF.out (by omega) (by omega)).mono ?_
    rintro e w3 ⟨b3, q', ok, hq', hl', y1, y2, rfl⟩
    obtain rfl : q' = q := hq'.one (fun c hc => chunk_eq _ _ c hc) _ HQ.out
    have HB3 := Lib.hid (below_step HB2.out b3)
    have c1 : w3.cell? ⟨w.heap.size, 1, none⟩ = some (.int .i64 o.inv) := opt_cell (below_step B2.out b3) 1 _ rfl
    have hok : ok = (cl || (o.inv == 1)) := by
      cases cl with
      | true => rw [y1 (.inl (HC1.out rfl)), Bool.true_or]
      | false =>
        have hnt := HC2.out rfl
        rw [Bool.false_or]
        by_cases e1 : o.inv = 1
        · rw [y1 (.inr (decide_eq_true e1))]; simp [e1]
        · rw [y2 hnt (decide_eq_false e1)]; simp [e1]
    obtain ⟨v, hv⟩ : ∃ v : ByteArray, v = ⟨(to.data.toList ++ 34 :: (q' ++ [34])).toArray⟩ := ⟨_, rfl⟩
    obtain ⟨z, hz⟩ : ∃ z : ByteArray, to ++ t = z := ⟨_, rfl⟩
    have hvz : v = z := bytes_ext (by rw [hv, ← hz, data_append, HTT.out]; simp)
    rw [← hv]
    subst hvz
    have hbig : ¬ 9223372036854775807 < to.size + t.size := by omega
    have z3 : w.heap.size + 1 ≤ w3.heap.size := by have k1 := B2.out.size; have k2 := b3.size; simp at k1; omega
    clear d0 d1 d2 d3 d4 d5 d6 d7 d8 d9 d10 d11 d12 d13 d14 hq' hl' y1 y2 b3 hv
    go_wp2_with fail
    refine (fits8_any [to, s] _ _ _ _ rfl (by simp) (strs2' (by simp) (by simp)) (sizes2 (by omega) (by omega))).mono ?_
    rintro e w4 ⟨rfl, rfl⟩
    have hb4 : w.heap.size < w3.heap.size := by omega
    have hne4 : w.heap.size ≠ w3.heap.size := by omega
    subst hok
    have HB4 := Lib.hid (HB3.out.alloc (by have := HB3.out.size; exact this) (.cells #[.string to, .string s] 9))
    cases hft : fitsB [to, s] with
    | false =>
      clear hft
      go_wp2_with fail
      go_ret
      exact ⟨rfl, HB4.out⟩
    | true =>
      clear hft
      cases cl with
      | true =>
        go_wp2_with fail
        go_ret
        exact ⟨rfl, HB4.out⟩
      | false =>
        by_cases e1 : o.inv = 1
        · have e2 : (o.inv == 1) = true := by rw [beq_iff_eq]; exact e1
          rw [e2]
          clear e1
          go_wp2_with fail
          go_ret
          exact ⟨rfl, HB4.out⟩
        · have e2 : (o.inv == 1) = false := by rw [beq_eq_false_iff_ne]; exact e1
          rw [e2]
          clear e1
          go_wp2_with fail
          go_ret
          exact ⟨rfl, HB4.out⟩

end Go.Proofs.YtjjbgoknmofajaaDoor.QuoteBy
