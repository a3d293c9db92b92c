/- FnOldQuoteJoin: its walk. -/
import Derived.Test.YtgomfhnkodfgiaaDoorQuoWalk
import Derived.Test.YtgomfhnkodfgiaaDoorFits
namespace Go.Proofs.YtgomfhnkodfgiaaDoor
open Go.RowKit

theorem Text.append {a b : List UInt8} (h : Text a) (k : Text b) : Text (a ++ b) := by
  induction h with
  | nil => exact k
  | @cons l n hc _ ih =>
    have hn := hc.le4
    refine .cons hc.append ?_
    rw [List.drop_append_of_le_length hn.2.2]
    exact ih

/-- What quoting returns. -/
structure QStr (w : World) (f : List UInt8 → List UInt8) (l : List UInt8) (e : Ending) (w' : World) : Prop where
  below : Below w.heap.size w w'
  what : ∃ q : List UInt8, Quoted f l q ∧ q.length ≤ 7 * l.length ∧ e = .returned (.string ⟨([34] ++ q ++ [34]).toArray⟩)

set_option maxRecDepth 100000 in
theorem zzQuote_any (hs ss : Nat → Bool) (html : Bool) (v0 : Value) (l0 : List UInt8) (s : ByteArray) (w : World) (hown : Own w v0 l0) (hv0 : ∀ a, baseOf v0 = some a → 4 ≤ a.block) (hT : Tabs hs ss w) (ht : Text s.data.toList) (hsz : s.size ≤ 2000) (hl0 : l0.length ≤ 1000) :
    Calls Tryd.prog 9 #[v0, .string s, .bool html] w (QuoRet w v0 l0 (fq (safeB hs ss html)) s.data.toList) := by
  have HO := Lib.hid hown
  have HV := Lib.hid hv0
  have HT := Lib.hid hT
  have HX := Lib.hid ht
  clear hown hv0 hT ht
  go_enter Tryd.func9, Tryd.ntmps9
  go_wp2_with fail
  refine (appendString_any hs ss html v0 l0 s w HO.out HV.out HT.out HX.out hsz hl0).mono ?_
  rintro e w1 ⟨q, v1, hq, hlen, rfl, happ⟩
  have HQ := Lib.hid hq
  have HA := Lib.hid happ
  have HLN := Lib.hid hlen
  clear hq happ hlen
  go_wp2_with fail
  go_ret
  exact ⟨q, _, HQ.out, HLN.out, rfl, HA.out⟩

set_option maxRecDepth 100000 in
theorem oldQuote_any (hs ss : Nat → Bool) (html : Bool) (s : ByteArray) (w : World) (hT : Tabs hs ss w) (ht : Text s.data.toList) (hsz : s.size ≤ 2000) :
    Calls Tryd.prog 6 #[.string ⟨#[]⟩, .string s, .bool html] w (QStr w (fq (safeB hs ss html)) s.data.toList) := by
  have HT := Lib.hid hT
  have HX := Lib.hid ht
  have h4 := hT.size
  clear hT ht
  go_enter Tryd.func6, Tryd.ntmps6
  go_wp2_with (refine wpList_conv u8q rfl (.tmp 7) 9 rfl string9q rfl (Nat.zero_le _) ?_; intro c1 w1 o1 b1 z1; have O1 := Lib.hid o1; have B1 := Lib.hid b1; clear o1 z1 b1)
  refine (zzQuote_any hs ss html _ [] s w1 O1.out (fun a ha => by cases ha; exact h4) (HT.out.below B1.out) HX.out hsz (by simp)).mono ?_
  rintro e w2 ⟨q, v2, hq, hlen, rfl, happ⟩
  have HQ := Lib.hid hq
  have HA := Lib.hid happ
  have HLN := Lib.hid hlen
  clear hq happ hlen
  go_wp2_with (refine wpList_toString u8q rfl (.tmp 11) _ rfl string9q rfl HA.out.own ?_)
  go_ret
  refine ⟨B1.out.trans (HA.out.kept.below B1.out.size (fun a ha => by cases ha; exact Nat.le_refl _)), q, HQ.out, HLN.out, ?_⟩
  simp

end Go.Proofs.YtgomfhnkodfgiaaDoor
namespace Go.Proofs.YtgomfhnkodfgiaaDoor.QuoteJoin
open Go.RowKit

theorem belowSame {n : Nat} {w wr w' : World} (h : Below n w wr) (h1 : w'.os = wr.os) (h2 : w'.tape = wr.tape) (h3 : w'.output = wr.output) (h4 : w'.heap = wr.heap) : Below n w w' :=
  ⟨h1.trans h.os, h2.trans h.tape, h3.trans h.output, by rw [h4]; exact h.size, fun k hk => by rw [h4]; exact h.block k hk⟩

theorem strs2' {w : World} {b : Nat} {x y : ByteArray} (h : w.cell? ⟨b, 0, none⟩ = some (.string x)) (k : w.cell? ⟨b, 1, none⟩ = some (.string y)) : Strs w b [x, y] := by
  intro j hj
  match j, hj with
  | 0, _ => exact h
  | 1, _ => exact k

set_option maxRecDepth 100000 in
set_option maxHeartbeats 4000000 in
theorem walk (hs ss : Nat → Bool) (a b : ByteArray) (html : Bool) (ha : a.size ≤ maxLen) (hb : b.size ≤ maxLen) (w : World) (hT : Tabs hs ss w) :
    Calls Tryd.prog 4 #[.string a, .string b, .bool html] w fun e w' => e = .returned (.bool true) ∧ Below w.heap.size w w' := by
  unfold maxLen at ha hb
  have HT := Lib.hid hT
  clear hT
  by_cases h1 : 2147483647 < a.size
  · go_enter Tryd.func4, Tryd.ntmps4
    go_wp2
    go_ret
    exact ⟨rfl, Below.refl _ _⟩
  by_cases h2 : 2147483647 < b.size
  · go_enter Tryd.func4, Tryd.ntmps4
    go_wp2
    go_ret
    exact ⟨rfl, Below.refl _ _⟩
  go_enter Tryd.func4, Tryd.ntmps4
  cases h : fitsB [a, b]
  · have H := Lib.hid h
    clear h
    go_wp2_with fail
    refine (fits8_any [a, b] _ _ _ _ rfl (by simp) (strs2' (by simp) (by simp)) (sizes2 (by omega) (by omega))).mono ?_
    rintro e w1 ⟨rfl, rfl⟩
    rw [H.out]
    go_wp2_with fail
    go_ret
    exact ⟨rfl, (Below.refl _ _).alloc (Nat.le_refl _) _⟩
  have hz : a.size ≤ 1000 ∧ b.size ≤ 1000 := by simpa [fitsB] using h
  obtain ⟨za, zb⟩ := hz
  have H := Lib.hid h
  clear h
  go_wp2_with fail
  refine (fits8_any [a, b] _ _ _ _ rfl (by simp) (strs2' (by simp) (by simp)) (sizes2 (by omega) (by omega))).mono ?_
  rintro e w1 ⟨rfl, rfl⟩
  rw [H.out]
  have hB0 : Below w.heap.size w (w.alloc (Obj.cells #[Value.string a, Value.string b] 9)) := (Below.refl _ _).alloc (Nat.le_refl _) _
  have B0 := Lib.hid hB0
  clear hB0
  go_wp2_with fail
  refine (isText_any a (by omega) _).mono ?_
  rintro e w1 ⟨rfl, t1, rfl, ht1⟩
  cases t1 with
  | false =>
    clear ht1
    go_wp2_with fail
    go_ret
    exact ⟨rfl, B0.out⟩
  | true =>
  have TA := Lib.hid (ht1 rfl)
  clear ht1
  go_wp2_with fail
  refine (isText_any b (by omega) _).mono ?_
  rintro e w1 ⟨rfl, t1, rfl, ht1⟩
  cases t1 with
  | false =>
    clear ht1
    go_wp2_with fail
    go_ret
    exact ⟨rfl, B0.out⟩
  | true =>
  have TB := Lib.hid (ht1 rfl)
  clear ht1
  go_wp2_with fail
  refine (oldQuote_any hs ss html a _ (HT.out.below B0.out) TA.out (by omega)).mono ?_
  rintro e w1 ⟨b1, p, hp, lp, rfl⟩
  have B1 := Lib.hid (below_step B0.out b1)
  have HP := Lib.hid hp
  obtain ⟨P, hP⟩ : ∃ P : ByteArray, P = ⟨([34] ++ p ++ [34]).toArray⟩ := ⟨_, rfl⟩
  rw [← hP]
  have P1 : P.size = p.length + 2 := by rw [hP]; simp [ByteArray.size]
  have P2 := Lib.hid (show P.data.toList = [34] ++ p ++ [34] by rw [hP])
  clear b1 hp hP
  go_wp2_with fail
  refine (oldQuote_any hs ss html b _ (HT.out.below B1.out) TB.out (by omega)).mono ?_
  rintro e w2 ⟨b2, q, hq, lq, rfl⟩
  have B2 := Lib.hid (below_step B1.out b2)
  have HQ := Lib.hid hq
  obtain ⟨Q, hQ⟩ : ∃ Q : ByteArray, Q = ⟨([34] ++ q ++ [34]).toArray⟩ := ⟨_, rfl⟩
  rw [← hQ]
  have Q1 : Q.size = q.length + 2 := by rw [hQ]; simp [ByteArray.size]
  have Q2 := Lib.hid (show Q.data.toList = [34] ++ q ++ [34] by rw [hQ])
  clear b2 hq hQ
  have hab : (a ++ b).data.toList = a.data.toList ++ b.data.toList := data_append _ _
  have habs : (a ++ b).size = a.size + b.size := ByteArray.size_append
  have HAB := Lib.hid hab
  clear hab
  have hbig : ¬ 9223372036854775807 < a.size + b.size := by omega
  go_wp2_with fail
  refine (oldQuote_any hs ss html (a ++ b) _ (HT.out.below B2.out) (by rw [HAB.out]; exact TA.out.append TB.out) (by omega)).mono ?_
  rintro e w3 ⟨b3, r, hr, lr, rfl⟩
  have B3 := Lib.hid (below_step B2.out b3)
  have hrr : r = p ++ q := quote_law HP.out HQ.out (by rw [← HAB.out]; exact hr)
  obtain ⟨R, hR⟩ : ∃ R : ByteArray, R = ⟨([34] ++ r ++ [34]).toArray⟩ := ⟨_, rfl⟩
  rw [← hR]
  have R2 := Lib.hid (show R.data.toList = [34] ++ (p ++ q) ++ [34] by rw [hR, hrr])
  clear b3 hr hR hrr
  have g1 : (2 : Int) ≤ (P.size : Int) := by omega
  have g2 : (2 : Int) ≤ (Q.size : Int) := by omega
  have hlp : p.length ≤ 7000 := by rw [size_eq] at lp; omega
  have hlq : q.length ≤ 7000 := by rw [size_eq] at lq; omega
  clear lp lq lr
  have d1 : decide ((2 : Int) ≤ (P.size : Int)) = true := decide_eq_true g1
  have d2 : decide ((2 : Int) ≤ (Q.size : Int)) = true := decide_eq_true g2
  obtain ⟨n1, hn1⟩ : ∃ n1 : Nat, n1 = p.length + 1 := ⟨_, rfl⟩
  have hk : (P.size : Int) - 1 = ((n1 : Nat) : Int) := by omega
  have hk2 : n1 ≤ P.size := by omega
  have hk3 : 1 ≤ Q.size := by omega
  have z1 : (P.extract 0 n1).size = n1 := by simp; omega
  have z2 : (Q.extract 1 Q.size).size = q.length + 1 := by simp; omega
  have hlim : ¬ 9223372036854775807 < n1 + (q.length + 1) := by omega
  have hEq : (R.toList == (P.extract 0 n1 ++ Q.extract 1 Q.size).toList) = true := by
    rw [beq_iff_eq, Lib.toList_data, Lib.toList_data, data_append, extract_part P 0 n1 hk2 (Nat.zero_le _), extract_list, R2.out, P2.out, Q2.out, hn1]
    simp
  have hsum : n1 + (Q.size - 1) ≤ 9223372036854775807 := by omega
  clear hn1 P1 Q1 z1 z2 hlim
  go_wp2_with fail
  go_big_quiet (fail)
  go_wp2_with fail
  go_ret
  exact ⟨rfl, belowSame B3.out rfl rfl rfl rfl⟩

end Go.Proofs.YtgomfhnkodfgiaaDoor.QuoteJoin
