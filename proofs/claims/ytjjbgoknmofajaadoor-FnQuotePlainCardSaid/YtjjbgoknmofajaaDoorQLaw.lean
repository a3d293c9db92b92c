/- FnQuotePlain: its walk. -/
import Derived.Test.YtjjbgoknmofajaaDoorUPlain
import Derived.Test.YtjjbgoknmofajaaDoorFits
namespace Go.Proofs.YtjjbgoknmofajaaDoor
open Go.RowKit

theorem AppTo.ofBelow {w w2 : World} {v : Value} {l : List UInt8} (h : Own w v l) (hb : Below w.heap.size w w2) : AppTo w v w2 v l :=
  ⟨h.below hb h.lt, ⟨hb.os, hb.tape, hb.output, hb.size, fun k hk _ => hb.block k hk, fun a _ hlt o _ => cell_of_heap (hb.block a.block hlt) o⟩, At.refl _ _⟩

theorem AppTo.belowNew {w w' : World} {v v' : Value} {l : List UInt8} {n : Nat} (h : AppTo w v w' v' l) (hn : n ≤ w.heap.size) (hv : ∀ a, baseOf v = some a → n ≤ a.block) : Below n w w' := h.kept.below hn hv

set_option maxRecDepth 100000 in
set_option maxHeartbeats 2000000 in
theorem appQuote_any (f : Nat → Nat) (v0 : Value) (l0 : List UInt8) (s : ByteArray) (w : World) (hT : EscTab f w) (hown : Own w v0 l0) (h0 : ∀ a, baseOf v0 = some a → a.block ≠ 0) (hsz : l0.length + s.size ≤ 100000) (hp : Plain s.data.toList) :
    Calls Tryd.prog 34 #[v0, .string s] w fun e w' => ∃ v', e = .returned (.tuple #[v', .nilIface]) ∧ AppTo w v0 w' v' (l0 ++ [34] ++ s.data.toList ++ [34]) := by
  have h0s : 0 < w.heap.size := by have := Go.block_lt_of_cell (hT.cell 0 (by decide)); exact this
  have HT := Lib.hid hT
  have HO := Lib.hid hown
  have H0 := Lib.hid h0
  have HP := Lib.hid hp
  clear hT hown h0 hp
  go_enter Tryd.func34, Tryd.ntmps34
  go_wp2_with (first
    | (refine wpList_conv u8q rfl (.tmp 9) 9 rfl string9q rfl (by unfold maxLen; omega) ?_
       intro c1 w1 o1 b1 z1
       have O1 := Lib.hid o1
       have B1 := Lib.hid b1
       have Z1 := Lib.hid z1
       clear o1 b1 z1))
  have hsl := O1.out.slice
  have ha := (AppTo.ofBelow HO.out B1.out)
  have hlt := HO.out.lt
  refine (quotePlain_any f v0 l0 s.data.toList w.heap.size s.size c1 w1.heap.size _ (HT.out.below (below_step B1.out ((Below.refl _ _).alloc (Nat.le_refl _) _)) h0s) hsl.1 (ha.own.alloc _) H0.out (by have := Z1.out; simp; omega) (fun a ea => by have := hlt a ea; omega) (hsl.2.2.2.2.heap (Below.heap_alloc _ _ _ hsl.2.2.2.1)) (by have := hsl.2.1; exact this) ?_ ?_ (by simp) (fun a ea => by have := hlt a ea; have := Z1.out; omega) (by rw [size_eq]; omega) HP.out).mono ?_
  · exact World.cell?_alloc_new w1 _ _ 0
  · exact World.cell?_alloc_new w1 _ _ 1
  · rintro e w3 ⟨v3, rfl, k3⟩
    have K3 := Lib.hid ((ha.alloc _).trans k3)
    clear k3 ha hsl hlt
    go_wp2_with fail
    go_ret2
    exact ⟨v3, rfl, K3.out⟩

set_option maxRecDepth 100000 in
set_option maxHeartbeats 2000000 in
theorem appUnquote_any (v0 : Value) (l0 l : List UInt8) (s : ByteArray) (hs : s.data.toList = 34 :: (l ++ [34])) (w : World) (hown : Own w v0 l0) (hsz : l0.length + s.size ≤ 100000) (hp : Plain l) :
    Calls Tryd.prog 35 #[v0, .string s] w fun e w' => ∃ v', e = .returned (.tuple #[v', .nilIface]) ∧ AppTo w v0 w' v' (l0 ++ l) := by
  have hlen : s.size = l.length + 2 := by rw [← size_eq, hs]; simp
  have HLen := Lib.hid hlen
  have HO := Lib.hid hown
  have HP := Lib.hid hp
  have HS := Lib.hid hs
  clear hown hp hs hlen
  go_enter Tryd.func35, Tryd.ntmps35
  go_wp2_with (first
    | (refine wpList_conv u8q rfl (.tmp 9) 9 rfl string9q rfl (by unfold maxLen; omega) ?_
       intro c1 w1 o1 b1 z1
       have O1 := Lib.hid o1
       have B1 := Lib.hid b1
       have Z1 := Lib.hid z1
       clear o1 b1 z1))
  have hsl := O1.out.slice
  have ha := (AppTo.ofBelow HO.out B1.out)
  have hlt := HO.out.lt
  refine (unquotePlain_any v0 l0 l w.heap.size s.size c1 _ HLen.out ha.own (by have := Z1.out; omega) (fun a ea => by have := hlt a ea; omega) (by rw [← HS.out]; exact hsl.2.2.2.2) (by have := hsl.2.1; rw [size_eq] at this; exact this) (by have := HLen.out; omega) HP.out).mono ?_
  rintro e w3 ⟨v3, rfl, k3⟩
  have K3 := Lib.hid (ha.trans k3)
  clear k3 ha hsl hlt
  go_wp2_with fail
  go_ret2
  exact ⟨v3, rfl, K3.out⟩

/-- A text and 'true'. -/
structure Told (w : World) (q : ByteArray) (e : Ending) (w' : World) : Prop where
  below : Below w.heap.size w w'
  what : e = .returned (.tuple #[.string q, .bool true])

set_option maxRecDepth 100000 in
set_option maxHeartbeats 2000000 in
theorem implQuote_any (f : Nat → Nat) (s q : ByteArray) (hq : q.data.toList = [34] ++ s.data.toList ++ [34]) (w : World) (hT : EscTab f w) (hsz : s.size ≤ 90000) (hp : Plain s.data.toList) :
    Calls Tryd.prog 20 #[.string ⟨#[]⟩, .string s] w (Told w q) := by
  have h0s : 0 < w.heap.size := by have := Go.block_lt_of_cell (hT.cell 0 (by decide)); exact this
  have HT := Lib.hid hT
  have HP := Lib.hid hp
  have HQ := Lib.hid hq
  clear hT hp hq
  go_enter Tryd.func20, Tryd.ntmps20
  go_wp2_with (first
    | (refine wpList_conv u8q rfl (.tmp 9) 9 rfl string9q rfl (by decide) ?_
       intro c1 w1 o1 b1 z1
       have O1 := Lib.hid o1
       have B1 := Lib.hid b1
       have Z1 := Lib.hid z1
       clear o1 b1 z1))
  have hb : ∀ a, baseOf (.slice (some ⟨w.heap.size, 0, none⟩) (⟨#[]⟩ : ByteArray).size c1) = some a → a.block = w.heap.size := fun a ea => by simp [baseOf] at ea; subst ea; rfl
  refine (appQuote_any f _ [] s _ (HT.out.below B1.out h0s) O1.out (fun a ea => by have := hb a ea; omega) (by simpa using (by omega : s.size ≤ 100000)) HP.out).mono ?_
  rintro e w2 ⟨v2, rfl, k2⟩
  have hb2 : Below w.heap.size w w2 := B1.out.trans (k2.belowNew (by have := B1.out.size; exact this) (fun a ea => by have := hb a ea; omega))
  have hconv := run_toString u8q w2.drew 9 string9q k2.own.drew
  have hqe : (⟨([] ++ [34] ++ s.data.toList ++ [34] : List UInt8).toArray⟩ : ByteArray) = q := bytes_ext (by rw [HQ.out]; simp)
  rw [hqe] at hconv
  have HB := Lib.hid hb2
  clear k2 hb2 hb hqe
  go_wp2_with fail
  go_region
  all_goals go_wp2_with fail
  all_goals go_ret2
  all_goals exact ⟨HB.out.drew, rfl⟩

set_option maxRecDepth 100000 in
set_option maxHeartbeats 2000000 in
theorem implUnquote_any (s q : ByteArray) (hq : q.data.toList = [34] ++ s.data.toList ++ [34]) (w : World) (hsz : s.size ≤ 90000) (hp : Plain s.data.toList) :
    Calls Tryd.prog 21 #[.string ⟨#[]⟩, .string q] w (Told w s) := by
  have hqs : q.size ≤ 100000 := by rw [← size_eq, hq]; simp; omega
  have HP := Lib.hid hp
  have HQ := Lib.hid hq
  clear hp hq
  go_enter Tryd.func21, Tryd.ntmps21
  go_wp2_with (first
    | (refine wpList_conv u8q rfl (.tmp 9) 9 rfl string9q rfl (by decide) ?_
       intro c1 w1 o1 b1 z1
       have O1 := Lib.hid o1
       have B1 := Lib.hid b1
       have Z1 := Lib.hid z1
       clear o1 b1 z1))
  have hb : ∀ a, baseOf (.slice (some ⟨w.heap.size, 0, none⟩) (⟨#[]⟩ : ByteArray).size c1) = some a → a.block = w.heap.size := fun a ea => by simp [baseOf] at ea; subst ea; rfl
  refine (appUnquote_any _ [] s.data.toList q (by rw [HQ.out]; simp) _ O1.out (by simpa using hqs) HP.out).mono ?_
  rintro e w2 ⟨v2, rfl, k2⟩
  have hb2 : Below w.heap.size w w2 := B1.out.trans (k2.belowNew (by have := B1.out.size; exact this) (fun a ea => by have := hb a ea; omega))
  have hconv := run_toString u8q w2.drew 9 string9q k2.own.drew
  have hqe : (⟨([] ++ s.data.toList : List UInt8).toArray⟩ : ByteArray) = s := bytes_ext (by simp)
  rw [hqe] at hconv
  have HB := Lib.hid hb2
  clear k2 hb2 hb hqe
  go_wp2_with fail
  go_region
  all_goals go_wp2_with fail
  all_goals go_ret2
  all_goals exact ⟨HB.out.drew, rfl⟩

end Go.Proofs.YtjjbgoknmofajaaDoor
namespace Go.Proofs.YtjjbgoknmofajaaDoor.QuotePlain
open Go.RowKit Go.Proofs.YtjjbgoknmofajaaDoor

theorem strs1' {w : World} {b : Nat} {a : ByteArray} (h : w.cell? ⟨b, 0, none⟩ = some (.string a)) : Strs w b [a] := by
  intro j hj
  match j, hj with
  | 0, _ => exact h

set_option maxRecDepth 100000 in
set_option maxHeartbeats 4000000 in
theorem walk (f : Nat → Nat) (s : ByteArray) (hs : s.size ≤ maxLen) (w : World) (hT : EscTab f w) :
    Calls Tryd.prog 7 #[.string s] w fun e w' => e = .returned (.bool true) ∧ Below w.heap.size w w' := by
  unfold maxLen at hs
  have h0s : 0 < w.heap.size := by have := Go.block_lt_of_cell (hT.cell 0 (by decide)); exact this
  have HT := Lib.hid hT
  clear hT
  by_cases h1 : 2147483647 < s.size
  · go_enter Tryd.func7, Tryd.ntmps7
    go_wp2
    go_ret
    exact ⟨rfl, Below.refl _ _⟩
  cases hf : fitsB [s]
  · have H := Lib.hid hf
    clear hf
    go_enter Tryd.func7, Tryd.ntmps7
    go_wp2_with fail
    refine (fits8_any [s] _ _ _ _ rfl (by simp) (strs1' (by simp)) (sizes1 (by omega))).mono ?_
    rintro e w1 ⟨rfl, rfl⟩
    rw [H.out]
    go_wp2_with fail
    go_ret
    exact ⟨rfl, (Below.refl _ _).alloc (Nat.le_refl _) _⟩
  have hz : s.size ≤ 1000 := by simpa [fitsB] using hf
  have H := Lib.hid hf
  clear hf
  go_enter Tryd.func7, Tryd.ntmps7
  go_wp2_with fail
  refine (fits8_any [s] _ _ _ _ rfl (by simp) (strs1' (by simp)) (sizes1 (by omega))).mono ?_
  rintro e w1 ⟨rfl, rfl⟩
  rw [H.out]
  obtain ⟨W, hW⟩ : ∃ W, W = w.alloc (.cells #[.string s] 9) := ⟨_, rfl⟩
  have hb0 : Below w.heap.size w W := by rw [hW]; exact (Below.refl _ _).alloc (Nat.le_refl _) _
  rw [← hW]
  have HB0 := Lib.hid hb0
  clear hW hb0
  go_wp2_with fail
  go_loopw [17] (fun t wr => ∃ k : Nat, t = .int .i64 k ∧ k ≤ s.size ∧ (∀ j (h : j < s.size), j < k → 32 ≤ (s[j]'h).toNat ∧ (s[j]'h).toNat ≤ 126 ∧ (s[j]'h).toNat ≠ 34 ∧ (s[j]'h).toNat ≠ 92) ∧ wr = W) (fun t _ => s.size - (intOf t).toNat)
  case atStart => exact ⟨0, rfl, Nat.zero_le _, fun j _ h => absurd h (Nat.not_lt_zero _), rfl⟩
  case round =>
    obtain ⟨k, rfl, hk, hall, rfl⟩ := hrel
    have HA := Lib.hid hall
    clear hall
    by_cases hk2 : k < s.size
    · have hk0 : (0 : Int) ≤ (k : Int) := by omega
      have hk1 : (k : Int) < (s.size : Int) := by omega
      obtain ⟨a, ha⟩ : ∃ a : Nat, (s[k]'hk2).toNat = a := ⟨_, rfl⟩
      by_cases a1 : a < 32
      · have b1 : (a : Int) < 32 := by omega
        go_wp2_with fail
        go_ret
        exact ⟨rfl, HB0.out⟩
      · have b1 : ¬ (a : Int) < 32 := by omega
        by_cases a2 : 126 < a
        · have b2 : (126 : Int) < (a : Int) := by omega
          go_wp2_with fail
          go_ret
          exact ⟨rfl, HB0.out⟩
        · have b2 : ¬ (126 : Int) < (a : Int) := by omega
          by_cases a3 : a = 34
          · subst a3
            go_wp2_with fail
            go_ret
            exact ⟨rfl, HB0.out⟩
          · have b3 : ((a : Int) == 34) = false := by rw [beq_eq_false_iff_ne]; omega
            by_cases a4 : a = 92
            · subst a4
              go_wp2_with fail
              go_ret
              exact ⟨rfl, HB0.out⟩
            · have b4 : ((a : Int) == 92) = false := by rw [beq_eq_false_iff_ne]; omega
              have HC := Lib.hid ha
              go_wp2_with fail
              refine ⟨⟨k + 1, by simp, by omega, fun j h hj => ?_, trivial⟩, by simp only [intOf]; omega⟩
              by_cases e : j = k
              · subst e
                rw [HC.out]
                exact ⟨by omega, by omega, a3, a4⟩
              · exact HA.out j h (by omega)
    · obtain rfl : k = s.size := by omega
      have hp : Plain s.data.toList := by
        intro c hc
        obtain ⟨j, hj, rfl⟩ := List.getElem_of_mem hc
        exact HA.out j (by rw [size_eq] at hj; exact hj) (by rw [size_eq] at hj; exact hj)
      have HP := Lib.hid hp
      clear hp
      obtain ⟨q1, hq1⟩ : ∃ q1 : ByteArray, (⟨#[34]⟩ : ByteArray) ++ s = q1 := ⟨_, rfl⟩
      obtain ⟨q, hq⟩ : ∃ q : ByteArray, q1 ++ (⟨#[34]⟩ : ByteArray) = q := ⟨_, rfl⟩
      have hql : q.data.toList = [34] ++ s.data.toList ++ [34] := by rw [← hq, ← hq1, data_append, data_append]
      have hq1s : q1.size ≤ 2000 := by rw [← size_eq, ← hq1, data_append]; simp; omega
      have hqe : (q.toList == q.toList) = true := by rw [beq_iff_eq]
      have hse : (s.toList == s.toList) = true := by rw [beq_iff_eq]
      have hbig1 : ¬ 9223372036854775807 < 1 + s.size := by omega
      have hbig2 : ¬ 9223372036854775807 < q1.size + 1 := by omega
      have HQ := Lib.hid hql
      clear hql
      go_wp2_with fail
      refine (implQuote_any f s q HQ.out _ (HT.out.below HB0.out h0s) (by omega) HP.out).mono ?_
      rintro e w2 ⟨b2, rfl⟩
      have B2 := Lib.hid b2
      clear b2
      go_wp2_with fail
      refine (implUnquote_any s q HQ.out _ (by omega) HP.out).mono ?_
      rintro e w3 ⟨b3, rfl⟩
      have B3 := Lib.hid b3
      clear b3
      go_wp2_with fail
      go_ret
      exact ⟨rfl, below_step (below_step HB0.out B2.out) B3.out⟩

end Go.Proofs.YtjjbgoknmofajaaDoor.QuotePlain
