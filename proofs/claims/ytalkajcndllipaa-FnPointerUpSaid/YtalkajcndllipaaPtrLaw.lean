/- A token behind a pointer: the law. -/
import Derived.Test.YtalkajcndllipaaPtrApp
import Derived.Test.YtalkajcndllipaaShort
namespace Go.Proofs.Ytalkajcndllipaa
open Go.RowKit

/-- What has been made since w. -/
structure Made (w wr : World) (v : Value) (l : List UInt8) : Prop where
  own : Own wr v l
  below : Below w.heap.size w wr
  pos : ∀ a, baseOf v = some a → w.heap.size ≤ a.block

theorem Made.app {w wr w1 : World} {v v1 : Value} {l l' : List UInt8} (h : Made w wr v l) (k : AppTo wr v w1 v1 l') : Made w w1 v1 l' :=
  ⟨k.own, h.below.trans (k.kept.below h.below.size h.pos), fun a ha => by
    rcases k.pos with e | e
    · exact h.pos a (e ▸ ha)
    · exact Nat.le_trans h.below.size (e a ha)⟩

theorem string32 : Try.prog.underlying 32 = some .string := by kernel_rfl

/-- A text that a call returns. -/
structure Str (w : World) (l : List UInt8) (e : Ending) (w' : World) : Prop where
  below : Below w.heap.size w w'
  what : e = .returned (.string ⟨l.toArray⟩)

set_option maxRecDepth 100000 in
set_option maxHeartbeats 1000000 in
theorem appendToken_any (p s : ByteArray) (w : World) (hp : p.size ≤ 50000) (hs : s.size ≤ 4000) (ht : Text s.data.toList) :
    Calls Try.prog 19 #[.string p, .string s] w (Str w (p.data.toList ++ 47 :: esc s.data.toList)) := by
  have HT := Lib.hid ht
  clear ht
  have hps : (p ++ ⟨#[47]⟩ : ByteArray).size = p.size + 1 := by simp [ByteArray.size_append]; rfl
  have hpl : (p ++ ⟨#[47]⟩ : ByteArray).data.toList = p.data.toList ++ [47] := data_append _ _
  obtain ⟨q, hq⟩ : ∃ q : ByteArray, q = p ++ ⟨#[47]⟩ := ⟨_, rfl⟩
  rw [← hq] at hps hpl
  have HL := Lib.hid hpl
  have HQ := Lib.hid hq
  clear hpl hq
  go_enter Try.func19, Try.ntmps19
  go_wp2_with (first
    | (refine wpList_conv u8r rfl (.tmp 6) 32 rfl string32 rfl (by rw [← HQ.out]; unfold maxLen; omega) ?_; intro c1 w1 o1 b1 z1; rw [← HQ.out] at o1; have O1 := Lib.hid o1; have B1 := Lib.hid b1; have Z1 := Lib.hid z1; clear o1 z1 b1)
    | (refine wpList_conv u8r rfl (.tmp 8) 9 rfl string9r rfl (by unfold maxLen; omega) ?_; intro c2 w2 o2 b2 z2; have O2 := Lib.hid o2; have B2 := Lib.hid b2; have Z2 := Lib.hid z2; clear o2 z2 b2))
  have hown : Own w2 (.slice (some ⟨w.heap.size, 0, none⟩) (p.size + 1) c1) (p.data.toList ++ [47]) := by
    have := O1.out.below B2.out (fun a ha => by
      simp [baseOf] at ha
      subst ha
      have := Z1.out
      show w.heap.size < w1.heap.size
      omega)
    rw [hps, HL.out] at this
    exact this
  have hsl := O2.out.slice
  refine (appendEsc_any _ _ _ _ _ s _ hown (by rw [List.length_append, size_eq]; simp; omega) hsl.1 hsl.2.2.2.2 hs HT.out).mono ?_
  rintro e w3 ⟨v3, rfl, k3⟩
  have hb : Below w.heap.size w w3 := by
    refine (below_step B1.out B2.out).trans (k3.kept.below (by have := (below_step B1.out B2.out).size; exact this) (fun a ha => ?_))
    simp [baseOf] at ha
    subst ha
    exact Nat.le_refl _
  have K3 := Lib.hid k3
  have HB := Lib.hid hb
  clear hown hsl k3 hb
  go_wp2_with (refine wpList_toString u8r rfl (.tmp 10) _ rfl string32 rfl K3.out.own ?_)
  go_ret
  exact ⟨HB.out, rfl⟩

theorem pointerAppend_any (p s : ByteArray) (w : World) (hp : p.size ≤ 50000) (hs : s.size ≤ 4000) (ht : Text s.data.toList) :
    Calls Try.prog 10 #[.string p, .string s] w (Str w (p.data.toList ++ 47 :: esc s.data.toList)) := by
  have HT := Lib.hid ht
  clear ht
  go_enter Try.func10, Try.ntmps10
  go_wp2_with fail
  refine (appendToken_any p s _ hp hs HT.out).mono ?_
  rintro e w1 ⟨b1, rfl⟩
  have B1 := Lib.hid b1
  clear b1
  go_wp2_with fail
  go_ret
  exact ⟨B1.out, rfl⟩

/-- Behind k tokens of one. -/
def outAt (s : List UInt8) (k : Nat) : List UInt8 := if k = 0 then [] else 47 :: esc s

theorem escB_lit {c : UInt8} (h1 : c ≠ 126) (h2 : c ≠ 47) : escB c = [c] := by unfold escB; rw [if_neg h1, if_neg h2]

theorem esc_take {l : List UInt8} {k : Nat} (h : k < l.length) : esc (l.take (k + 1)) = esc (l.take k) ++ escB l[k] := by
  rw [List.take_add_one, List.getElem?_eq_getElem h, esc_append]
  simp [esc]

theorem ptrEnd {w wr w2 : World} {v v2 : Value} {s : ByteArray} {j : Nat} {x : List UInt8} (h : Made w wr v (47 :: esc (s.data.toList.take j))) (k : AppTo wr v w2 v2 (47 :: esc (s.data.toList.take j) ++ x))
    (hx : esc (s.data.toList.take (j + 1)) = esc (s.data.toList.take j) ++ x) (hj : j < s.size) :
    (∃ i : Nat, Value.int IntKind.i64 ((j : Int) + 1) = .int .i64 i ∧ i ≤ s.size ∧ Made w w2 v2 (47 :: esc (s.data.toList.take i))) ∧ s.size - (intOf (.int .i64 ((j : Int) + 1))).toNat < s.size - (intOf (.int .i64 (j : Int))).toNat :=
  ⟨⟨j + 1, by simp, by omega, by rw [hx]; exact h.app k⟩, by simp only [intOf]; omega⟩

set_option maxRecDepth 100000 in
set_option maxHeartbeats 2000000 in
theorem pointerOf_any (s : ByteArray) (hs : s.size ≤ 4000) (b cap : Nat) (w : World) (hb : b < w.heap.size) (hc : w.cell? ⟨b, 0, none⟩ = some (.string s)) :
    Calls Try.prog 11 #[.slice (some ⟨b, 0, none⟩) 1 cap] w (Str w (47 :: esc s.data.toList)) := by
  go_enter Try.func11, Try.ntmps11
  go_wp2_with fail
  go_loopw [3, 5, 6, 10] (fun v _ _ i wr => ∃ k, i = .int .i64 (k : Nat) ∧ k ≤ 1 ∧ Made w wr v (outAt s.data.toList k)) (fun _ _ _ i _ => 1 - (intOf i).toNat)
  case atStart =>
    refine ⟨0, rfl, Nat.zero_le _, Own.lit w 5 #[] [] rfl (by simp) _ _ rfl rfl, Below.alloc (Below.refl _ w) (Nat.le_refl _) _, fun a ha => ?_⟩
    cases ha
    exact Nat.le_refl _
  case round =>
    obtain ⟨k, rfl, hk, hm⟩ := hrel
    have HM := Lib.hid hm
    clear hm
    by_cases hk0 : k = 0
    · subst hk0
      have hcr := Below.keep HM.out.below hb hc
      have HC := Lib.hid hc
      clear hc
      go_wp2_with (first
        | (at_builtin
           refine wpList_app u8r rfl (.tmp 14) (.tmp 15) 34 rfl ((AppTo.refl HM.out.own).alloc _) rfl [47] rfl (src_lit u8r wr [47] #[.int .u8 47] rfl 1) (by simp [outAt]) ?_
           intro v1 w1 h1'
           have h1 := Lib.hid h1'
           clear h1'))
      have M1 := Lib.hid (HM.out.app h1.out)
      clear h1
      go_loopw [3, 6, 19] (fun v _ i wr2 => ∃ j, i = .int .i64 (j : Nat) ∧ j ≤ s.size ∧ Made w wr2 v (47 :: esc (s.data.toList.take j))) (fun _ _ i _ => s.size - (intOf i).toNat)
      case atStart => exact ⟨0, rfl, Nat.zero_le _, by simpa [esc, outAt] using M1.out⟩
      case round =>
        obtain ⟨j, rfl, hj, hm⟩ := hrel
        have HJ := Lib.hid hm
        clear hm
        by_cases hj2 : j < s.size
        · have hj3 : j < s.data.toList.length := by rw [size_eq]; exact hj2
          have hjl : (47 :: esc (s.data.toList.take j)).length ≤ 100000 := by
            have := esc_len (s.data.toList.take j)
            rw [List.length_take] at this
            rw [List.length_cons]
            omega
          have HLen := Lib.hid hjl
          have HT := Lib.hid (esc_take hj3)
          have hj0 : (0 : Int) ≤ (j : Int) := by omega
          have hj1 : (j : Int) < (s.size : Int) := by omega
          obtain ⟨c, hcc⟩ : ∃ c : UInt8, s[j]'hj2 = c := ⟨_, rfl⟩
          have HCC := Lib.hid hcc
          clear hjl
          by_cases h126 : c = 126
          · subst h126
            go_wp2_with (first
              | (at_builtin
                 refine wpList_app u8r rfl (.tmp 33) (.tmp 34) 34 rfl ((AppTo.refl HJ.out.own).alloc _) rfl [126, 48] rfl (src_lit u8r _ [126, 48] #[.int .u8 126, .int .u8 48] rfl 2) (by have := HLen.out; simp at this ⊢; omega) ?_
                 intro v2 w2 h2'
                 have h2 := Lib.hid h2'
                 clear h2'))
            exact ptrEnd HJ.out h2.out (HT.out.trans (by rw [show s.data.toList[j] = 126 from HCC.out]; rfl)) hj2
          · by_cases h47 : c = 47
            · subst h47
              go_wp2_with (first
                | (at_builtin
                   refine wpList_app u8r rfl (.tmp 38) (.tmp 39) 34 rfl ((AppTo.refl HJ.out.own).alloc _) rfl [126, 49] rfl (src_lit u8r _ [126, 49] #[.int .u8 126, .int .u8 49] rfl 2) (by have := HLen.out; simp at this ⊢; omega) ?_
                   intro v2 w2 h2'
                   have h2 := Lib.hid h2'
                   clear h2'))
              exact ptrEnd HJ.out h2.out (HT.out.trans (by rw [show s.data.toList[j] = 47 from HCC.out]; rfl)) hj2
            · have n126 : (((c.toNat : Nat) : Int) == 126) = false := u8_ne (d := 126) h126
              have n47 : (((c.toNat : Nat) : Int) == 47) = false := u8_ne (d := 47) h47
              go_wp2_with (first
                | (at_builtin
                   refine wpList_app u8r rfl (.tmp 25) (.tmp 29) 34 rfl ((AppTo.refl HJ.out.own).alloc _) rfl [c] rfl (src_lit u8r _ [c] #[.int .u8 ((c.toNat : Nat) : Int)] rfl 1) (by have := HLen.out; simp at this ⊢; omega) ?_
                   intro v2 w2 h2'
                   have h2 := Lib.hid h2'
                   clear h2'))
              exact ptrEnd HJ.out h2.out (HT.out.trans (by rw [show s.data.toList[j] = c from HCC.out, escB_lit h126 h47])) hj2
        · obtain rfl : j = s.size := by omega
          have hE := HJ.out
          rw [← size_eq, List.take_length] at hE
          have HE := Lib.hid hE
          clear HJ hE
          go_wp2_with fail
          exact ⟨⟨1, by simp, by omega, HE.out⟩, by simp [intOf]⟩
    · obtain rfl : k = 1 := by omega
      go_wp2_with (refine wpList_toString u8r rfl (.tmp 43) _ rfl string9r rfl HM.out.own ?_)
      go_ret
      exact ⟨HM.out.below, rfl⟩

end Go.Proofs.Ytalkajcndllipaa
