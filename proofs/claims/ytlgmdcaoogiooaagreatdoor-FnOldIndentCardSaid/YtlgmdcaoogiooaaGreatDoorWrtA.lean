/- The reference's text of an array. -/
import Derived.Test.YtlgmdcaoogiooaaGreatDoorWrt
namespace Go.Proofs.YtlgmdcaoogiooaaGreatDoor.Sty
open Go.RowKit Go.Proofs.YtlgmdcaoogiooaaGreatDoor Go.Proofs.YtlgmdcaoogiooaaGreatDoor.Ind

theorem el_text : El16 Tryz.prog 38 9 (.string ⟨#[]⟩) := ⟨by kernel_rfl, by kernel_rfl, rfl⟩

/-- The parts so far. -/
def Parts (L : List (List UInt8)) (k : Nat) (ss : List ByteArray) : Prop := ss.length = k ∧ ss.map (·.data.toList) = L.take k

theorem Parts.push {L : List (List UInt8)} {k : Nat} {ss : List ByteArray} (h : Parts L k ss) {t : ByteArray} (ht : L[k]? = some t.data.toList) : Parts L (k + 1) (ss ++ [t]) := by
  obtain ⟨hk, he⟩ := List.getElem?_eq_some_iff.1 ht
  refine ⟨by simp [h.1], ?_⟩
  rw [take_snoc L k hk, List.map_append, h.2, he]
  rfl

/-- The end: the parts between two brackets. -/
theorem parts_done (p i : ByteArray) (hp : p.size ≤ 16) (hi : i.size ≤ 16) (a b : UInt8) (d : Nat) (hd : d ≤ 1500) (n B : Nat) (hn : n ≤ 1000) (L : List (List UInt8)) (hL : L.length = n) (ss : List ByteArray) (hs : Parts L n ss) (v : Value) (w : World) (hv : w.ownsRow B 9 1 v n (ss.map .string))
    (hl : (within p.data.toList i.data.toList a b (d : Int) L).length ≤ 50000000) :
    Calls Tryz.prog 23 #[styl p i, v, .string ⟨#[a]⟩, .string ⟨#[b]⟩, .int .i64 (d : Int)] w fun e w' => (∃ t : ByteArray, e = .returned (.string t) ∧ t.data.toList = within p.data.toList i.data.toList a b (d : Int) L) ∧ Below w.heap.size w w' := by
  have hsL : ss.map (·.data.toList) = L := by rw [hs.2, List.take_of_length_le (by omega)]
  by_cases h0 : n = 0
  · subst h0
    have hL0 : L = [] := List.eq_nil_of_length_eq_zero hL
    subst hL0
    obtain ⟨pa, pc, rfl⟩ : ∃ x c, v = .slice x 0 c := ownsRow_slice hv
    exact within_none p i pa pc a b d w
  · obtain ⟨g, c, rfl, _, hg, hc⟩ := row_cell hv (by omega)
    rw [← hsL] at hl ⊢
    refine within_any p i hp hi g n c ss hs.1.symm (by omega) (by omega) a b d hd w (fun j hj => ?_) hg hl (fun s hm => ?_)
    · rw [hc j (by rw [← hs.1]; exact hj), List.getElem?_map, List.getElem?_eq_getElem hj]
      rfl
    · obtain ⟨k, hk, he⟩ := List.mem_iff_getElem.1 hm
      have := within_part p.data.toList i.data.toList a b (d : Int) _ k s.data.toList (by rw [List.getElem?_map, List.getElem?_eq_getElem hk, he]; rfl)
      rw [size_eq] at this
      omega

set_option maxRecDepth 100000 in
set_option maxHeartbeats 1000000 in
theorem wr_arrs (p i : ByteArray) (hp : p.size ≤ 16) (hi : i.size ≤ 16) (h : Nat) (text : ByteArray) (names : List ByteArray) (kids : List Tr) (hk : kids.length ≤ 1000) (hK : ∀ (k : Nat) (T : Tr), kids[k]? = some T → WrOk p i h T) : WrOk p i (h + 1) (.mk 91 text names kids) := by
  intro w D c0 c1 c2 c3 d hrep hD hd hl
  rw [wr_arr] at hl ⊢
  cases hrep with
  | mk h1 h2 h3 h4 h5 =>
  rename_i cells
  obtain ⟨n, hn⟩ : ∃ n, n = kids.length := ⟨_, rfl⟩
  rw [← hn] at h3 hk
  obtain ⟨ka, kc, rfl⟩ : ∃ a c, c3 = .slice a n c := ownsRow_slice h3
  obtain ⟨W1, hW1⟩ : ∃ W1, W1 = (w.alloc (.cells #[.bool false, .bool false, .bool false, .bool false, .bool true, .bool false, .bool false, .bool false, .bool true, .bool true, .bool false, .string i, .string p] 32)).alloc (.cells #[.int .u8 91, .string text, c2, .slice ka n kc] 41) := ⟨_, rfl⟩
  have hz1 : W1.heap.size = w.heap.size + 1 + 1 := by rw [hW1]; simp
  have B1 := Lib.hid (show Below w.heap.size w W1 by rw [hW1]; exact ((Below.refl _ _).alloc (Nat.le_refl _) _).alloc (by simp) _)
  have hst : W1.heap[w.heap.size]? = some (.cells #[.bool false, .bool false, .bool false, .bool false, .bool true, .bool false, .bool false, .bool false, .bool true, .bool true, .bool false, .string i, .string p] 32 (0, 0)) := by
    rw [hW1, Below.heap_alloc _ _ _ (by simp)]
    exact heap_alloc_new w _
  have HST := Lib.hid hst
  have HW1 := Lib.hid hW1
  have HZ1 := Lib.hid hz1
  obtain ⟨L, hL⟩ : ∃ L, L = wrK p.data.toList i.data.toList kids ((d : Int) + 1) := ⟨_, rfl⟩
  rw [← hL] at hl ⊢
  have HLL := Lib.hid (show L.length = n by rw [hL, wrK_len, hn])
  have HL := Lib.hid hL
  have HLEN := Lib.hid hl
  have H3 := Lib.hid h3
  have H4 := Lib.hid h4
  have H5 := Lib.hid h5
  have HD := Lib.hid hD
  have HN := Lib.hid hn
  have HKK := Lib.hid hK
  clear hW1 hz1 hst hL hl h1 h2 h3 h4 h5 hD hn hK
  rw [show (((91 : Nat)) : Int) = 91 from rfl]
  unfold styl
  go_enter Tryz.func11, Tryz.ntmps11
  go_wp2_with fail
  rw [← HW1.out]
  go_loopw [7, 59] (fun v j wr => Below W1.heap.size W1 wr ∧ ∃ (k : Nat) (ss : List ByteArray), j = .int .i64 (k : Int) ∧ k ≤ n ∧ Parts L k ss ∧ wr.ownsRow W1.heap.size 9 1 v k (ss.map .string)) (fun _ j _ => n - (intOf j).toNat)
  case atStart =>
    exact ⟨(Below.refl _ _).alloc (Nat.le_refl _) _, 0, [], rfl, Nat.zero_le _, ⟨rfl, rfl⟩, rfl, .inr ⟨W1.heap.size, 0, #[], by rw [HZ1.out], Nat.le_refl _, heap_alloc_new W1 _, Nat.le_refl _, Nat.zero_le _, rfl, rfl⟩⟩
  case round =>
    obtain ⟨hb, k, ss, rfl, hkn, hpt, hv⟩ := hrel
    have HB := Lib.hid hb
    have HV := Lib.hid hv
    have HP := Lib.hid hpt
    by_cases hlt : k < n
    · obtain ⟨T, hT⟩ : ∃ T, kids[k]? = some T := ⟨_, List.getElem?_eq_getElem (by rw [← HN.out]; exact hlt)⟩
      obtain ⟨g, c, v0, v1, v2, v3, hkv, hg, hr, q0, q1, q2, q3⟩ := kid_cells H3.out hlt (H5.out k T hT)
      obtain ⟨rfl, rfl⟩ : ka = some ⟨g, 0, none⟩ ∧ kc = c := by cases hkv; exact ⟨rfl, rfl⟩
      obtain ⟨kd, tx, a1, n1, x1, a2, n2, x2, rfl, rfl, rfl, rfl⟩ := rep_form hr
      have hz := HZ1.out
      have hgb : wr.heap[g]? = w.heap[g]? := (hb.block g (by omega)).trans (B1.out.block g hg)
      have e0 := (cell_of_heap hgb (k * 4)).trans q0
      have e1 := (cell_of_heap hgb (k * 4 + 1)).trans q1
      have e2 := (cell_of_heap hgb (k * 4 + 2)).trans q2
      have e3 := (cell_of_heap hgb (k * 4 + 3)).trans q3
      have hrow := (hb.block w.heap.size (by omega)).trans HST.out
      have c0 := cell_of_row wr w.heap.size 0 _ _ _ hrow
      have c1 := cell_of_row wr w.heap.size 1 _ _ _ hrow
      have c2 := cell_of_row wr w.heap.size 2 _ _ _ hrow
      have c3 := cell_of_row wr w.heap.size 3 _ _ _ hrow
      have c4 := cell_of_row wr w.heap.size 4 _ _ _ hrow
      have c5 := cell_of_row wr w.heap.size 5 _ _ _ hrow
      have c6 := cell_of_row wr w.heap.size 6 _ _ _ hrow
      have c7 := cell_of_row wr w.heap.size 7 _ _ _ hrow
      have c8 := cell_of_row wr w.heap.size 8 _ _ _ hrow
      have c9 := cell_of_row wr w.heap.size 9 _ _ _ hrow
      have c10 := cell_of_row wr w.heap.size 10 _ _ _ hrow
      have c11 := cell_of_row wr w.heap.size 11 _ _ _ hrow
      have c12 := cell_of_row wr w.heap.size 12 _ _ _ hrow
      have hLk : L[k]? = some (Ind.wr p.data.toList i.data.toList T ((d : Int) + 1)) := by rw [HL.out, wrK_get, hT]; rfl
      have hlk := within_part p.data.toList i.data.toList 91 93 (d : Int) L k _ hLk
      have WK := Lib.hid (fun (W : World) (hbw : Below W1.heap.size W1 W) (hsz : W1.heap.size ≤ W.heap.size) => show Calls Tryz.prog 11 #[styl p i, .agg #[.int .u8 (kd : Int), .string tx, .slice a1 n1 x1, .slice a2 n2 x2], .int .i64 ((d : Int) + 1)] W fun e w' => (∃ t : ByteArray, e = .returned (.string t) ∧ L[k]? = some t.data.toList) ∧ Below W.heap.size W w' by
        have h1 := HKK.out k T hT W D _ _ _ _ (d + 1) (hr.frame (w' := W) (fun g hg => (hbw.block g (by have := HD.out g hg; omega)).trans (B1.out.block g (HD.out g hg))) (fun g hg => hg)) (fun g hg => by have := HD.out g hg; omega) (by omega) (by rw [show (((d + 1 : Nat)) : Int) = (d : Int) + 1 by omega]; have := HLEN.out; omega)
        rw [show (((d + 1 : Nat)) : Int) = (d : Int) + 1 by omega] at h1
        exact h1.mono fun e w' ⟨⟨t, e1, e2⟩, e3⟩ => ⟨⟨t, e1, by rw [hLk, e2]⟩, e3⟩)
      have hgr : g < wr.heap.size := by have := hb.size; omega
      have hsr : w.heap.size < wr.heap.size := by have := hb.size; omega
      have y0 : ¬ wr.heap.size = w.heap.size := by omega
      have y1 : ¬ w.heap.size = wr.heap.size := by omega
      have kk0 : (0 : Int) ≤ (k : Int) := by omega
      have kk1 : (k : Int) < (n : Int) := by omega
      have hszr : W1.heap.size ≤ wr.heap.size := hb.size
      have HROW := Lib.hid hrow
      clear hb hv hpt hT q0 q1 q2 q3 hr hgb hrow hz hLk hlk
      go_wp2_with fail
      refine (WK.out _ (HB.out.alloc hszr _) (by simp; omega)).mono ?_
      rintro e w2 ⟨⟨t, rfl, ht⟩, hb2⟩
      have hbw := HB.out.trans (((Below.refl _ wr).alloc (Nat.le_refl _) (.cells #[.int .u8 (kd : Int), .string tx, .slice a1 n1 x1, .slice a2 n2 x2] 41)).mono hszr |>.trans (hb2.mono (by simp; omega)))
      have HBW := Lib.hid hbw
      have HT := Lib.hid ht
      have HV2 := Lib.hid (ownsRow_same HV.out (fun g hg => (hb2.block g (by have := (ownsRow_at HV.out g hg).2; simp; omega)).trans (Below.heap_alloc wr _ g (ownsRow_at HV.out g hg).2)))
      have hsz2 : W1.heap.size ≤ w2.heap.size := hbw.size
      have hk6 : k < 1000000 := by omega
      clear ht hb2 hbw
      go_wp2_with (at_builtin; refine wpList_pushS el_text rfl (.tmp 63) (.tmp 69) rfl W1.heap.size k (ss.map .string) (HV2.out.alloc _) (by rfl) ⟨w2.heap.size, 0, none⟩ 1 (.string t) (by rfl) (one_new w2 _ _) (by intro u hu; simp at hu; subst hu; rfl) hk6 (by simp; omega) ?_; intro q cap3 w3 own3 grow3 at3; have OWN3 := Lib.hid own3; have B3 := Lib.hid (below_push HBW.out hsz2 _ HV2.out grow3); clear own3 grow3 at3)
      go_roundw
      case rel => exact ⟨B3.out, k + 1, ss ++ [t], by simp, by omega, HP.out.push HT.out, by rw [List.map_append]; exact OWN3.out⟩
      case measure => simp only [intOf]; omega
    · obtain rfl : k = n := by omega
      have hz := HZ1.out
      have hrow := (hb.block w.heap.size (by omega)).trans HST.out
      have c0 := cell_of_row wr w.heap.size 0 _ _ _ hrow
      have c1 := cell_of_row wr w.heap.size 1 _ _ _ hrow
      have c2 := cell_of_row wr w.heap.size 2 _ _ _ hrow
      have c3 := cell_of_row wr w.heap.size 3 _ _ _ hrow
      have c4 := cell_of_row wr w.heap.size 4 _ _ _ hrow
      have c5 := cell_of_row wr w.heap.size 5 _ _ _ hrow
      have c6 := cell_of_row wr w.heap.size 6 _ _ _ hrow
      have c7 := cell_of_row wr w.heap.size 7 _ _ _ hrow
      have c8 := cell_of_row wr w.heap.size 8 _ _ _ hrow
      have c9 := cell_of_row wr w.heap.size 9 _ _ _ hrow
      have c10 := cell_of_row wr w.heap.size 10 _ _ _ hrow
      have c11 := cell_of_row wr w.heap.size 11 _ _ _ hrow
      have c12 := cell_of_row wr w.heap.size 12 _ _ _ hrow
      have hsr : w.heap.size < wr.heap.size := by have := hb.size; omega
      clear hb hv hpt hrow hz
      go_wp2_with fail
      refine (parts_done p i hp hi 91 93 d (by omega) k W1.heap.size hk L HLL.out ss HP.out _ _ HV.out HLEN.out).mono ?_
      rintro e w2 ⟨⟨t, rfl, ht⟩, hb2⟩
      have HT := Lib.hid ht
      have HB2 := Lib.hid hb2
      clear ht hb2
      go_wp2_with fail
      go_ret
      exact ⟨⟨t, rfl, HT.out⟩, B1.out.trans ((below_step HB.out HB2.out).mono (by have := HZ1.out; omega))⟩

end Go.Proofs.YtlgmdcaoogiooaaGreatDoor.Sty
