/- The law of OldIndent: the walk. -/
import Derived.Test.YtlgmdcaoogiooaaGreatDoorOldW
namespace Go.Proofs.YtlgmdcaoogiooaaGreatDoor.IndLaw
open Go.RowKit Go.Proofs.YtlgmdcaoogiooaaGreatDoor Go.Proofs.YtlgmdcaoogiooaaGreatDoor.Ind Go.Proofs.YtlgmdcaoogiooaaGreatDoor.Sty

theorem joined {g t r s : ByteArray} {v : Nat} {a b : List UInt8} (hg : g.data.toList = t.data.toList ++ (a ++ b)) (hr : r.data.toList = a) (hb : b = s.data.toList.drop v) (_ : v ≤ s.size) : g = (t ++ r) ++ s.extract v s.size := by
  exact bytes_ext (by rw [hg, data_append, data_append, hr, hb, extract_list, List.append_assoc])

set_option maxRecDepth 100000 in
set_option maxHeartbeats 2000000 in
theorem walk (t s p i : ByteArray) (wt : t.size ≤ maxLen) (ws : s.size ≤ maxLen) (wp : p.size ≤ maxLen) (wi : i.size ≤ maxLen) (w : World) :
    Calls Tryz.prog 3 #[.string t, .string s, .string p, .string i] w fun e w' => e = .returned (.bool true) ∧ Below w.heap.size w w' := by
  unfold maxLen at wt ws wp wi
  by_cases h1 : 2147483647 < t.size
  · go_enter Tryz.func3, Tryz.ntmps3
    go_wp2
    go_ret
    exact ⟨rfl, Below.refl _ _⟩
  by_cases h2 : 2147483647 < s.size
  · go_enter Tryz.func3, Tryz.ntmps3
    go_wp2
    go_ret
    exact ⟨rfl, Below.refl _ _⟩
  by_cases h3 : 2147483647 < p.size
  · go_enter Tryz.func3, Tryz.ntmps3
    go_wp2
    go_ret
    exact ⟨rfl, Below.refl _ _⟩
  by_cases h4 : 2147483647 < i.size
  · go_enter Tryz.func3, Tryz.ntmps3
    go_wp2
    go_ret
    exact ⟨rfl, Below.refl _ _⟩
  by_cases ht : t.size ≤ 1000 ∧ s.size ≤ 1000
  case neg =>
    have hF : fitsB [t, s] = false := by
      by_cases h5 : t.size ≤ 1000
      · exact fitsB_false 1 (by simp) (by show 1000 < s.size; omega)
      · exact fitsB_false 0 (by simp) (by show 1000 < t.size; omega)
    have HF := Lib.hid hF
    clear hF ht
    go_enter Tryz.func3, Tryz.ntmps3
    go_wp2_with fail
    refine (fits8_any [t, s] _ _ _ _ rfl (by simp) (strs2 _ _ _ _) (sizes2 (by omega) (by omega))).mono ?_
    rintro e w1 ⟨rfl, rfl⟩
    rw [HF.out]
    go_wp2_with fail
    go_ret
    exact ⟨rfl, (Below.refl _ w).alloc (Nat.le_refl _) _⟩
  obtain ⟨ht, hs⟩ := ht
  have hF : fitsB [t, s] = true := fitsB_true (fun j hj => by
    match j, hj with
    | 0, _ => exact ht
    | 1, _ => exact hs)
  have HF := Lib.hid hF
  clear hF
  have BA := Lib.hid (show ∀ o, Below w.heap.size w (w.alloc o) from fun o => (Below.refl _ w).alloc (Nat.le_refl _) o)
  by_cases hp : 16 < p.size
  · go_enter Tryz.func3, Tryz.ntmps3
    go_wp2_with fail
    refine (fits8_any [t, s] _ _ _ _ rfl (by simp) (strs2 _ _ _ _) (sizes2 (by omega) (by omega))).mono ?_
    rintro e w1 ⟨rfl, rfl⟩
    rw [HF.out]
    go_wp2_with fail
    go_ret
    exact ⟨rfl, BA.out _⟩
  by_cases hi : 16 < i.size
  · go_enter Tryz.func3, Tryz.ntmps3
    go_wp2_with fail
    refine (fits8_any [t, s] _ _ _ _ rfl (by simp) (strs2 _ _ _ _) (sizes2 (by omega) (by omega))).mono ?_
    rintro e w1 ⟨rfl, rfl⟩
    rw [HF.out]
    go_wp2_with fail
    go_ret
    exact ⟨rfl, BA.out _⟩
  go_enter Tryz.func3, Tryz.ntmps3
  go_wp2_with fail
  refine (fits8_any [t, s] _ _ _ _ rfl (by simp) (strs2 _ _ _ _) (sizes2 (by omega) (by omega))).mono ?_
  rintro e w1 ⟨rfl, rfl⟩
  rw [HF.out]
  have B1 := Lib.hid (BA.out (.cells #[.string t, .string s] 9))
  go_wp2_with fail
  refine (wide_any p i _).mono ?_
  rintro e w2 ⟨rfl, hb2⟩
  have B2 := Lib.hid (below_step B1.out hb2)
  clear hb2
  (try unfold styl)
  go_wp2_with fail
  refine (old_any s p i hs (by omega) (by omega) _).mono ?_
  rintro e w3 ⟨⟨r, f, q, rfl, hgood, hbad⟩, hb3⟩
  have B3 := Lib.hid (below_step B2.out hb3)
  have HG := Lib.hid hgood
  have HBD := Lib.hid hbad
  clear hb3 hgood hbad
  obtain ⟨W4, hW4⟩ : ∃ W4, W4 = w3.alloc (.cells #[.int .i64 f, .int .i64 ((q : Nat) : Int), .bool false] 24) := ⟨_, rfl⟩
  have HW4 := Lib.hid hW4
  have O4 := Lib.hid (show W4.heap[w3.heap.size]? = some (.cells #[.int .i64 f, .int .i64 ((q : Nat) : Int), .bool false] 24 (0, 0)) by rw [hW4]; exact heap_alloc_new w3 _)
  have B4 := Lib.hid (show Below w.heap.size w W4 by rw [hW4]; exact B3.out.alloc B3.out.size _)
  have hs4 : w3.heap.size < W4.heap.size := by rw [hW4]; simp
  clear hW4
  go_wp2_with fail
  (try rw [← HW4.out])
  refine (oldIndent_any t s p i _ ht hs (by omega) (by omega)).mono ?_
  rintro e w5 hres
  obtain ⟨g, x, rfl, hw⟩ := hres.what
  have B5 := Lib.hid (below_step B4.out hres.below)
  have o5 := (hres.below.block _ hs4).trans O4.out
  have c0 := cell_of_row w5 w3.heap.size 0 _ _ _ o5
  obtain ⟨er, her⟩ : ∃ er, (scanAll newCfg 0 s.data.toList).2.er = er := ⟨_, rfl⟩
  rw [her] at hw ⊢
  have hfin : fin gStart 0 s.data.toList = er := her
  clear her hres o5
  by_cases he : er = none
  · have hf : f = 0 := Classical.byContradiction fun hf => HBD.out hf (hfin.trans he)
    subst hf
    obtain ⟨_, v, T, hv, hm, hr⟩ := HG.out rfl
    have hg := hw he
    rw [ind_tree hv hm] at hg
    obtain ⟨hv0, hv1, _⟩ := val_good hs hv
    have hgg : g = (t ++ r) ++ s.extract v s.size := joined hg hr rfl hv1
    have hlen : r.size ≤ 50000000 := by
      have := wr_len hs hv hm p.data.toList i.data.toList (by rw [size_eq]; omega) (by rw [size_eq]; omega)
      rw [← hr, size_eq] at this
      exact this
    have TR := Lib.hid (trailing_any s hs v (val_last hv) hm hv1)
    have hb1 : t.size + r.size ≤ 9223372036854775807 := by omega
    have hb2 : t.size + r.size + (s.extract v s.size).size ≤ 9223372036854775807 := by rw [ByteArray.size_extract]; omega
    have hb1i : ¬ (9223372036854775807 < t.size + r.size) := by omega
    have hb2i : ¬ (9223372036854775807 < (t ++ r).size + (s.extract v s.size).size) := by rw [ByteArray.size_append]; omega
    rw [decide_eq_true he]
    subst hgg
    clear hw hg hr hm hv he hfin hv0
    go_wp2_with (go_at_call 8; refine (TR.out _).mono ?_; rintro e w6 ⟨rfl, hb6⟩; have B6 := Lib.hid (below_step B5.out hb6); clear hb6)
    go_ret
    exact ⟨rfl, B6.out⟩
  · have hf : f ≠ 0 := fun hf => he (hfin.symm.trans (HG.out hf).1)
    have hf2 : (f == 0) = false := by rw [beq_eq_false_iff_ne]; exact hf
    rw [decide_eq_false he]
    clear hw hfin he hf
    go_wp2_with fail
    go_ret
    exact ⟨rfl, B5.out⟩

end Go.Proofs.YtlgmdcaoogiooaaGreatDoor.IndLaw
