/- The law 'a string of which first a part is there is read as the whole is': its walk. -/
import Derived.Test.YtifemmjblamfkaaDoorStrA
import Derived.Test.YtifemmjblamfkaaDoorShort
namespace Go.Proofs.YtifemmjblamfkaaDoor.StrPieces
open Go.RowKit Go.Proofs.YtifemmjblamfkaaDoor.Wire

theorem wire10_any (n how due came : Int) (h : (came = 0 ∧ how = 0 ∧ n = due) ∨ (came ≠ 0 ∧ how = 1) ∨ (came = 2 ∧ how = 2)) (w : World) :
    Calls Tryd.prog 8 #[.int .i64 n, .int .i64 how, .int .i64 due, .int .i64 came] w fun e w' => e = .returned (.bool true) ∧ w' = w := by
  rcases h with ⟨rfl, rfl, rfl⟩ | ⟨h, rfl⟩ | ⟨rfl, rfl⟩
  · go_enter Tryd.func8, Tryd.ntmps8
    go_wp2
    go_ret
    exact ⟨rfl, rfl⟩
  · have hc : (came == 0) = false := by rw [beq_eq_false_iff_ne]; exact h
    go_enter Tryd.func8, Tryd.ntmps8
    go_wp2
    all_goals
      go_ret
      exact ⟨rfl, rfl⟩
  · go_enter Tryd.func8, Tryd.ntmps8
    go_wp2
    go_ret
    exact ⟨rfl, rfl⟩

theorem agree_wire {r : Bool × Nat} {q : Nat × Nat} {len : Nat} (h : SAgree len r q) :
    (headHow len r = 0 ∧ ((q.2 : Nat) : Int) = 0 ∧ ((q.1 : Nat) : Int) = headS r) ∨ (headHow len r ≠ 0 ∧ ((q.2 : Nat) : Int) = 1) ∨ (headHow len r = 2 ∧ ((q.2 : Nat) : Int) = 2) := by
  obtain ⟨ok, k⟩ := r
  obtain ⟨n, c⟩ := q
  rcases h with ⟨h1, h2, h3⟩ | ⟨h1, h2⟩ | ⟨h1, h2, h3⟩
  · have h1 : c = 0 := h1
    have h2 : ok = true := h2
    have h3 : n = k + 1 := h3
    subst h1 h2 h3
    exact .inl ⟨rfl, rfl, rfl⟩
  · have h1 : c = 1 := h1
    have h2 : ok = false := h2
    subst h1 h2
    refine .inr (.inl ⟨?_, rfl⟩)
    unfold headHow
    simp only [Bool.false_eq_true, if_false]
    split <;> omega
  · have h1 : c = 2 := h1
    have h2 : ok = false := h2
    have h3 : k < len := h3
    subst h1 h2
    refine .inr (.inr ⟨?_, rfl⟩)
    unfold headHow
    simp only [Bool.false_eq_true, if_false]
    rw [if_neg (by omega)]

theorem extract_list (s : ByteArray) (c : Nat) : (s.extract 0 c).data.toList = s.data.toList.take c := by
  simp

theorem how_one {r : Bool × Nat} {len : Nat} (h : headHow len r = 1) : r = (false, len) := by
  obtain ⟨ok, k⟩ := r
  unfold headHow at h
  cases ok
  · simp only [Bool.false_eq_true, if_false] at h
    split at h
    · rename_i e; rw [e]
    · omega
  · simp at h

set_option maxRecDepth 100000 in
set_option maxHeartbeats 2000000 in
theorem walk (a : ByteArray) (cut : Int) (vf : Bool) (ha : a.size ≤ maxLen) (e0 u0 : Addr) (w : World) (hT : Lib.Utf8Tabs 2 3 w) (hg : Sent e0 u0 w) (hw : 4 ≤ w.heap.size) :
    Calls Tryd.prog 4 #[.string a, .int .i64 cut, .bool vf] w fun e w' => e = .returned (.bool true) ∧ Below w.heap.size w w' := by
  unfold maxLen at ha
  have HT := Lib.hid hT
  have HG := Lib.hid hg
  clear hT hg
  by_cases h1 : 2147483647 < a.size
  · as_aux_lemma =>
    go_enter Tryd.func4, Tryd.ntmps4
    go_wp2
    go_ret
    exact ⟨rfl, Below.refl _ _⟩
  cases h : shortB [a]
  · as_aux_lemma =>
    have H := Lib.hid h
    clear h
    go_enter Tryd.func4, Tryd.ntmps4
    go_wp2_with (go_at_call 5; refine (short10_any [a] _ _ _ _ rfl (by simp) (strs1 _ _ _) (sizes1 (by omega))).mono ?_; rintro e w1 ⟨rfl, rfl⟩; rw [H.out])
    go_ret
    exact ⟨rfl, (Below.refl _ _).alloc (Nat.le_refl _) _⟩
  have hz : a.size ≤ 4000 := by simpa [shortB] using h
  have H := Lib.hid h
  clear h
  by_cases hc0 : cut < 0
  · as_aux_lemma =>
    go_enter Tryd.func4, Tryd.ntmps4
    go_wp2_with (go_at_call 5; refine (short10_any [a] _ _ _ _ rfl (by simp) (strs1 _ _ _) (sizes1 (by omega))).mono ?_; rintro e w1 ⟨rfl, rfl⟩; rw [H.out])
    go_ret
    exact ⟨rfl, (Below.refl _ _).alloc (Nat.le_refl _) _⟩
  obtain ⟨c, rfl⟩ : ∃ c : Nat, cut = (c : Int) := ⟨cut.toNat, by omega⟩
  by_cases hc1 : a.size < c
  · as_aux_lemma =>
    go_enter Tryd.func4, Tryd.ntmps4
    go_wp2_with (go_at_call 5; refine (short10_any [a] _ _ _ _ rfl (by simp) (strs1 _ _ _) (sizes1 (by omega))).mono ?_; rintro e w1 ⟨rfl, rfl⟩; rw [H.out])
    go_ret
    exact ⟨rfl, (Below.refl _ _).alloc (Nat.le_refl _) _⟩
  obtain ⟨p, hp⟩ : ∃ p, a.extract 0 c = p := ⟨_, rfl⟩
  have hpl : p.data.toList = a.data.toList.take c := by rw [← hp]; exact extract_list a c
  have hps : p.size = (a.data.toList.take c).length := by rw [← hpl]; exact (size_eq p).symm
  have hasz : a.data.toList.length = a.size := size_eq a
  have hp4 : p.size ≤ 4000 := by rw [hps, List.length_take]; omega
  have HP := Lib.hid hp
  have HPL := Lib.hid hpl
  clear hp hpl
  have s0 : (c : Int) ≤ (a.size : Int) := by omega
  have s1 : (0 : Int) ≤ (c : Int) := by omega
  go_enter Tryd.func4, Tryd.ntmps4
  go_wp2_with (go_at_call 5; refine (short10_any [a] _ _ _ _ rfl (by simp) (strs1 _ _ _) (sizes1 (by omega))).mono ?_; rintro e w1 ⟨rfl, rfl⟩; rw [H.out])
  (try simp only [Int.toNat_natCast])
  rw [HP.out]
  refine (stringHead_any p vf _ (by omega)).mono ?_
  rintro e w2 ⟨⟨r1, hq1, rfl⟩, b2⟩
  have B2 := Lib.hid (below_step ((Below.refl _ w).alloc (Nat.le_refl _) _) b2)
  have HQ1 := Lib.hid hq1
  clear b2 hq1
  by_cases hh : headHow p.size r1 = 1
  · rw [hh]
    have hmn := how_one hh
    have hfirst : ∀ q, SFirst vf p.data.toList q → q.2 = 1 ∧ q.1 ≤ a.size := fun q hq => by
      obtain ⟨x, y⟩ := first_short hq HQ1.out (by rw [hmn]; simp)
      refine ⟨x, Nat.le_trans y ?_⟩
      rw [HPL.out, List.length_take]
      omega
    have HFI := Lib.hid hfirst
    clear hmn hh hfirst
    go_wp2_with fail
    (try simp only [Int.toNat_natCast])
    rw [HP.out]
    refine (wireStringAgain_any p a vf e0 u0 _ hp4 hz HFI.out (Go.Proofs.Utf8Tabs_below HT.out B2.out) (HG.out.below (by omega) B2.out) (by have := B2.out.size; omega)).mono ?_
    rintro e w3 ⟨⟨m, q, hm, hq, rfl⟩, b3⟩
    have B3 := Lib.hid (below_step B2.out b3)
    have HM := Lib.hid hm
    have HQ := Lib.hid hq
    clear b3 hm hq
    go_wp2_with fail
    refine (stringHead_any a vf _ (by omega)).mono ?_
    rintro e w4 ⟨⟨r2, hq2, rfl⟩, b4⟩
    have B4 := Lib.hid (below_step B3.out b4)
    have hfst := HM.out
    rw [HPL.out] at hfst
    have hag := agree_wire (next_agree hfst rfl HQ.out hq2)
    rw [hasz] at hag
    have K6 := Lib.hid hag
    clear b4 hq2 hfst hag
    go_wp2_with fail
    refine (wire10_any _ _ _ _ K6.out _).mono ?_
    rintro e w5 ⟨rfl, rfl⟩
    go_wp2_with fail
    go_ret
    exact ⟨rfl, B4.out⟩
  · have hb : (headHow p.size r1 == 1) = false := by rw [beq_eq_false_iff_ne]; exact hh
    generalize headHow p.size r1 = y at hh hb ⊢
    generalize headS r1 = z
    go_wp2_with fail
    go_ret
    exact ⟨rfl, B2.out⟩

end Go.Proofs.YtifemmjblamfkaaDoor.StrPieces
