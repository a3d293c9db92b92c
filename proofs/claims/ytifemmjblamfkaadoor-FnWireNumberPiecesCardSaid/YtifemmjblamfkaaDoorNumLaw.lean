/- The law 'a number of which first a part is there is read as the whole is': its walk. -/
import Derived.Test.YtifemmjblamfkaaDoorNumA
import Derived.Test.YtifemmjblamfkaaDoorShort
namespace Go.Proofs.YtifemmjblamfkaaDoor.NumPieces
open Go.RowKit

theorem wire10_any (n how due came : Int) (h : (came = 0 ∧ how = 0 ∧ n = due) ∨ (came = 1 ∧ how = 1) ∨ (came = 2 ∧ how = 2)) (w : World) :
    Calls Tryd.prog 8 #[.int .i64 n, .int .i64 how, .int .i64 due, .int .i64 came] w fun e w' => e = .returned (.bool true) ∧ w' = w := by
  rcases h with ⟨rfl, rfl, rfl⟩ | ⟨rfl, rfl⟩ | ⟨rfl, rfl⟩
  · go_enter Tryd.func8, Tryd.ntmps8
    go_wp2
    go_ret
    exact ⟨rfl, rfl⟩
  · go_enter Tryd.func8, Tryd.ntmps8
    go_wp2
    go_ret
    exact ⟨rfl, rfl⟩
  · go_enter Tryd.func8, Tryd.ntmps8
    go_wp2
    go_ret
    exact ⟨rfl, rfl⟩

theorem agree_wire {r : Bool × Nat} {c : Nat × Nat × Nat} {len : Nat} (h : Agree r c len) :
    c.2.2 ≤ 2 ∧ ((headHow len r = 0 ∧ ((c.2.2 : Nat) : Int) = 0 ∧ ((c.1 : Nat) : Int) = headN r) ∨ (headHow len r = 1 ∧ ((c.2.2 : Nat) : Int) = 1) ∨ (headHow len r = 2 ∧ ((c.2.2 : Nat) : Int) = 2)) := by
  rcases h with ⟨h1, rfl⟩ | ⟨h1, rfl⟩ | ⟨h1, h2, h3⟩
  · refine ⟨by omega, .inl ⟨rfl, by omega, rfl⟩⟩
  · refine ⟨by omega, .inr (.inl ⟨?_, by omega⟩)⟩
    simp [headHow]
  · refine ⟨by omega, .inr (.inr ⟨?_, by omega⟩)⟩
    unfold headHow
    rw [if_neg (by rw [h2]; simp), if_neg (by omega)]

theorem extract_list (s : ByteArray) (c : Nat) : (s.extract 0 c).data.toList = s.data.toList.take c := by
  simp

theorem how_one {r : Bool × Nat} {len : Nat} (h : headHow len r = 1) : r = (false, len) := by
  obtain ⟨ok, k⟩ := r
  unfold headHow at h
  cases ok
  · simp only [Bool.false_eq_true, if_false] at h
    split at h
    · rename_i e; rw [e]
    · omega
  · simp at h

theorem next_of {l : List UInt8} {c : Nat} (hn : mNumber (l.take c) 0 = (false, (l.take c).length)) :
    ∃ m st x, cInt (l.take c) 0 = (m, st, 1) ∧ Next l m st x ∧ m ≤ l.length ∧ Agree (mNumber l 0) x l.length := by
  obtain ⟨m, s, h1, h2⟩ := first_call hn 0
  have hm : m ≤ l.length := by
    have := cInt_le h1
    rw [List.length_take] at this
    omega
  rcases h2 with ⟨rfl, rfl⟩ | ⟨rfl, h2⟩ | ⟨rfl, h2⟩
  · exact ⟨0, 1, cInt l 1, h1, .inl ⟨rfl, rfl, rfl⟩, hm, agree_int l 1⟩
  · exact ⟨m, 3, cFrac l m 3, h1, .inr (.inl ⟨rfl, rfl⟩), hm, by rw [h2]; exact agree_frac l m 3⟩
  · exact ⟨m, 5, cExp l m 5, h1, .inr (.inr ⟨rfl, rfl⟩), hm, by rw [h2]; exact agree_exp l m 5⟩

set_option maxRecDepth 100000 in
set_option maxHeartbeats 2000000 in
theorem walk (a : ByteArray) (cut : Int) (ha : a.size ≤ maxLen) (e0 : Addr) (w : World) (hT : Lib.Utf8Tabs 2 3 w) (hg : w.cell? ⟨0, 0, none⟩ = some (.iface 95 (.pointer (some e0)))) (hw : 4 ≤ w.heap.size) :
    Calls Tryd.prog 3 #[.string a, .int .i64 cut] w fun e w' => e = .returned (.bool true) ∧ Below w.heap.size w w' := by
  unfold maxLen at ha
  have HT := Lib.hid hT
  have HG := Lib.hid hg
  clear hT hg
  by_cases h1 : 2147483647 < a.size
  · as_aux_lemma =>
    go_enter Tryd.func3, Tryd.ntmps3
    go_wp2
    go_ret
    exact ⟨rfl, Below.refl _ _⟩
  cases h : shortB [a]
  · as_aux_lemma =>
    have H := Lib.hid h
    clear h
    go_enter Tryd.func3, Tryd.ntmps3
    go_wp2_with (go_at_call 5; refine (short10_any [a] _ _ _ _ rfl (by simp) (strs1 _ _ _) (sizes1 (by omega))).mono ?_; rintro e w1 ⟨rfl, rfl⟩; rw [H.out])
    go_ret
    exact ⟨rfl, (Below.refl _ _).alloc (Nat.le_refl _) _⟩
  have hz : a.size ≤ 4000 := by simpa [shortB] using h
  have H := Lib.hid h
  clear h
  by_cases hc0 : cut < 0
  · as_aux_lemma =>
    go_enter Tryd.func3, Tryd.ntmps3
    go_wp2_with (go_at_call 5; refine (short10_any [a] _ _ _ _ rfl (by simp) (strs1 _ _ _) (sizes1 (by omega))).mono ?_; rintro e w1 ⟨rfl, rfl⟩; rw [H.out])
    go_ret
    exact ⟨rfl, (Below.refl _ _).alloc (Nat.le_refl _) _⟩
  obtain ⟨c, rfl⟩ : ∃ c : Nat, cut = (c : Int) := ⟨cut.toNat, by omega⟩
  by_cases hc1 : a.size < c
  · as_aux_lemma =>
    go_enter Tryd.func3, Tryd.ntmps3
    go_wp2_with (go_at_call 5; refine (short10_any [a] _ _ _ _ rfl (by simp) (strs1 _ _ _) (sizes1 (by omega))).mono ?_; rintro e w1 ⟨rfl, rfl⟩; rw [H.out])
    go_ret
    exact ⟨rfl, (Below.refl _ _).alloc (Nat.le_refl _) _⟩
  obtain ⟨p, hp⟩ : ∃ p, a.extract 0 c = p := ⟨_, rfl⟩
  have hpl : p.data.toList = a.data.toList.take c := by rw [← hp]; exact extract_list a c
  have hps : p.size = (a.data.toList.take c).length := by rw [← hpl]; exact (size_eq p).symm
  have hasz : a.data.toList.length = a.size := size_eq a
  have hp4 : p.size ≤ 4000 := by rw [hps, List.length_take]; omega
  have HP := Lib.hid hp
  have HPL := Lib.hid hpl
  clear hp hpl
  have s0 : (c : Int) ≤ (a.size : Int) := by omega
  have s1 : (0 : Int) ≤ (c : Int) := by omega
  go_enter Tryd.func3, Tryd.ntmps3
  go_wp2_with (go_at_call 5; refine (short10_any [a] _ _ _ _ rfl (by simp) (strs1 _ _ _) (sizes1 (by omega))).mono ?_; rintro e w1 ⟨rfl, rfl⟩; rw [H.out])
  (try simp only [Int.toNat_natCast])
  rw [HP.out]
  refine (numberHead_any p _ (by omega)).mono ?_
  rintro e w2 ⟨rfl, b2⟩
  have B2 := Lib.hid (below_step ((Below.refl _ w).alloc (Nat.le_refl _) _) b2)
  clear b2
  by_cases hh : headHow p.size (mNumber p.data.toList 0) = 1
  · rw [hh]
    have hmn := how_one hh
    rw [HPL.out, hps] at hmn
    obtain ⟨m, st, x, k1, k2, k3, k4⟩ := next_of hmn
    obtain ⟨k5, k6⟩ := agree_wire k4
    rw [hasz] at k3 k6
    rw [← HPL.out] at k1
    have K1 := Lib.hid k1
    have K2 := Lib.hid k2
    have K6 := Lib.hid k6
    clear hmn k1 k2 k4 k6 hh
    go_wp2_with fail
    (try simp only [Int.toNat_natCast])
    rw [HP.out]
    refine (wireNumberAgain_any p a e0 m st x _ hp4 hz K1.out K2.out k5 k3 (Go.Proofs.Utf8Tabs_below HT.out B2.out) (Below.keep B2.out (b := 0) (by omega) HG.out) (by have := B2.out.size; omega)).mono ?_
    rintro e w3 ⟨rfl, b3⟩
    have B3 := Lib.hid (below_step B2.out b3)
    clear b3
    go_wp2_with fail
    refine (numberHead_any a _ (by omega)).mono ?_
    rintro e w4 ⟨rfl, b4⟩
    have B4 := Lib.hid (below_step B3.out b4)
    clear b4
    go_wp2_with fail
    refine (wire10_any _ _ _ _ K6.out _).mono ?_
    rintro e w5 ⟨rfl, rfl⟩
    go_wp2_with fail
    go_ret
    exact ⟨rfl, B4.out⟩
  · have hb : (headHow p.size (mNumber p.data.toList 0) == 1) = false := by rw [beq_eq_false_iff_ne]; exact hh
    generalize headHow p.size (mNumber p.data.toList 0) = y at hh hb ⊢
    generalize headN (mNumber p.data.toList 0) = z
    go_wp2_with fail
    go_ret
    exact ⟨rfl, B2.out⟩

end Go.Proofs.YtifemmjblamfkaaDoor.NumPieces
