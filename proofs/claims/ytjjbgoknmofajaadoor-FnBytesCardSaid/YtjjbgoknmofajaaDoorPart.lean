/- The reference's text of one character, under the strictest options. -/
import Derived.Test.YtjjbgoknmofajaaDoorWidth
namespace Go.Proofs.YtjjbgoknmofajaaDoor
open Go.RowKit

theorem unit_int (x : Int) (h0 : 0 ≤ x) (h1 : x < 65536) (w : World) :
    Calls Tryd.prog 41 #[.int .i64 x] w (Six w) := by
  obtain ⟨n, rfl⟩ := Int.eq_ofNat_of_zero_le h0
  exact unitText_any n (by omega) w

theorem u8_small (x : UInt8) : 0 ≤ wrap64 ((x.toNat : Nat) : Int) ∧ wrap64 ((x.toNat : Nat) : Int) < 65536 := by
  have := x.toNat_lt
  unfold wrap64
  omega

/-- Both marks are asked for. -/
def strict : Value := .agg #[.bool true, .bool true]

set_option maxRecDepth 100000 in
set_option maxHeartbeats 1000000 in
theorem marked_one (c : UInt8) (hc : c = 60 ∨ c = 62 ∨ c = 38) (w : World) :
    Calls Tryd.prog 40 #[.string ⟨#[c]⟩, strict] w (Six w) := by
  unfold strict
  rcases hc with rfl | rfl | rfl
  all_goals
    go_enter Tryd.func40, Tryd.ntmps40
    go_wp2_with fail
    refine (unit_int _ (u8_small _).1 (u8_small _).2 _).mono ?_
    rintro e w1 ⟨b1, t, ht, rfl⟩
    have B1 := Lib.hid b1
    have HT := Lib.hid ht
    clear b1 ht
    go_wp2_with fail
    go_ret
    exact ⟨below_step ((Below.refl _ _).alloc (Nat.le_refl _) _) B1.out, t, HT.out, rfl⟩

set_option maxRecDepth 100000 in
set_option maxHeartbeats 1000000 in
theorem marked_sep (c : UInt8) (hc : c = 168 ∨ c = 169) (w : World) :
    Calls Tryd.prog 40 #[.string ⟨#[226, 128, c]⟩, strict] w (Six w) := by
  unfold strict
  rcases hc with rfl | rfl
  all_goals
    go_enter Tryd.func40, Tryd.ntmps40
    go_wp2_with fail
    refine (unit_int _ (by decide) (by decide) _).mono ?_
    rintro e w1 ⟨b1, t, ht, rfl⟩
    have B1 := Lib.hid b1
    have HT := Lib.hid ht
    clear b1 ht
    go_wp2_with fail
    go_ret
    exact ⟨below_step ((Below.refl _ _).alloc (Nat.le_refl _) _) B1.out, t, HT.out, rfl⟩

set_option maxRecDepth 100000 in
set_option maxHeartbeats 1000000 in
theorem marked_none (p : ByteArray) (h1 : (p.toList == [60]) = false) (h2 : (p.toList == [62]) = false) (h3 : (p.toList == [38]) = false) (h4 : (p.toList == [226, 128, 168]) = false) (h5 : (p.toList == [226, 128, 169]) = false) (w : World) :
    Calls Tryd.prog 40 #[.string p, strict] w fun e w' => Below w.heap.size w w' ∧ e = .returned (.string ⟨#[]⟩) := by
  unfold strict
  go_enter Tryd.func40, Tryd.ntmps40
  go_wp2_with fail
  go_ret
  exact ⟨(Below.refl _ _).alloc (Nat.le_refl _) _, rfl⟩

/-- A character that stands as it is. -/
def Still (p : List UInt8) : Prop :=
  (∃ c, p = [c] ∧ 32 ≤ c.toNat ∧ c ≠ 34 ∧ c ≠ 92 ∧ c ≠ 60 ∧ c ≠ 62 ∧ c ≠ 38) ∨ (2 ≤ p.length ∧ p ≠ [226, 128, 168] ∧ p ≠ [226, 128, 169])

/-- What stands for a character: itself, or more. -/
structure Part (w : World) (p : ByteArray) (e : Ending) (w' : World) : Prop where
  below : Below w.heap.size w w'
  what : ∃ t : ByteArray, e = .returned (.string t) ∧ t.size ≤ p.size + 6 ∧ (Still p.data.toList → t = p) ∧ (¬ Still p.data.toList → p.size < t.size)

theorem six_nonempty {t : ByteArray} (h : t.size = 6) : t.toList.isEmpty = false := nonempty (by omega)

set_option maxRecDepth 100000 in
set_option maxHeartbeats 1000000 in
theorem quotedPart_marked (p : ByteArray) (hm : ∀ w : World, Calls Tryd.prog 40 #[.string p, strict] w (Six w)) (hp : p.size ≤ 4) (hk : ¬ Still p.data.toList) (w : World) :
    Calls Tryd.prog 27 #[.string p, strict] w (Part w p) := by
  have HM := Lib.hid hm
  have HK := Lib.hid hk
  clear hm hk
  unfold strict at HM ⊢
  go_enter Tryd.func27, Tryd.ntmps27
  go_wp2_with fail
  refine (HM.out _).mono ?_
  rintro e w1 ⟨b1, t, ht, rfl⟩
  have he := six_nonempty ht
  have hne : (!t.toList.isEmpty) = true := by rw [he]; rfl
  have B1 := Lib.hid b1
  have HT := Lib.hid ht
  clear b1 ht
  go_wp2_with fail
  go_ret
  exact ⟨below_step ((Below.refl _ _).alloc (Nat.le_refl _) _) B1.out, t, rfl, by have := HT.out; omega, fun h => absurd h HK.out, fun _ => by have := HT.out; omega⟩

set_option maxRecDepth 100000 in
set_option maxHeartbeats 2000000 in
theorem quotedPart_high (p : ByteArray) (h0 : 0 < p.size) (h2 : 2 ≤ p.size) (hp : p.size ≤ 4) (hc : 128 ≤ (p[0]'h0).toNat) (h4 : p.data.toList ≠ [226, 128, 168]) (h5 : p.data.toList ≠ [226, 128, 169]) (w : World) :
    Calls Tryd.prog 27 #[.string p, strict] w (Part w p) := by
  have hk : Still p.data.toList := .inr ⟨by rw [size_eq]; exact h2, h4, h5⟩
  have hl : ∀ x : UInt8, (p.toList == [x]) = false := fun x => by
    rw [beq_eq_false_iff_ne, Lib.toList_data]
    intro e
    have := congrArg List.length e
    rw [size_eq] at this
    simp at this
    omega
  have hm := marked_none p (hl _) (hl _) (hl _) (by rw [beq_eq_false_iff_ne, Lib.toList_data]; exact h4) (by rw [beq_eq_false_iff_ne, Lib.toList_data]; exact h5)
  have HM := Lib.hid hm
  have HK := Lib.hid hk
  obtain ⟨a, ha⟩ : ∃ a : Nat, (p[0]'h0).toNat = a := ⟨_, rfl⟩
  rw [ha] at hc
  have a1 : ¬ (a : Int) < 32 := by omega
  have n1 : ((a : Int) == 34) = false := by rw [beq_eq_false_iff_ne]; omega
  have n2 : ((a : Int) == 92) = false := by rw [beq_eq_false_iff_ne]; omega
  have n3 : ((a : Int) == 8) = false := by rw [beq_eq_false_iff_ne]; omega
  have n4 : ((a : Int) == 12) = false := by rw [beq_eq_false_iff_ne]; omega
  have n5 : ((a : Int) == 10) = false := by rw [beq_eq_false_iff_ne]; omega
  have n6 : ((a : Int) == 13) = false := by rw [beq_eq_false_iff_ne]; omega
  have n7 : ((a : Int) == 9) = false := by rw [beq_eq_false_iff_ne]; omega
  have hi : (0 : Int) < (p.size : Int) := by omega
  clear hl hm hk h4 h5
  unfold strict at HM ⊢
  go_enter Tryd.func27, Tryd.ntmps27
  go_wp2_with fail
  refine (HM.out _).mono ?_
  rintro e w1 ⟨b1, rfl⟩
  have B1 := Lib.hid b1
  clear b1
  go_wp2_with fail
  go_ret
  exact ⟨below_step ((Below.refl _ _).alloc (Nat.le_refl _) _) B1.out, p, rfl, by omega, fun _ => rfl, fun h => absurd HK.out h⟩

set_option maxRecDepth 100000 in
set_option maxHeartbeats 4000000 in
theorem quotedPart_low (p : ByteArray) (c : UInt8) (hp : p.data.toList = [c]) (h0 : 0 < p.size) (a : Nat) (ha : (p[0]'h0).toNat = a) (h128 : a < 128) (h60 : a ≠ 60) (h62 : a ≠ 62) (h38 : a ≠ 38) (w : World) :
    Calls Tryd.prog 27 #[.string p, strict] w (Part w p) := by
  have hca : c.toNat = a := by
    have : p.data.toList[0]'(by rw [hp]; simp) = c := by simp [hp]
    rw [← ha, ← this]
    rfl
  have h1 : p.size = 1 := by rw [← size_eq, hp]; rfl
  have hl1 : ∀ x : UInt8, x.toNat ≠ a → (p.toList == [x]) = false := fun x hx => by
    rw [beq_eq_false_iff_ne, Lib.toList_data, hp]
    intro e
    simp at e
    exact hx (by rw [← hca, e])
  have hl3 : ∀ x y z : UInt8, (p.toList == [x, y, z]) = false := fun x y z => by
    rw [beq_eq_false_iff_ne, Lib.toList_data, hp]
    intro e
    simp at e
  have hm := marked_none p (hl1 60 (fun e => h60 e.symm)) (hl1 62 (fun e => h62 e.symm)) (hl1 38 (fun e => h38 e.symm)) (hl3 _ _ _) (hl3 _ _ _)
  have hst : a < 32 ∨ a = 34 ∨ a = 92 → ¬ Still p.data.toList := by
    intro h
    rw [hp]
    rintro (⟨d, e, k1, k2, k3, _⟩ | ⟨k, _⟩)
    · simp at e
      subst e
      rcases h with h | h | h
      · omega
      · exact k2 (UInt8.toNat_inj.1 (by rw [hca, h]; rfl))
      · exact k3 (UInt8.toNat_inj.1 (by rw [hca, h]; rfl))
    · simp at k
  have hkeep : ¬ a < 32 → a ≠ 34 → a ≠ 92 → Still p.data.toList := by
    intro k1 k2 k3
    rw [hp]
    refine .inl ⟨c, rfl, by omega, ?_, ?_, ?_, ?_, ?_⟩ <;> (intro e; subst e)
    · exact k2 hca.symm
    · exact k3 hca.symm
    · exact h60 hca.symm
    · exact h62 hca.symm
    · exact h38 hca.symm
  have hz : ((⟨#[92]⟩ : ByteArray) ++ p).size = 1 + p.size := by
    rw [← size_eq, data_append, List.length_append, size_eq]
    rfl
  have HZ := Lib.hid hz
  clear hz
  have HM := Lib.hid hm
  have H1 := Lib.hid h1
  have HKeep := Lib.hid hkeep
  have hi : (0 : Int) < (p.size : Int) := by omega
  have hbig : ¬ 9223372036854775807 < 1 + p.size := by omega
  clear hm h1 hl1 hl3 hp hkeep hca
  unfold strict at HM ⊢
  by_cases e34 : a = 34
  · subst e34
    have HK := Lib.hid (hst (by omega))
    go_enter Tryd.func27, Tryd.ntmps27
    go_wp2_with fail
    refine (HM.out _).mono ?_
    rintro e w1 ⟨b1, rfl⟩
    have B1 := Lib.hid b1
    clear b1
    go_wp2_with fail
    go_ret
    exact ⟨below_step ((Below.refl _ _).alloc (Nat.le_refl _) _) B1.out, _, rfl, by rw [HZ.out]; omega, fun h => absurd h HK.out, fun _ => by rw [HZ.out]; omega⟩
  have n34 : ((a : Int) == 34) = false := by rw [beq_eq_false_iff_ne]; omega
  by_cases e92 : a = 92
  · subst e92
    have HK := Lib.hid (hst (by omega))
    go_enter Tryd.func27, Tryd.ntmps27
    go_wp2_with fail
    refine (HM.out _).mono ?_
    rintro e w1 ⟨b1, rfl⟩
    have B1 := Lib.hid b1
    clear b1
    go_wp2_with fail
    go_ret
    exact ⟨below_step ((Below.refl _ _).alloc (Nat.le_refl _) _) B1.out, _, rfl, by rw [HZ.out]; omega, fun h => absurd h HK.out, fun _ => by rw [HZ.out]; omega⟩
  have n92 : ((a : Int) == 92) = false := by rw [beq_eq_false_iff_ne]; omega
  by_cases e8 : a = 8
  · subst e8
    have HK := Lib.hid (hst (by omega))
    go_enter Tryd.func27, Tryd.ntmps27
    go_wp2_with fail
    refine (HM.out _).mono ?_
    rintro e w1 ⟨b1, rfl⟩
    have B1 := Lib.hid b1
    clear b1
    go_wp2_with fail
    go_ret
    exact ⟨below_step ((Below.refl _ _).alloc (Nat.le_refl _) _) B1.out, _, rfl, (by show 2 ≤ p.size + 6; omega), fun h => absurd h HK.out, fun _ => (by show p.size < 2; have := H1.out; omega)⟩
  have n8 : ((a : Int) == 8) = false := by rw [beq_eq_false_iff_ne]; omega
  by_cases e12 : a = 12
  · subst e12
    have HK := Lib.hid (hst (by omega))
    go_enter Tryd.func27, Tryd.ntmps27
    go_wp2_with fail
    refine (HM.out _).mono ?_
    rintro e w1 ⟨b1, rfl⟩
    have B1 := Lib.hid b1
    clear b1
    go_wp2_with fail
    go_ret
    exact ⟨below_step ((Below.refl _ _).alloc (Nat.le_refl _) _) B1.out, _, rfl, (by show 2 ≤ p.size + 6; omega), fun h => absurd h HK.out, fun _ => (by show p.size < 2; have := H1.out; omega)⟩
  have n12 : ((a : Int) == 12) = false := by rw [beq_eq_false_iff_ne]; omega
  by_cases e10 : a = 10
  · subst e10
    have HK := Lib.hid (hst (by omega))
    go_enter Tryd.func27, Tryd.ntmps27
    go_wp2_with fail
    refine (HM.out _).mono ?_
    rintro e w1 ⟨b1, rfl⟩
    have B1 := Lib.hid b1
    clear b1
    go_wp2_with fail
    go_ret
    exact ⟨below_step ((Below.refl _ _).alloc (Nat.le_refl _) _) B1.out, _, rfl, (by show 2 ≤ p.size + 6; omega), fun h => absurd h HK.out, fun _ => (by show p.size < 2; have := H1.out; omega)⟩
  have n10 : ((a : Int) == 10) = false := by rw [beq_eq_false_iff_ne]; omega
  by_cases e13 : a = 13
  · subst e13
    have HK := Lib.hid (hst (by omega))
    go_enter Tryd.func27, Tryd.ntmps27
    go_wp2_with fail
    refine (HM.out _).mono ?_
    rintro e w1 ⟨b1, rfl⟩
    have B1 := Lib.hid b1
    clear b1
    go_wp2_with fail
    go_ret
    exact ⟨below_step ((Below.refl _ _).alloc (Nat.le_refl _) _) B1.out, _, rfl, (by show 2 ≤ p.size + 6; omega), fun h => absurd h HK.out, fun _ => (by show p.size < 2; have := H1.out; omega)⟩
  have n13 : ((a : Int) == 13) = false := by rw [beq_eq_false_iff_ne]; omega
  by_cases e9 : a = 9
  · subst e9
    have HK := Lib.hid (hst (by omega))
    go_enter Tryd.func27, Tryd.ntmps27
    go_wp2_with fail
    refine (HM.out _).mono ?_
    rintro e w1 ⟨b1, rfl⟩
    have B1 := Lib.hid b1
    clear b1
    go_wp2_with fail
    go_ret
    exact ⟨below_step ((Below.refl _ _).alloc (Nat.le_refl _) _) B1.out, _, rfl, (by show 2 ≤ p.size + 6; omega), fun h => absurd h HK.out, fun _ => (by show p.size < 2; have := H1.out; omega)⟩
  have n9 : ((a : Int) == 9) = false := by rw [beq_eq_false_iff_ne]; omega
  by_cases e32 : a < 32
  · have a1 : (a : Int) < 32 := by omega
    have HK := Lib.hid (hst (.inl e32))
    clear hst
    go_enter Tryd.func27, Tryd.ntmps27
    go_wp2_with fail
    refine (HM.out _).mono ?_
    rintro e w1 ⟨b1, rfl⟩
    have B1 := Lib.hid b1
    clear b1
    go_wp2_with fail
    refine (unit_int _ (by omega) (by omega) _).mono ?_
    rintro e w2 ⟨b2, t, ht, rfl⟩
    have B2 := Lib.hid b2
    have HT := Lib.hid ht
    clear b2 ht
    go_wp2_with fail
    go_ret
    exact ⟨below_step (below_step ((Below.refl _ _).alloc (Nat.le_refl _) _) B1.out) B2.out, t, rfl, by have := HT.out; omega, fun h => absurd h HK.out, fun _ => by have := HT.out; have := H1.out; omega⟩
  · have a1 : ¬ (a : Int) < 32 := by omega
    have HK := Lib.hid (HKeep.out e32 e34 e92)
    clear hst
    go_enter Tryd.func27, Tryd.ntmps27
    go_wp2_with fail
    refine (HM.out _).mono ?_
    rintro e w1 ⟨b1, rfl⟩
    have B1 := Lib.hid b1
    clear b1
    go_wp2_with fail
    go_ret
    exact ⟨below_step ((Below.refl _ _).alloc (Nat.le_refl _) _) B1.out, p, rfl, by omega, fun _ => rfl, fun h => absurd HK.out h⟩

/-- The text of one character. -/
theorem quotedPart_any (p : ByteArray) (n : Nat) (hn : p.size = n) (hc : CharAt p.data.toList n) (w : World) :
    Calls Tryd.prog 27 #[.string p, strict] w (Part w p) := by
  have h0 : 0 < p.size := by rw [hn]; exact hc.le.1
  have hlen : p.data.toList.length = n := by rw [size_eq, hn]
  have pext : ∀ q : ByteArray, p.data.toList = q.data.toList → p = q := fun q e => bytes_ext e
  have hfirst : ∀ x t, p.data.toList = x :: t → (p[0]'h0).toNat = x.toNat := fun x t e => by
    have : p.data.toList[0]'(by rw [e]; simp) = x := by simp [e]
    rw [← this]
    rfl
  have high : ∀ x t, p.data.toList = x :: t → 2 ≤ n → n ≤ 4 → 128 ≤ x.toNat → Calls Tryd.prog 27 #[.string p, strict] w (Part w p) := by
    intro x t e h2 h4 hx
    by_cases q1 : p.data.toList = [226, 128, 168]
    · have e1 : p = ⟨#[226, 128, 168]⟩ := pext _ q1
      refine quotedPart_marked p (by rw [e1]; exact marked_sep 168 (.inl rfl)) (by omega) ?_ w
      rw [q1]
      rintro (⟨_, e, _⟩ | ⟨_, k, _⟩)
      · cases e
      · exact k rfl
    · by_cases q2 : p.data.toList = [226, 128, 169]
      · have e1 : p = ⟨#[226, 128, 169]⟩ := pext _ q2
        refine quotedPart_marked p (by rw [e1]; exact marked_sep 169 (.inr rfl)) (by omega) ?_ w
        rw [q2]
        rintro (⟨_, e, _⟩ | ⟨_, _, k⟩)
        · cases e
        · exact k rfl
      · exact quotedPart_high p h0 (by omega) (by omega) (by rw [hfirst x t e]; exact hx) q1 q2 w
  rcases hc with ⟨rfl, a, t, e, h1⟩ | ⟨rfl, a, b, t, e, h1, h2, _⟩ | ⟨rfl, a, b, c, t, e, h1, h2, _⟩ | ⟨rfl, a, b, c, d, t, e, h1, h2, _⟩
  · obtain rfl : t = [] := by
      rw [e] at hlen
      simpa using hlen
    by_cases k : a = 60 ∨ a = 62 ∨ a = 38
    · have e1 : p = ⟨#[a]⟩ := pext _ e
      refine quotedPart_marked p (by rw [e1]; exact marked_one a k) (by omega) ?_ w
      rw [e]
      rintro (⟨c, ec, _, _, _, k1, k2, k3⟩ | ⟨k1, _⟩)
      · simp at ec
        subst ec
        rcases k with k | k | k
        · exact k1 k
        · exact k2 k
        · exact k3 k
      · simp at k1
    · exact quotedPart_low p a e h0 a.toNat (hfirst a [] e) h1 (fun q => k (.inl (UInt8.toNat_inj.1 q))) (fun q => k (.inr (.inl (UInt8.toNat_inj.1 q)))) (fun q => k (.inr (.inr (UInt8.toNat_inj.1 q)))) w
  · exact high a _ e (by omega) (by omega) (by omega)
  · exact high a _ e (by omega) (by omega) (by omega)
  · exact high a _ e (by omega) (by omega) (by omega)

end Go.Proofs.YtjjbgoknmofajaaDoor
