/- What has been decoded is a character (plain). -/
import Derived.Test.YtifemmjblamfkaaDoorDecode
namespace Go.Proofs.YtifemmjblamfkaaDoor
open Go.RowKit

theorem decode_or (l : List UInt8) (hne : l ≠ []) (r n : Nat) (h : Utf8.decode ⟨l.toArray⟩ 0 = (r, n)) : CharAt l n ∨ (r = 65533 ∧ n = 1) := by
  have hg : ∀ k (hk : k < l.length), (ByteArray.mk l.toArray).get! (0 + k) = l[k] := fun k hk =>
    (get_of (s := ⟨l.toArray⟩) (pos := 0) (i := k) (a := l[k]) (by simp [hk])).1
  have hsz : (ByteArray.mk l.toArray).size = l.length := by simp [ByteArray.size]
  have h0 : 0 < l.length := List.length_pos_iff.2 hne
  have g0 := hg 0 h0
  unfold Utf8.decode at h
  simp only [hsz, g0, Nat.zero_add] at h
  split at h
  · rename_i c0
    obtain ⟨rfl, rfl⟩ := Prod.mk.inj h
    obtain ⟨t, e⟩ := list1 l h0
    exact .inl (.inl ⟨rfl, _, t, e, c0⟩)
  · split at h
    · rename_i _ c1
      simp only [Bool.and_eq_true, beq_iff_eq, decide_eq_true_eq] at c1
      obtain ⟨c1, c2, c3⟩ := c1
      have g1 := hg 1 c2
      rw [Nat.zero_add] at g1
      rw [g1] at c3 h
      split at h
      · rename_i c4
        obtain ⟨rfl, rfl⟩ := Prod.mk.inj h
        obtain ⟨t, e⟩ := list2 l (by omega)
        exact .inl (.inr (.inl ⟨rfl, _, _, t, e, by omega, by omega, by unfold cont; omega⟩))
      · exact .inr ⟨(Prod.mk.inj h).1.symm, (Prod.mk.inj h).2.symm⟩
    · split at h
      · rename_i _ _ c1
        simp only [Bool.and_eq_true, beq_iff_eq, decide_eq_true_eq] at c1
        obtain ⟨⟨c1, c2, c3⟩, c4, c5⟩ := c1
        have g1 := hg 1 c2
        have g2 := hg 2 c4
        rw [Nat.zero_add] at g1 g2
        rw [g1] at c3
        rw [g2] at c5
        rw [g1, g2] at h
        split at h
        · rename_i c6
          obtain ⟨rfl, rfl⟩ := Prod.mk.inj h
          obtain ⟨t, e⟩ := list3 l (by omega)
          simp only [Utf8.valid, Bool.and_eq_true, Bool.or_eq_true, decide_eq_true_eq] at c6
          exact .inl (.inr (.inr (.inl ⟨rfl, _, _, _, t, e, by omega, by omega, by unfold cont; omega, by unfold cont; omega, by omega, by omega⟩)))
        · exact .inr ⟨(Prod.mk.inj h).1.symm, (Prod.mk.inj h).2.symm⟩
      · split at h
        · rename_i _ _ _ c1
          simp only [Bool.and_eq_true, beq_iff_eq, decide_eq_true_eq] at c1
          obtain ⟨⟨⟨c1, c2, c3⟩, c4, c5⟩, c6, c7⟩ := c1
          have g1 := hg 1 c2
          have g2 := hg 2 c4
          have g3 := hg 3 c6
          rw [Nat.zero_add] at g1 g2 g3
          rw [g1] at c3
          rw [g2] at c5
          rw [g3] at c7
          rw [g1, g2, g3] at h
          split at h
          · rename_i c8
            obtain ⟨rfl, rfl⟩ := Prod.mk.inj h
            obtain ⟨t, e⟩ := list4 l (by omega)
            simp only [Utf8.valid, Bool.and_eq_true, Bool.or_eq_true, decide_eq_true_eq] at c8
            exact .inl (.inr (.inr (.inr ⟨rfl, _, _, _, _, t, e, by omega, by omega, by unfold cont; omega, by unfold cont; omega, by unfold cont; omega, by omega, by omega⟩)))
          · exact .inr ⟨(Prod.mk.inj h).1.symm, (Prod.mk.inj h).2.symm⟩
        · exact .inr ⟨(Prod.mk.inj h).1.symm, (Prod.mk.inj h).2.symm⟩

theorem decode_valid (l : List UInt8) (hne : l ≠ []) (r n : Nat) (h : Utf8.decode ⟨l.toArray⟩ 0 = (r, n)) (hr : r ≠ 65533) : CharAt l n :=
  (decode_or l hne r n h).resolve_right (fun e => hr e.1)

/-- A byte that belongs to no character. -/
theorem decode_none (l : List UInt8) (hne : l ≠ []) (hno : ∀ n, ¬ CharAt l n) : Utf8.decode ⟨l.toArray⟩ 0 = (65533, 1) := by
  obtain ⟨r, n, h⟩ : ∃ r n, Utf8.decode ⟨l.toArray⟩ 0 = (r, n) := ⟨_, _, rfl⟩
  obtain ⟨rfl, rfl⟩ := (decode_or l hne r n h).resolve_left (hno n)
  exact h

end Go.Proofs.YtifemmjblamfkaaDoor
