/- The reference's mended text. -/
import Derived.Test.YtjjbgoknmofajaaDoorPart
import Derived.Test.YtjjbgoknmofajaaDoorMade
namespace Go.Proofs.YtjjbgoknmofajaaDoor
open Go.RowKit

theorem char_append {c t : List UInt8} {n : Nat} (h : CharAt c n) : CharAt (c ++ t) n := by
  rcases h with ⟨rfl, a, u, rfl, h1⟩ | ⟨rfl, a, b, u, rfl, h1⟩ | ⟨rfl, a, b, d, u, rfl, h1⟩ | ⟨rfl, a, b, d, f, u, rfl, h1⟩
  · exact .inl ⟨rfl, a, u ++ t, rfl, h1⟩
  · exact .inr (.inl ⟨rfl, a, b, u ++ t, rfl, h1⟩)
  · exact .inr (.inr (.inl ⟨rfl, a, b, d, u ++ t, rfl, h1⟩))
  · exact .inr (.inr (.inr ⟨rfl, a, b, d, f, u ++ t, rfl, h1⟩))

theorem char_take {l : List UInt8} {n : Nat} (h : CharAt l n) : CharAt (l.take n) n := by
  rcases h with ⟨rfl, a, u, rfl, h1⟩ | ⟨rfl, a, b, u, rfl, h1⟩ | ⟨rfl, a, b, d, u, rfl, h1⟩ | ⟨rfl, a, b, d, f, u, rfl, h1⟩
  · exact .inl ⟨rfl, a, [], rfl, h1⟩
  · exact .inr (.inl ⟨rfl, a, b, [], rfl, h1⟩)
  · exact .inr (.inr (.inl ⟨rfl, a, b, d, [], rfl, h1⟩))
  · exact .inr (.inr (.inr ⟨rfl, a, b, d, f, [], rfl, h1⟩))

theorem char_one {l : List UInt8} {n m : Nat} (h : CharAt l n) (k : CharAt l m) : n = m := by
  rcases h with ⟨rfl, a, u, rfl, h1⟩ | ⟨rfl, a, b, u, rfl, h1, h2, _⟩ | ⟨rfl, a, b, d, u, rfl, h1, h2, _⟩ | ⟨rfl, a, b, d, f, u, rfl, h1, h2, _⟩ <;>
  rcases k with ⟨rfl, a', u', e, k1⟩ | ⟨rfl, a', b', u', e, k1, k2, _⟩ | ⟨rfl, a', b', d', u', e, k1, k2, _⟩ | ⟨rfl, a', b', d', f', u', e, k1, k2, _⟩ <;>
  first
    | rfl
    | (have := (List.cons.inj e).1; subst this; omega)

theorem Text.add {a b : List UInt8} (h : Text a) (k : Text b) : Text (a ++ b) := by
  induction h with
  | nil => exact k
  | cons hc _ ih =>
    refine .cons (char_append hc) ?_
    rw [List.drop_append_of_le_length hc.le.2]
    exact ih

theorem Text.one {l : List UInt8} {n : Nat} (h : CharAt l n) : Text (l.take n) :=
  .cons (char_take h) (by rw [List.drop_eq_nil_of_le (by rw [List.length_take]; exact Nat.min_le_left _ _)]; exact .nil)

/-- A text goes on behind its first character. -/
theorem text_step {l : List UInt8} {n : Nat} (h : CharAt l n) : Text l ↔ Text (l.drop n) := by
  constructor
  · intro k
    cases k with
    | nil => have := h.le; simp at this; omega
    | cons hc ht => rw [char_one h hc]; exact ht
  · exact .cons h

theorem text_none {l : List UInt8} (hne : l ≠ []) (h : ∀ n, ¬ CharAt l n) : ¬ Text l := by
  intro k
  cases k with
  | nil => exact hne rfl
  | cons hc _ => exact h _ hc

theorem broken_text : Text [239, 191, 189] := Text.one (l := [239, 191, 189]) (n := 3) (.inr (.inr (.inl ⟨rfl, 239, 191, 189, [], rfl, by decide, by decide, by unfold cont; decide, by unfold cont; decide, by decide, by decide⟩)))

/-- Between two rounds. -/
structure MInv (w : World) (l : List UInt8) (k : Nat) (cl : Bool) (v : Value) (out : List UInt8) (wr : World) : Prop where
  made : MadeQ w wr v out
  text : Text out
  len : out.length ≤ 3 * k
  yes : cl = true → out = l.take k ∧ (Text l ↔ Text (l.drop k))
  no : cl = false → ¬ Text l

/-- What 'Mended' tells. -/
structure Mend (w : World) (l : List UInt8) (e : Ending) (w' : World) : Prop where
  below : Below w.heap.size w w'
  what : ∃ (t : ByteArray) (cl : Bool), e = .returned (.tuple #[.string t, .bool cl]) ∧ Text t.data.toList ∧ t.size ≤ 3 * l.length ∧ (cl = true → Text l ∧ t.data.toList = l) ∧ (cl = false → ¬ Text l)

set_option maxRecDepth 100000 in
set_option maxHeartbeats 2000000 in
theorem mended_any (s : ByteArray) (hs : s.size ≤ 2147483647) (w : World) :
    Calls Tryd.prog 25 #[.string s] w (Mend w s.data.toList) := by
  go_enter Tryd.func25, Tryd.ntmps25
  go_wp2_with fail
  go_loopw [4, 5, 6] (fun v c t wr => ∃ (k : Nat) (cl : Bool) (out : List UInt8), t = .int .i64 k ∧ k ≤ s.size ∧ c = .bool cl ∧ MInv w s.data.toList k cl v out wr) (fun _ _ t _ => s.size - (intOf t).toNat)
  case atStart =>
    refine ⟨0, true, [], rfl, Nat.zero_le _, rfl, ⟨Own.lit w _ #[] [] rfl (Nat.zero_le _) 0 0 rfl rfl, (Below.refl _ _).alloc (Nat.le_refl _) _, fun a ha => by simp [baseOf] at ha; subst ha; exact Nat.le_refl _⟩, .nil, Nat.zero_le _, fun _ => ⟨by simp, by simp⟩, fun h => by cases h⟩
  case round =>
    obtain ⟨k, cl, out, rfl, hk, rfl, hinv⟩ := hrel
    have HI := Lib.hid hinv
    have hol := hinv.len
    clear hinv
    by_cases hk2 : k < s.size
    · have hk0 : (0 : Int) ≤ (k : Int) := by omega
      have hk1 : (k : Int) < (s.size : Int) := by omega
      have hne : s.data.toList.drop k ≠ [] := by
        intro e
        have := congrArg List.length e
        rw [List.length_drop, size_eq, List.length_nil] at this
        omega
      have HNe := Lib.hid hne
      clear hne
      go_wp2_with fail
      refine (width_any s k hk2 (by omega) _).mono ?_
      rintro e w1 ⟨b1, n, rfl, ⟨hn0, hch⟩ | ⟨rfl, hno⟩⟩
      · have hle := hch.le
        rw [List.length_drop, size_eq] at hle
        have hm := HI.out.made.step b1
        have HM := Lib.hid hm
        have HC := Lib.hid hch
        clear b1 hm hch
        have hnz : ((n : Int) == 0) = false := by rw [beq_eq_false_iff_ne]; omega
        have h1 : (0 : Int) ≤ (k : Int) + (n : Int) := by omega
        have h2 : (k : Int) ≤ (k : Int) + (n : Int) := by omega
        have h3 : (k : Int) + (n : Int) ≤ (s.size : Int) := by omega
        go_wp2_with (first
          | (at_builtin
             refine wpList_app u8m rfl (.tmp 22) (.tmp 28) 9 rfl (AppTo.refl HM.out.own) (by rfl) ((s.data.toList.drop k).take n) (by rfl) (by exact src_strm _ _ (extract_m s k n)) (by rw [List.length_take, List.length_drop, size_eq]; omega) ?_
             intro v3 w3 k3
             have K3 := Lib.hid k3
             clear k3))
        refine ⟨⟨k + n, cl, _, by simp, by omega, rfl, HM.out.app K3.out, HI.out.text.add (Text.one HC.out), ?_, fun hc => ?_, HI.out.no⟩, by simp only [intOf]; omega⟩
        · rw [List.length_append, List.length_take, List.length_drop, size_eq]
          omega
        · obtain ⟨e1, e2⟩ := HI.out.yes hc
          refine ⟨by rw [e1, ← List.take_add], e2.trans ?_⟩
          rw [← List.drop_drop]
          exact text_step HC.out
      · have hm := HI.out.made.step b1
        have HM := Lib.hid hm
        have HNo := Lib.hid hno
        clear b1 hm hno
        go_wp2_with (first
          | (at_builtin
             refine wpList_app u8m rfl (.tmp 18) (.const (.string ⟨#[239, 191, 189]⟩)) 9 rfl (AppTo.refl HM.out.own) (by rfl) [239, 191, 189] (by rfl) (by exact src_strm _ _ rfl) (by simp; omega) ?_
             intro v3 w3 k3
             have K3 := Lib.hid k3
             clear k3))
        refine ⟨⟨k + 1, false, _, by simp, by omega, rfl, HM.out.app K3.out, HI.out.text.add broken_text, (by simp; omega), fun h => (by cases h), fun _ ht => ?_⟩, by simp only [intOf]; omega⟩
        cases cl with
        | false => exact HI.out.no rfl ht
        | true => exact text_none HNe.out HNo.out ((HI.out.yes rfl).2.1 ht)
    · obtain rfl : k = s.size := by omega
      go_wp2_with (refine wpList_toString u8m rfl (.tmp 33) _ rfl string9m rfl HI.out.made.own ?_)
      go_ret2
      refine ⟨HI.out.made.below, ⟨out.toArray⟩, cl, rfl, HI.out.text, by show out.toArray.size ≤ _; rw [size_eq]; simpa using hol, fun h => ?_, HI.out.no⟩
      obtain ⟨e1, e2⟩ := HI.out.yes h
      have hd : s.data.toList.drop s.size = [] := List.drop_eq_nil_of_le (by rw [size_eq]; exact Nat.le_refl _)
      rw [hd] at e2
      exact ⟨e2.2 .nil, by show out = _; rw [e1, List.take_of_length_le (by rw [size_eq]; exact Nat.le_refl _)]⟩

end Go.Proofs.YtjjbgoknmofajaaDoor
