/- The reference's heads of texts: 'came', 'WordHead'. -/
import Derived.Test.YtifemmjblamfkaaWord
namespace Go.Proofs.Ytifemmjblamfkaa
open Go.RowKit

def rdVal (s : ByteArray) (k : Nat) (tw lo : Bool) (f : Int) (op : Bool) : Value := .agg #[.string s, .int .i64 k, .bool tw, .bool lo, .int .i64 f, .bool op]

/-- What is told of reading a part: how many bytes, and how it came out. -/
def headN (r : Bool × Nat) : Int := if r.1 then (r.2 : Int) else 0
def headHow (n : Nat) (r : Bool × Nat) : Int := if r.1 then 0 else if r.2 = n then 1 else 2

set_option maxHeartbeats 400000 in
theorem came_any (s : ByteArray) (k : Nat) (tw lo : Bool) (f : Int) (op ok : Bool) (w : World) :
    Calls Try.prog 14 #[rdVal s k tw lo f op, .bool ok] w fun e w' => e = .returned (.tuple #[.int .i64 (headN (ok, k)), .int .i64 (headHow s.size (ok, k))]) ∧ Below w.heap.size w w' := by
  unfold rdVal
  cases ok
  · by_cases h : k = s.size
    · subst h
      go_enter Try.func14, Try.ntmps14
      go_wp2
      go_ret2
      exact ⟨by simp [headN, headHow], (Below.refl _ _).alloc (Nat.le_refl _) _⟩
    · have hk : (k == s.size) = false := by simpa using h
      go_enter Try.func14, Try.ntmps14
      go_wp2
      go_ret2
      exact ⟨by simp [headN, headHow, h], (Below.refl _ _).alloc (Nat.le_refl _) _⟩
  · go_enter Try.func14, Try.ntmps14
    go_wp2
    go_ret2
    exact ⟨rfl, (Below.refl _ _).alloc (Nat.le_refl _) _⟩

set_option maxHeartbeats 400000 in
theorem wordHead_any (s wd : ByteArray) (w : World) (hs : s.size ≤ 1000000000) (hwd : wd.size ≤ 1000000000) :
    Calls Try.prog 6 #[.string s, .string wd] w fun e w' => e = .returned (.tuple #[.int .i64 (headN (mWord s.data.toList wd.data.toList 0)), .int .i64 (headHow s.size (mWord s.data.toList wd.data.toList 0))]) ∧ Below w.heap.size w w' := by
  generalize hM : mWord s.data.toList wd.data.toList 0 = r
  obtain ⟨ok, k⟩ := r
  have HM := Lib.hid hM
  clear hM
  go_enter Try.func6, Try.ntmps6
  go_wp2_with fail
  refine (word_any w.heap.size s wd 0 false false 0 false _ hs hwd ⟨heap_alloc_new w _, Nat.zero_le _⟩).mono ?_
  rintro e w1 ⟨rfl, hst⟩
  rw [HM.out] at hst ⊢
  obtain ⟨f', hr, _⟩ := hst.rd
  have hb := hst.below (by simp)
  have hl := hr.lt
  obtain ⟨c0, c1, c2, c3, c4, c5⟩ := hr.all
  have HB := Lib.hid hb
  clear hst hr hb
  go_wp2_with fail
  refine (came_any s k false false f' false ok _).mono ?_
  rintro e w2 ⟨rfl, h2⟩
  have H2 := Lib.hid h2
  clear h2
  go_wp2_with fail
  go_ret2
  exact ⟨rfl, (((Below.refl _ w).alloc (Nat.le_refl _) _).trans HB.out).trans (H2.out.mono (by omega))⟩

end Go.Proofs.Ytifemmjblamfkaa
