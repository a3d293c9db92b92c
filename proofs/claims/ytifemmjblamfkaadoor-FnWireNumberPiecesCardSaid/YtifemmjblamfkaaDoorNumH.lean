/- The reference's 'NumberHead'. -/
import Derived.Test.YtifemmjblamfkaaDoorCame
import Derived.Test.YtifemmjblamfkaaDoorNumW
namespace Go.Proofs.YtifemmjblamfkaaDoor
open Go.RowKit

set_option maxHeartbeats 400000 in
theorem numberHead_any (s : ByteArray) (w : World) (hs : s.size ≤ 1000000000) :
    Calls Tryd.prog 6 #[.string s] w fun e w' => e = .returned (.tuple #[.int .i64 (headN (mNumber s.data.toList 0)), .int .i64 (headHow s.size (mNumber s.data.toList 0))]) ∧ Below w.heap.size w w' := by
  generalize hM : mNumber s.data.toList 0 = r
  obtain ⟨ok, k⟩ := r
  have HM := Lib.hid hM
  clear hM
  go_enter Tryd.func6, Tryd.ntmps6
  go_wp2_with fail
  refine (number_any w.heap.size s 0 false false 0 false _ (by omega) ⟨heap_alloc_new w _, Nat.zero_le _⟩).mono ?_
  rintro e w1 ⟨rfl, hst⟩
  rw [HM.out] at hst ⊢
  obtain ⟨f', hr, _⟩ := hst.rd
  have hb := hst.below (by simp)
  have hl := hr.lt
  obtain ⟨c0, c1, c2, c3, c4, c5⟩ := hr.all
  have HB := Lib.hid hb
  clear hst hr hb
  go_wp2_with fail
  refine (came_any s k false false f' false ok _).mono ?_
  rintro e w2 ⟨rfl, h2⟩
  have H2 := Lib.hid h2
  clear h2
  go_wp2_with fail
  go_ret2
  exact ⟨rfl, (((Below.refl _ w).alloc (Nat.le_refl _) _).trans HB.out).trans (H2.out.mono (by omega))⟩

end Go.Proofs.YtifemmjblamfkaaDoor
