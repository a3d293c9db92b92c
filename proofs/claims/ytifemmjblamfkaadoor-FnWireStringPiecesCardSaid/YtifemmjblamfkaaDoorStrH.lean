/- The reference's 'StringHead'. -/
import Derived.Test.YtifemmjblamfkaaDoorCame
import Derived.Test.YtifemmjblamfkaaDoorStrN
namespace Go.Proofs.YtifemmjblamfkaaDoor
open Go.RowKit

/-- How many bytes a string has that was read. -/
def headS (r : Bool × Nat) : Int := if r.1 then ((r.2 + 1 : Nat) : Int) else 0

theorem came_at (s : ByteArray) (k : Nat) (K : Int) (hK : ((k : Nat) : Int) = K) (tw lo : Bool) (f : Int) (op ok : Bool) (w : World) :
    Calls Tryd.prog 12 #[.agg #[.string s, .int .i64 K, .bool tw, .bool lo, .int .i64 f, .bool op], .bool ok] w fun e w' => e = .returned (.tuple #[.int .i64 (headN (ok, k)), .int .i64 (headHow s.size (ok, k))]) ∧ Below w.heap.size w w' := by
  subst hK
  exact came_any s k tw lo f op ok w

set_option maxHeartbeats 400000 in
theorem stringHead_any (s : ByteArray) (vf : Bool) (w : World) (hs : s.size ≤ 1000000000) :
    Calls Tryd.prog 9 #[.string s, .bool vf] w fun e w' => (∃ r, QRel (!vf) s.data.toList 0 r ∧ e = .returned (.tuple #[.int .i64 (headS r), .int .i64 (headHow s.size r)])) ∧ Below w.heap.size w w' := by
  go_enter Tryd.func9, Tryd.ntmps9
  go_wp2_with fail
  refine (quoted_any w.heap.size s 0 false (!vf) 0 false _ (by omega) ⟨heap_alloc_new w _, Nat.zero_le _⟩).mono ?_
  rintro e w1 ⟨⟨⟨ok, k⟩, hq, rfl, hst⟩⟩
  have HQ := Lib.hid hq
  have hlt := Wire.QRel.lt hq
  clear hq
  obtain ⟨f', hr, _⟩ := hst.rd
  have hb := hst.below (by simp)
  have hl := hr.lt
  have HB := Lib.hid hb
  cases ok with
  | false =>
    obtain ⟨c0, c1, c2, c3, c4, c5⟩ := hr.all
    clear hst hr hb hlt
    go_wp2_with fail
    refine (came_any s k false (!vf) f' false false _).mono ?_
    rintro e w2 ⟨rfl, h2⟩
    have H2 := Lib.hid h2
    clear h2
    go_wp2_with fail
    go_ret2
    exact ⟨⟨_, HQ.out, rfl⟩, (((Below.refl _ w).alloc (Nat.le_refl _) _).trans HB.out).trans (H2.out.mono (by omega))⟩
  | true =>
    have hk : k < s.size := by have := hlt rfl; rwa [size_eq] at this
    have hst2 := hst.set hk
    obtain ⟨f2, hr2, _⟩ := hst2.rd
    obtain ⟨c0, c1, c2, c3, c4, c5⟩ := hr.all
    obtain ⟨_, _, _, _, g1, g4⟩ := hr.cells
    obtain ⟨d0, d1, d2, d3, d4, d5⟩ := hr2.all
    have hb2 := hst2.below (by simp)
    have HB2 := Lib.hid hb2
    have hl2 := hr2.lt
    clear hst hr hb hlt hst2 hr2 hb2 HB
    go_wp2_with fail
    refine (came_at s (k + 1) ((k : Int) + 1) rfl false (!vf) 0 false true _).mono ?_
    rintro e w2 ⟨rfl, h2⟩
    have H2 := Lib.hid h2
    clear h2
    go_wp2_with fail
    go_ret2
    exact ⟨⟨_, HQ.out, rfl⟩, (((Below.refl _ w).alloc (Nat.le_refl _) _).trans HB2.out).trans (H2.out.mono (by omega))⟩

end Go.Proofs.YtifemmjblamfkaaDoor
