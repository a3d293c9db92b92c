/- bytes.Buffer: room, what is free, writing, the text. -/
import Derived.Test.YtlgmdcaoogiooaaGreatDoorBufW
namespace Go.Proofs.YtlgmdcaoogiooaaGreatDoor.Bf
open Go.RowKit Go.Proofs.YtlgmdcaoogiooaaGreatDoor

/-- What 'Grow' leaves: at least k bytes of room. -/
def Room (w : World) (b g n k : Nat) (l : List UInt8) (e : Ending) (w' : World) : Prop :=
  e = .returned (.tuple #[]) ∧ ∃ g' cap', Bf w' b g' n cap' l ∧ n + k ≤ cap' ∧ (g' = g ∨ w.heap.size ≤ g') ∧ w.grownBy w' (some b)

set_option maxRecDepth 100000 in
set_option maxHeartbeats 1000000 in
theorem room_any (b g n cap k : Nat) (l : List UInt8) (w : World) (hn : n = l.length) (h : Bf w b g n cap l) (hb : n + k ≤ 1000000000) :
    Calls Tryz.prog 25 #[.pointer (some ⟨b, 0, none⟩), .int .i64 (k : Int)] w (Room w b g n k l) := by
  have H := Lib.hid h
  have HN := Lib.hid hn
  have k0 : ¬ (k : Int) < 0 := by omega
  clear h hn
  go_enter Tryz.func25, Tryz.ntmps25
  go_wp2_with fail
  refine (grow_any b g n cap k l _ HN.out H.out hb).mono ?_
  rintro e w1 ⟨rfl, g', cap', h1, hg, hw⟩
  have H1 := Lib.hid h1
  have HG := Lib.hid hg
  have HW := Lib.hid hw
  obtain ⟨c0, c1, c2, f0, f1, f2, hc⟩ := h1.cells
  have hle := h1.le
  have hlt := h1.lt
  unfold maxLen at hc
  clear h1 hg hw
  have i0 : (0 : Int) ≤ (n : Int) := by omega
  have i1 : (n : Int) ≤ (cap' : Int) := by omega
  go_wp2_with fail
  go_end0
  exact ⟨rfl, g', cap', H1.out.cut n (by omega), hle, HG.out, grownR HW.out (grown_set _ _ _ _)⟩

/-- What is free behind the text. -/
def Free (w : World) (g n cap : Nat) (e : Ending) (w' : World) : Prop :=
  ∃ o, e = .returned (.slice (some ⟨g, o, none⟩) 0 (cap - n)) ∧ (o = n ∨ (n = cap ∧ o = 0)) ∧ w.grownBy w' none ∧ w'.heap.size = w.heap.size

set_option maxRecDepth 100000 in
set_option maxHeartbeats 1000000 in
theorem available_any (b g n cap : Nat) (l : List UInt8) (w : World) (h : Bf w b g n cap l) :
    Calls Tryz.prog 26 #[.pointer (some ⟨b, 0, none⟩)] w (Free w g n cap) := by
  obtain ⟨c0, c1, c2, f0, f1, f2, hc⟩ := h.cells
  have hle := h.le
  unfold maxLen at hc
  clear h
  by_cases hn : n < cap
  · go_enter Tryz.func26, Tryz.ntmps26
    go_wp2_with fail
    go_big_quiet (fail)
    go_wp2_with fail
    go_ret
    exact ⟨n, rfl, .inl rfl, ⟨rfl, rfl, rfl, Nat.le_refl _, fun _ _ _ => rfl⟩, rfl⟩
  · obtain rfl : n = cap := by omega
    go_enter Tryz.func26, Tryz.ntmps26
    go_wp2_with fail
    go_big_quiet (fail)
    go_wp2_with fail
    go_ret
    exact ⟨0, by simp, .inr ⟨rfl, rfl⟩, ⟨rfl, rfl, rfl, Nat.le_refl _, fun _ _ _ => rfl⟩, rfl⟩

set_option maxRecDepth 100000 in
set_option maxHeartbeats 1000000 in
theorem string_any (b g n cap : Nat) (l : List UInt8) (w : World) (hn : n = l.length) (h : Bf w b g n cap l) :
    Calls Tryz.prog 14 #[.pointer (some ⟨b, 0, none⟩)] w fun e w' => e = .returned (.string ⟨l.toArray⟩) ∧ w.grownBy w' none ∧ w'.heap.size = w.heap.size := by
  obtain ⟨c0, c1, c2, f0, f1, f2, hc⟩ := h.cells
  have H := Lib.hid h
  have HN := Lib.hid hn
  have hle := h.le
  unfold maxLen at hc
  clear h hn
  have hconv : ∀ W : World, W.heap = w.heap → (convert 51 9 (.slice (some ⟨g, 0, none⟩) n cap)).run Tryz.prog W = .ok (.string ⟨l.toArray⟩) W := fun W hW => by
    have ho : Own W (.slice (some ⟨g, 0, none⟩) n cap) l := (H.out.own' HN.out).of_heap (by rw [hW]; exact Nat.le_refl _) (fun k _ _ => by rw [hW])
    exact run_toString u8m W 9 string9m ho
  have hc1 := hconv w rfl
  have hc2 := hconv w.drew rfl
  clear hconv
  go_enter Tryz.func14, Tryz.ntmps14
  go_wp2_with fail
  go_region
  all_goals
    go_wp2_with fail
    go_ret
    exact ⟨rfl, ⟨rfl, rfl, rfl, Nat.le_refl _, fun _ _ _ => rfl⟩, rfl⟩

end Go.Proofs.YtlgmdcaoogiooaaGreatDoor.Bf
