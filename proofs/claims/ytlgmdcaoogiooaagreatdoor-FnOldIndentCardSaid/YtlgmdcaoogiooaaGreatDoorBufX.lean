/- bytes.Buffer: writing. -/
import Derived.Test.YtlgmdcaoogiooaaGreatDoorBufV
namespace Go.Proofs.YtlgmdcaoogiooaaGreatDoor.Bf
open Go.RowKit Go.Proofs.YtlgmdcaoogiooaaGreatDoor

theorem Bf.raw {w : World} {b g n cap : Nat} {l : List UInt8} (h : Bf w b g n cap l) : (∀ j, j < l.length → w.cell? ⟨g, j, none⟩ = (l.map B)[j]?) ∧ (∀ j, j < cap → (w.cell? ⟨g, j, none⟩).isSome = true ∧ w.frozen? ⟨g, j, none⟩ = false) := by
  rcases h.own with ⟨h1, _⟩ | ⟨g2, off, c, h1, h2, h3, h4, h5, h6⟩
  · cases h1
  · cases h1
    exact ⟨fun j hj => by have := h5 j hj; rwa [Nat.zero_add] at this, fun j hj => by have := h6 j hj; rwa [Nat.zero_add] at this⟩

/-- The bytes were put behind the text. -/
theorem Bf.put {w : World} {b g n k cap : Nat} {l m : List UInt8} (h : Bf w b g (n + k) cap l) (hn : n = l.length) (hk : k = m.length) : Bf (w.setCells g n (m.map B)) b g (n + k) cap (l ++ m) := by
  have hr := h.raw
  have hle := h.le
  exact ⟨(World.heap_setCells_other w g _ _ (i := b) h.lt h.ne).trans h.row, copy_own w g n cap l m hn h.cells.2.2.2.2.2.2 (by omega) h.ltg hr.1 hr.2, h.le, h.ne⟩

/-- What changes while bytes are written. -/
structure Wr (b g : Nat) (w w' : World) : Prop where
  os : w'.os = w.os
  tape : w'.tape = w.tape
  output : w'.output = w.output
  size : w.heap.size ≤ w'.heap.size
  block : ∀ k, k < w.heap.size → k ≠ b → k ≠ g → w'.heap[k]? = w.heap[k]?

theorem Wr.of {b g : Nat} {w w' : World} (h : w.grownBy w' (some b)) : Wr b g w w' := ⟨h.os, h.tape, h.output, h.size, fun k h1 h2 _ => h.block k h1 (fun e => by cases e; exact h2 rfl)⟩

theorem Wr.put {b g g' : Nat} {w w' : World} (h : Wr b g w w') (hg : g' = g ∨ w.heap.size ≤ g') (o : Nat) (vs : List Value) : Wr b g w (w'.setCells g' o vs) := by
  refine ⟨by rw [World.os_setCells]; exact h.os, by rw [tape_setCells]; exact h.tape, by rw [World.output_setCells]; exact h.output, by rw [size_setCells]; exact h.size, fun k h1 h2 h3 => ?_⟩
  have hne : k ≠ g' := by
    rcases hg with e | e
    · rw [e]; exact h3
    · omega
  exact (World.heap_setCells_other w' g' _ _ (i := k) (Nat.lt_of_lt_of_le h1 h.size) hne).trans (h.block k h1 h2 h3)

theorem tryGrow_yes' (b g n cap k : Nat) (l : List UInt8) (w : World) (h : Bf w b g n cap l) (hk : n + k ≤ cap) :
    Calls Tryz.prog 46 #[.pointer (some ⟨b, 0, none⟩), .int .i64 (k : Int)] w fun e w' => e = .returned (.tuple #[.int .i64 (n : Int), .bool true]) ∧ Bf w' b g (n + k) cap l ∧ w.grownBy w' (some b) :=
  (tryGrow_yes b g n cap k l w h hk).mono fun _ _ ⟨h1, h2⟩ => ⟨h1, by subst h2; exact h.cut _ hk, by subst h2; exact grown_set _ _ _ _⟩

/-- What 'Write' leaves. -/
def Wrote (w : World) (b g n : Nat) (l m : List UInt8) (e : Ending) (w' : World) : Prop :=
  (∃ x, e = .returned (.tuple #[x, .nilIface])) ∧ ∃ g' cap', Bf w' b g' (n + m.length) cap' (l ++ m) ∧ (g' = g ∨ w.heap.size ≤ g') ∧ Wr b g w w'

theorem own_other {w w' : World} {v : Value} {m : List UInt8} {b : Nat} (h : Own w v m) (hne : ∀ a, baseOf v = some a → a.block ≠ b) (hg : w.grownBy w' (some b)) : Own w' v m :=
  h.of_heap hg.size (fun k h1 hk => hg.block k h1 (fun e => by
    cases e
    rcases hk with hk | ⟨o, hk⟩
    · exact hne _ hk rfl
    · exact hne _ hk rfl))

set_option maxRecDepth 100000 in
set_option maxHeartbeats 1000000 in
theorem write_any (b g n cap : Nat) (l m : List UInt8) (v : Value) (w : World) (hn : n = l.length) (h : Bf w b g n cap l) (hv : Own w v m) (hne : ∀ a, baseOf v = some a → a.block ≠ b) (hb : n + m.length ≤ 1000000000) :
    Calls Tryz.prog 28 #[.pointer (some ⟨b, 0, none⟩), v] w (Wrote w b g n l m) := by
  obtain ⟨va, vc, rfl, hvc⟩ := hv.form
  obtain ⟨k, hk⟩ : ∃ k, k = m.length := ⟨_, rfl⟩
  rw [← hk] at hv hne hvc hb ⊢
  unfold Wrote
  rw [← hk]
  obtain ⟨W1, hW1⟩ : ∃ W1, W1 = w.setCell ⟨b, 2, none⟩ (.int .i8 0) := ⟨_, rfl⟩
  have G1 := Lib.hid (show w.grownBy W1 (some b) by rw [hW1]; exact grown_set _ _ _ _)
  have H1 := Lib.hid (show Bf W1 b g n cap l by rw [hW1]; exact h.read)
  have Z1 := Lib.hid (show W1.heap.size = w.heap.size by rw [hW1]; simp [World.setCell])
  have V1 := Lib.hid (own_other hv hne G1.out)
  have HNE := Lib.hid hne
  have HN := Lib.hid hn
  have HK := Lib.hid hk
  have HW1 := Lib.hid hW1
  obtain ⟨c0, c1, c2, f0, f1, f2, hc⟩ := h.cells
  unfold maxLen at hc
  have hle := h.le
  have hlt := h.lt
  -- the end
  have fin : ∀ (w3 : World) (g' cap' : Nat), Bf w3 b g' (n + k) cap' l → (g' = g ∨ w.heap.size ≤ g') → w.grownBy w3 (some b) → ∀ x, (∃ x', Ending.returned (.tuple #[x, .nilIface]) = .returned (.tuple #[x', .nilIface])) ∧ ∃ g'' cap'', Bf (w3.setCells g' n (m.map B)) b g'' (n + k) cap'' (l ++ m) ∧ (g'' = g ∨ w.heap.size ≤ g'') ∧ Wr b g w (w3.setCells g' n (m.map B)) := fun w3 g' cap' h3 hg3 hw3 x =>
    ⟨⟨x, rfl⟩, g', cap', h3.put HN.out HK.out, hg3, (Wr.of hw3).put hg3 _ _⟩
  have FIN := Lib.hid fin
  have hcp : ∀ (w3 : World) (g' cap' : Nat), Bf w3 b g' (n + k) cap' l → Own w3 (.slice va k vc) m → (Builtin.copy_ #[51, 51] 3 #[.slice (some ⟨g', n, none⟩) k (cap' - n), .slice va k vc]).run Tryz.prog w3 = .ok (goInt k) (w3.setCells g' n (m.map B)) := fun w3 g' cap' h3 hv3 => by
    have := copy_run w3 g' n k (cap' - n) _ m hv3 (by rw [HK.out]; exact Nat.le_refl _) (fun j hj => h3.raw.2 (n + j) (by have := h3.le; have := HK.out; omega))
    rw [← HK.out] at this
    exact this
  have HCP := Lib.hid hcp
  clear h hv hn hk hne hW1 fin hcp
  by_cases hy : n + k ≤ cap
  · by_cases hcn : n < cap
    · go_enter Tryz.func28, Tryz.ntmps28
      go_wp2_with fail
      (try rw [← HW1.out])
      refine (tryGrow_yes' b g n cap k l _ H1.out hy).mono ?_
      rintro e w2 ⟨rfl, hB2, hG2⟩
      have hcopy := HCP.out w2 g cap hB2 (own_other V1.out HNE.out hG2)
      have F2 := Lib.hid (FIN.out w2 g cap hB2 (.inl rfl) (grownR G1.out hG2))
      clear c0 c1 c2 f0 f1 f2
      obtain ⟨c0, c1, c2, f0, f1, f2, _⟩ := hB2.cells
      clear hB2 hG2
      go_wp2_with fail
      go_ret2
      exact F2.out _
    · obtain rfl : n = cap := by omega
      have hk0 : k = 0 := by omega
      have hm : m = [] := List.eq_nil_of_length_eq_zero (by rw [← HK.out]; exact hk0)
      have hs : (Tryz.prog.info? 5).map (·.size) = some 1 := by kernel_rfl
      subst hk0 hm
      go_enter Tryz.func28, Tryz.ntmps28
      go_wp2_with fail
      (try rw [← HW1.out])
      refine (tryGrow_yes' b g n n 0 l _ H1.out hy).mono ?_
      rintro e w2 ⟨rfl, hB2, hG2⟩
      have hcopy : ∀ a c, (Builtin.copy_ #[51, 51] 3 #[.slice a 0 c, .slice va 0 vc]).run Tryz.prog w2 = .ok (goInt 0) w2 := fun a c => run_copy_none w2 _ _ _ _ _ _ _ _ _ _ (u8m).und hs (by simp)
      have F2 := Lib.hid (FIN.out w2 g n hB2 (.inl rfl) (grownR G1.out hG2))
      clear c0 c1 c2 f0 f1 f2
      obtain ⟨c0, c1, c2, f0, f1, f2, _⟩ := hB2.cells
      clear hB2 hG2
      go_wp2_with fail
      go_ret2
      exact F2.out _
  · go_enter Tryz.func28, Tryz.ntmps28
    go_wp2_with fail
    (try rw [← HW1.out])
    refine (tryGrow_no b g n cap k l _ H1.out (by omega)).mono ?_
    rintro e w2 ⟨rfl, rfl⟩
    go_wp2_with fail
    refine (grow_any b g n cap k l _ HN.out H1.out hb).mono ?_
    rintro e w3 ⟨rfl, g', cap', hB2, hg2, hG2⟩
    have hcopy := HCP.out w3 g' cap' hB2 (own_other V1.out HNE.out hG2)
    have F2 := Lib.hid (FIN.out w3 g' cap' hB2 (by rw [← Z1.out]; exact hg2) (grownR G1.out hG2))
    clear c0 c1 c2 f0 f1 f2
    obtain ⟨c0, c1, c2, f0, f1, f2, hc'⟩ := hB2.cells
    have hle' := hB2.le
    unfold maxLen at hc'
    clear hB2 hg2 hG2
    have hcn : n < cap' := by omega
    go_wp2_with fail
    go_ret2
    exact F2.out _

end Go.Proofs.YtlgmdcaoogiooaaGreatDoor.Bf
