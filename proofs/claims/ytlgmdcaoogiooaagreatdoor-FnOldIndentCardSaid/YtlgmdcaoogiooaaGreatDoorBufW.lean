/- bytes.Buffer: growing, writing, the text. -/
import Derived.Test.YtlgmdcaoogiooaaGreatDoorBuf
import Derived.Lib.BufferMore
import Derived.Shelf.RegionOpenPlain
namespace Go.Proofs.YtlgmdcaoogiooaaGreatDoor.Bf
open Go.RowKit Go.Proofs.YtlgmdcaoogiooaaGreatDoor

/-- The length, and a world of the same memory. -/
theorem len_any' (b g n cap : Nat) (l : List UInt8) (w : World) (h : Bf w b g n cap l) :
    Calls Tryz.prog 63 #[.pointer (some ⟨b, 0, none⟩)] w fun e w' => e = .returned (.int .i64 (n : Int)) ∧ w.grownBy w' none ∧ w'.heap.size = w.heap.size :=
  (len_any b g n cap l w h).mono fun e w' ⟨he, k, hk⟩ => ⟨he, by subst hk; exact ⟨rfl, rfl, rfl, Nat.le_refl _, fun _ _ _ => rfl⟩, by subst hk; rfl⟩

theorem Bf.grownN {w w' : World} {b g n cap : Nat} {l : List UInt8} (h : Bf w b g n cap l) (hg : w.grownBy w' none) : Bf w' b g n cap l :=
  h.same hg.size (hg.block b h.lt (by simp)) (hg.block g h.ltg (by simp))

theorem grownN {w w1 w2 : World} {r : Option Nat} (h : w.grownBy w1 none) (k : w1.grownBy w2 r) : w.grownBy w2 r :=
  ⟨k.os.trans h.os, k.tape.trans h.tape, k.output.trans h.output, Nat.le_trans h.size k.size, fun q h1 h2 => (k.block q (Nat.lt_of_lt_of_le h1 h.size) h2).trans (h.block q h1 (by simp))⟩

theorem grownR {w w1 w2 : World} {r : Option Nat} (h : w.grownBy w1 r) (k : w1.grownBy w2 r) : w.grownBy w2 r :=
  ⟨k.os.trans h.os, k.tape.trans h.tape, k.output.trans h.output, Nat.le_trans h.size k.size, fun q h1 h2 => (k.block q (Nat.lt_of_lt_of_le h1 h.size) h2).trans (h.block q h1 h2)⟩

theorem growSlice_drew (g n cap k : Nat) (l : List UInt8) (w : World) (x : Int) (hx : x = (k : Int)) (hn : n = l.length) (hown : Own w (.slice (some ⟨g, 0, none⟩) n cap) l) (hk : cap < n + k) (hb : n + k ≤ 1000000000) :
    Calls Tryz.prog 65 #[.slice (some ⟨g, 0, none⟩) n cap, .int .i64 x] w.drew (Grew w n k l) := by
  subst hx
  exact (growSlice_any g n cap k l w.drew hn hown.drew hk hb).mono fun e w' ⟨cap2, h1, h2, h3, h4⟩ => ⟨cap2, h1, h2, h3, ⟨h4.os, h4.tape, h4.output, h4.size, h4.block⟩⟩

/-- What 'grow' leaves. -/
def Gw (w : World) (b g n k : Nat) (l : List UInt8) (e : Ending) (w' : World) : Prop :=
  e = .returned (.int .i64 (n : Int)) ∧ ∃ g' cap', Bf w' b g' (n + k) cap' l ∧ (g' = g ∨ w.heap.size ≤ g') ∧ w.grownBy w' (some b)

/-- A new row: the buffer's cell is set to it. -/
theorem Bf.move {w w1 : World} {b g n cap : Nat} {l : List UInt8} (h : Bf w b g n cap l) (hb : Below w.heap.size w w1) {g2 cap2 m : Nat} (ho : Own w1 (.slice (some ⟨g2, 0, none⟩) l.length cap2) l) (h2 : w.heap.size ≤ g2) (hm : m ≤ cap2) (x : Value) (hx : x = .slice (some ⟨g2, 0, none⟩) m cap2) :
    Bf (w1.setCell ⟨b, 0, none⟩ x) b g2 m cap2 l := by
  subst hx
  have hlt := h.lt
  have h1 : w1.heap[b]? = _ := (hb.block b hlt).trans h.row
  exact ⟨heap_setCell_same w1 b 0 _ _ _ h1, ho.of_heap (by simp [World.setCell]) (fun k _ hk => by
    refine Below.heap_setCell w1 ⟨b, 0, none⟩ _ k (fun e => ?_)
    have e : k = b := e
    rcases hk with hk | ⟨o, hk⟩
    · simp only [baseOf, Option.some.injEq, Addr.mk.injEq, and_true] at hk; omega
    · simp only [baseOf, Option.some.injEq, Addr.mk.injEq, and_true] at hk; omega), hm, by omega⟩

theorem Bf.own' {w : World} {b g n cap : Nat} {l : List UInt8} (h : Bf w b g n cap l) (hn : n = l.length) : Own w (.slice (some ⟨g, 0, none⟩) n cap) l := by
  have := h.own
  rw [← hn] at this
  exact this

theorem Bf.zero {w : World} {b g n cap : Nat} {l : List UInt8} (h : Bf w b g n cap l) : Bf (w.setCell ⟨b, 1, none⟩ (.int .i64 0)) b g n cap l := by
  have hne := h.ne
  exact ⟨heap_setCell_same w b 1 _ _ _ h.row, h.own.of_heap (by simp [World.setCell]) (fun k _ hk => by
    refine Below.heap_setCell w ⟨b, 1, none⟩ _ k (fun e => ?_)
    have e : k = b := e
    rcases hk with hk | ⟨o, hk⟩
    · simp only [baseOf, Option.some.injEq, Addr.mk.injEq, and_true] at hk; omega
    · simp only [baseOf, Option.some.injEq, Addr.mk.injEq, and_true] at hk; omega), h.le, h.ne⟩

theorem Bf.read {w : World} {b g n cap : Nat} {l : List UInt8} (h : Bf w b g n cap l) : Bf (w.setCell ⟨b, 2, none⟩ (.int .i8 0)) b g n cap l := by
  have hne := h.ne
  exact ⟨heap_setCell_same w b 2 _ _ _ h.row, h.own.of_heap (by simp [World.setCell]) (fun k _ hk => by
    refine Below.heap_setCell w ⟨b, 2, none⟩ _ k (fun e => ?_)
    have e : k = b := e
    rcases hk with hk | ⟨o, hk⟩
    · simp only [baseOf, Option.some.injEq, Addr.mk.injEq, and_true] at hk; omega
    · simp only [baseOf, Option.some.injEq, Addr.mk.injEq, and_true] at hk; omega), h.le, h.ne⟩

set_option maxRecDepth 100000 in
set_option maxHeartbeats 4000000 in
theorem grow_yes (b g n cap k : Nat) (l : List UInt8) (w : World) (h : Bf w b g n cap l) (hk : n + k ≤ cap) :
    Calls Tryz.prog 41 #[.pointer (some ⟨b, 0, none⟩), .int .i64 (k : Int)] w (Gw w b g n k l) := by
  have H := Lib.hid h
  clear h
  go_enter Tryz.func41, Tryz.ntmps41
  go_wp2_with fail
  refine (len_any' b g n cap l _ H.out).mono ?_
  rintro e w1 ⟨rfl, hg1, hz1⟩
  have H1 := Lib.hid (H.out.grownN hg1)
  have G1 := Lib.hid hg1
  have Z1 := Lib.hid hz1
  clear hg1 hz1
  obtain ⟨c0, c1, c2, f0, f1, f2, hc⟩ := H1.out.cells
  have hle := H1.out.le
  have hlt := H1.out.lt
  by_cases h0 : n = 0
  · subst h0
    go_wp2_with fail
    refine (tryGrow_yes b g 0 cap k l _ H1.out hk).mono ?_
    rintro e w2 ⟨rfl, rfl⟩
    go_wp2_with fail
    go_ret
    exact ⟨rfl, g, cap, by simpa using H1.out.cut _ hk, .inl rfl, grownN G1.out (grown_set _ _ _ _)⟩
  · have n0 : ((n : Int) == 0) = false := by rw [beq_eq_false_iff_ne]; omega
    go_wp2_with fail
    refine (tryGrow_yes b g n cap k l _ H1.out hk).mono ?_
    rintro e w2 ⟨rfl, rfl⟩
    go_wp2_with fail
    go_ret
    exact ⟨rfl, g, cap, by simpa using H1.out.cut _ hk, .inl rfl, grownN G1.out (grown_set _ _ _ _)⟩

set_option maxRecDepth 100000 in
set_option maxHeartbeats 1000000 in
theorem grow_no (b g n cap k : Nat) (l : List UInt8) (w : World) (hn : n = l.length) (h : Bf w b g n cap l) (hk : cap < n + k) (hb : n + k ≤ 1000000000) :
    Calls Tryz.prog 41 #[.pointer (some ⟨b, 0, none⟩), .int .i64 (k : Int)] w (Gw w b g n k l) := by
  have H := Lib.hid h
  have HN := Lib.hid hn
  clear h hn
  go_enter Tryz.func41, Tryz.ntmps41
  go_wp2_with fail
  refine (len_any' b g n cap l _ H.out).mono ?_
  rintro e w1 ⟨rfl, hg1, hz1⟩
  have H1 := Lib.hid (H.out.grownN hg1)
  have G1 := Lib.hid hg1
  have Z1 := Lib.hid hz1
  clear hg1 hz1
  obtain ⟨c0, c1, c2, f0, f1, f2, hc⟩ := H1.out.cells
  have hle := H1.out.le
  have hlt := H1.out.lt
  have d1 : ¬ (k : Int) ≤ (cap : Int) / 2 - (n : Int) := by omega
  have d2 : ¬ (9223372036854775807 - (cap : Int) - (k : Int) < (cap : Int)) := by omega
  have fin : ∀ w3 cap2, Own w3 (.slice (some ⟨w1.heap.size, 0, none⟩) n cap2) l → n + k ≤ cap2 → Below w1.heap.size w1 w3 → Gw w b g n k l (.returned (.int .i64 (n : Int))) (((w3.setCell ⟨b, 0, none⟩ (.slice (some ⟨w1.heap.size, 0, none⟩) n cap2)).setCell ⟨b, 1, none⟩ (.int .i64 0)).setCell ⟨b, 0, none⟩ (.slice (some ⟨w1.heap.size, 0, none⟩) (n + k) cap2)) := fun w3 cap2 ho hc2 hb3 => by
    have hn := HN.out
    have m1 := H1.out.move hb3 (by rw [← hn]; exact ho) (Nat.le_refl _) (m := n) (by omega) _ rfl
    have m2 := m1.zero.cut (n + k) hc2
    refine ⟨rfl, _, cap2, m2, .inr (Nat.le_of_eq Z1.out.symm), grownN G1.out (grownR (w1 := w3) ⟨hb3.os, hb3.tape, hb3.output, hb3.size, fun q h1 _ => hb3.block q h1⟩ (grownR (grown_set _ _ _ _) (grownR (grown_set _ _ _ _) (grown_set _ _ _ _))))⟩
  have FIN := Lib.hid fin
  clear fin
  have nn : (n = 0) ∨ ((n : Int) == 0) = false := by
    by_cases h0 : n = 0
    · exact .inl h0
    · exact .inr (by rw [beq_eq_false_iff_ne]; omega)
  have hnil : ∀ W, (binOp .eql 51 (.slice (some ⟨g, 0, none⟩) n cap) (.slice none 0 0)).run Tryz.prog W = .ok (.bool false) W := fun W => Lib.run_eql_slice_some_nil W _ _ _ Tryz.underlying51
  have mixed : Tryz.prog.follows .mixedOrders = true := by kernel_rfl
  have hwn : IntKind.i64.wrap (k : Int) = (k : Int) := IntWalk.i64_in _ (by omega)
  rcases nn with h0 | h0
  · subst h0
    go_wp2_with fail
    refine (tryGrow_no b g 0 cap k l _ H1.out hk).mono ?_
    rintro e w2 ⟨rfl, rfl⟩
    go_wp2_with fail
    go_region_with_o (go_at_call 65; refine (growSlice_drew g 0 cap k l _ _ rfl HN.out (H1.out.own' HN.out) hk hb).mono ?_; rintro e w3 ⟨cap2, rfl, ho3, hc3, hb3⟩; have hr3 := (hb3.block b hlt).trans H1.out.row; have y0 := cell_of_row w3 b 0 _ _ _ hr3; have y1 := cell_of_row w3 b 1 _ _ _ hr3; have z0 := frozen_of_row w3 b 0 _ _ hr3; have z1 := frozen_of_row w3 b 1 _ _ hr3; have hlt3 := Nat.lt_of_lt_of_le hlt hb3.size; clear hr3; have O3 := Lib.hid ho3; have B3 := Lib.hid hb3; clear ho3 hb3)
    all_goals
      go_wp2_with fail
      go_ret
      exact (by have h := FIN.out w3 cap2 O3.out hc3 B3.out; rw [Nat.zero_add] at h; exact h)
  · go_wp2_with fail
    refine (tryGrow_no b g n cap k l _ H1.out hk).mono ?_
    rintro e w2 ⟨rfl, rfl⟩
    go_wp2_with fail
    go_region_with_o (go_at_call 65; refine (growSlice_drew g n cap k l _ _ rfl HN.out (H1.out.own' HN.out) hk hb).mono ?_; rintro e w3 ⟨cap2, rfl, ho3, hc3, hb3⟩; have hr3 := (hb3.block b hlt).trans H1.out.row; have y0 := cell_of_row w3 b 0 _ _ _ hr3; have y1 := cell_of_row w3 b 1 _ _ _ hr3; have z0 := frozen_of_row w3 b 0 _ _ hr3; have z1 := frozen_of_row w3 b 1 _ _ hr3; have hlt3 := Nat.lt_of_lt_of_le hlt hb3.size; clear hr3; have O3 := Lib.hid ho3; have B3 := Lib.hid hb3; clear ho3 hb3)
    all_goals
      go_wp2_with fail
      go_ret
      exact FIN.out w3 cap2 O3.out hc3 B3.out

theorem grow_any (b g n cap k : Nat) (l : List UInt8) (w : World) (hn : n = l.length) (h : Bf w b g n cap l) (hb : n + k ≤ 1000000000) :
    Calls Tryz.prog 41 #[.pointer (some ⟨b, 0, none⟩), .int .i64 (k : Int)] w (Gw w b g n k l) := by
  by_cases hk : n + k ≤ cap
  · exact grow_yes b g n cap k l w h hk
  · exact grow_no b g n cap k l w hn h (by omega) hb

end Go.Proofs.YtlgmdcaoogiooaaGreatDoor.Bf
