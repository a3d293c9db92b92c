/- bytes.Buffer over a row of one's own: growing, writing, the text. -/
import Derived.Test.YtlgmdcaoogiooaaGreatDoorLive
import Derived.Laws.IdiomCopy
import Derived.Lib.AppendZeros
import Derived.Lib.ByteType
import Derived.Shelf.Abstract
import Derived.Lib.Walk
import Derived.Laws.AppendOwn
import Derived.Defers
import Derived.Recover
import Derived.Deep.QuietTactic
import Derived.BigQuiet
import Derived.Deep.RegionWith
namespace Go.Proofs.YtlgmdcaoogiooaaGreatDoor.Bf
open Go.RowKit Go.Proofs.YtlgmdcaoogiooaaGreatDoor

/-- The buffer b: its row lies in block g, its length is n; the bytes l lie ahead. -/
structure Bf (w : World) (b g n cap : Nat) (l : List UInt8) : Prop where
  row : w.heap[b]? = some (.cells #[.slice (some ⟨g, 0, none⟩) n cap, .int .i64 0, .int .i8 0] 67 (0, 0))
  own : Own w (.slice (some ⟨g, 0, none⟩) l.length cap) l
  le : n ≤ cap
  ne : b ≠ g

theorem Bf.lt {w : World} {b g n cap : Nat} {l : List UInt8} (h : Bf w b g n cap l) : b < w.heap.size := (Array.getElem?_eq_some_iff.1 h.row).1
theorem Bf.ltg {w : World} {b g n cap : Nat} {l : List UInt8} (h : Bf w b g n cap l) : g < w.heap.size := h.own.lt ⟨g, 0, none⟩ rfl

theorem Bf.cells {w : World} {b g n cap : Nat} {l : List UInt8} (h : Bf w b g n cap l) :
    w.cell? ⟨b, 0, none⟩ = some (.slice (some ⟨g, 0, none⟩) n cap) ∧ w.cell? ⟨b, 1, none⟩ = some (.int .i64 0) ∧ w.cell? ⟨b, 2, none⟩ = some (.int .i8 0) ∧
    w.frozen? ⟨b, 0, none⟩ = false ∧ w.frozen? ⟨b, 1, none⟩ = false ∧ w.frozen? ⟨b, 2, none⟩ = false ∧ cap ≤ maxLen :=
  ⟨cell_of_row w b 0 _ _ _ h.row, cell_of_row w b 1 _ _ _ h.row, cell_of_row w b 2 _ _ _ h.row, frozen_of_row w b 0 _ _ h.row, frozen_of_row w b 1 _ _ h.row, frozen_of_row w b 2 _ _ h.row, h.own.slice.2.2.1⟩

/-- Nothing of the buffer has changed. -/
theorem Bf.same {w w' : World} {b g n cap : Nat} {l : List UInt8} (h : Bf w b g n cap l) (hs : w.heap.size ≤ w'.heap.size) (hb : w'.heap[b]? = w.heap[b]?) (hg : w'.heap[g]? = w.heap[g]?) : Bf w' b g n cap l :=
  ⟨hb.trans h.row, h.own.of_heap hs (fun k _ hk => by
    rcases hk with hk | ⟨o, hk⟩
    · simp only [baseOf, Option.some.injEq, Addr.mk.injEq, and_true] at hk; rw [← hk]; exact hg
    · simp only [baseOf, Option.some.injEq, Addr.mk.injEq, and_true] at hk; rw [← hk.1]; exact hg), h.le, h.ne⟩

theorem Bf.below {w w' : World} {b g n cap : Nat} {l : List UInt8} (h : Bf w b g n cap l) (hb : Below w.heap.size w w') : Bf w' b g n cap l :=
  h.same hb.size (hb.block b h.lt) (hb.block g h.ltg)

theorem Bf.drew {w : World} {b g n cap : Nat} {l : List UInt8} (h : Bf w b g n cap l) : Bf w.drew b g n cap l := h.same (Nat.le_refl _) rfl rfl

/-- Another length, within the room. -/
theorem Bf.cut {w : World} {b g n cap : Nat} {l : List UInt8} (h : Bf w b g n cap l) (m : Nat) (hm : m ≤ cap) : Bf (w.setCell ⟨b, 0, none⟩ (.slice (some ⟨g, 0, none⟩) m cap)) b g m cap l := by
  have hne := h.ne
  exact ⟨heap_setCell_same w b 0 _ _ _ h.row, h.own.of_heap (by simp [World.setCell]) (fun k _ hk => by
    refine Below.heap_setCell w ⟨b, 0, none⟩ _ k (fun e => ?_)
    have e : k = b := e
    rcases hk with hk | ⟨o, hk⟩
    · simp only [baseOf, Option.some.injEq, Addr.mk.injEq, and_true] at hk; omega
    · simp only [baseOf, Option.some.injEq, Addr.mk.injEq, and_true] at hk; omega), hm, h.ne⟩

theorem grown_set (w : World) (b o : Nat) (v : Value) : w.grownBy (w.setCell ⟨b, o, none⟩ v) (some b) :=
  ⟨rfl, rfl, rfl, by simp [World.setCell], fun k _ hk => Below.heap_setCell w ⟨b, o, none⟩ v k (fun e => hk (by rw [show k = b from e]))⟩

theorem newBufferString_any (s : ByteArray) (hs : s.size ≤ 1000000) (w : World) :
    Calls Tryz.prog 12 #[.string s] w fun e w' => ∃ cap, e = .returned (.pointer (some ⟨w.heap.size + 1, 0, none⟩)) ∧ Bf w' (w.heap.size + 1) w.heap.size s.size cap s.data.toList ∧ Below w.heap.size w w' := by
  go_enter Tryz.func12, Tryz.ntmps12
  go_wp2_with (refine wpList_conv u8m rfl (.tmp 3) 9 rfl string9m rfl (by unfold maxLen; omega) ?_; intro c1 w1 o1 b1 z1; have O1 := Lib.hid o1; have Z1 := Lib.hid z1; have B1 := Lib.hid b1; clear o1 z1 b1)
  go_ret
  have hz := Z1.out
  refine ⟨_, by (try rw [hz]); rfl, ⟨by rw [← hz]; exact heap_alloc_new w1 _, ?_, ?_, by omega⟩, B1.out.alloc (by omega) _⟩
  · rw [size_eq]
    exact O1.out.alloc _
  · have := O1.out.slice
    rw [size_eq] at this
    exact this.2.1

set_option maxRecDepth 100000 in
set_option maxHeartbeats 1000000 in
theorem len_any (b g n cap : Nat) (l : List UInt8) (w : World) (h : Bf w b g n cap l) :
    Calls Tryz.prog 63 #[.pointer (some ⟨b, 0, none⟩)] w fun e w' => e = .returned (.int .i64 (n : Int)) ∧ ∃ k, w' = w.drewN k := by
  obtain ⟨c0, c1, c2, f0, f1, f2, hc⟩ := h.cells
  have hle := h.le
  unfold maxLen at hc
  clear h
  go_enter Tryz.func63, Tryz.ntmps63
  go_wp2_with fail
  go_big_quiet (fail)
  go_wp2_with fail
  go_ret
  exact ⟨by simp, _, rfl⟩

set_option maxRecDepth 100000 in
set_option maxHeartbeats 1000000 in
theorem tryGrow_yes (b g n cap k : Nat) (l : List UInt8) (w : World) (h : Bf w b g n cap l) (hk : n + k ≤ cap) :
    Calls Tryz.prog 46 #[.pointer (some ⟨b, 0, none⟩), .int .i64 (k : Int)] w fun e w' => e = .returned (.tuple #[.int .i64 (n : Int), .bool true]) ∧ w' = w.setCell ⟨b, 0, none⟩ (.slice (some ⟨g, 0, none⟩) (n + k) cap) := by
  obtain ⟨c0, c1, c2, f0, f1, f2, hc⟩ := h.cells
  have hle := h.le
  unfold maxLen at hc
  clear h
  go_enter Tryz.func46, Tryz.ntmps46
  go_wp2_with fail
  go_ret2
  exact ⟨rfl, rfl⟩

set_option maxRecDepth 100000 in
set_option maxHeartbeats 1000000 in
theorem tryGrow_no (b g n cap k : Nat) (l : List UInt8) (w : World) (h : Bf w b g n cap l) (hk : cap < n + k) :
    Calls Tryz.prog 46 #[.pointer (some ⟨b, 0, none⟩), .int .i64 (k : Int)] w fun e w' => e = .returned (.tuple #[.int .i64 0, .bool false]) ∧ w' = w := by
  obtain ⟨c0, c1, c2, f0, f1, f2, hc⟩ := h.cells
  have hle := h.le
  unfold maxLen at hc
  clear h
  go_enter Tryz.func46, Tryz.ntmps46
  go_wp2_with fail
  go_ret2
  exact ⟨rfl, rfl⟩

theorem catch_idle (w : World) :
    CallsD Tryz.prog 80 #[] .returning w fun e u' w' => e = .returned (.tuple #[]) ∧ u' = .returning ∧ w' = w := by
  have hnn : ∀ w, (binOp .neq 20 .nilIface .nilIface).run Tryz.prog w = .ok (.bool false) w := fun w => Lib.run_neq_nil_nil w Tryz.underlying20
  refine callsD_of_wpS Tryz.func80 rfl fun c₀ cs hu => ?_
  apply wpS_seq
  apply wpS_region
  simp [wpOpsS, go_sem, recoverD, hu, hnn, Tryz.ntmps80, Exit.thenS]
  refine wpS_cond (t := false) (by simp [Act.eval, Array.replicate]) ?_
  simp only [Bool.false_eq_true, if_false]
  refine wpS_of_wp (wp_skip ?_)
  cases c₀
  simp_all [bodyPostS, results]

theorem tint : Tryz.prog.underlying 3 = some (.int .i64) := by kernel_rfl

/-- A new row of zeros. -/
theorem zeros_run (w : World) (C : Nat) (h0 : 0 < C) (hC : C ≤ 2000000000) :
    ∃ Z cap2, (Builtin.append_ #[51, 3] 51 #[.slice none 0 0, .int .i64 (C : Int)]).run Tryz.prog w = .ok (.slice (some ⟨w.heap.size, 0, none⟩) C cap2) (w.drew.alloc (.cells Z 5)) ∧ Z.size = cap2 ∧ C ≤ cap2 ∧ cap2 ≤ maxLen := by
  obtain ⟨i, hi, hz, hsz, hby⟩ := info_parts (u8m).inf
  refine ⟨_, _, Lib.run_append_nil_zeros (P := Tryz.prog) w 51 3 51 5 i (.int .u8 0) .i64 .i64 (u8m).und tint hi hz C h0 (by omega) (by omega) (by rw [hby]; omega), ?_, grownCap_ge w C 0 5, grownCap_le_maxLen w C 0 5 (by unfold maxLen; omega)⟩
  have := grownCap_ge w C 0 5
  rw [Array.size_append, size_zeroCells, size_zeroCells]
  simp [Value.cells]
  omega

/-- Copying bytes into a row of one's own, from n on. -/
theorem copy_run (w : World) (g n dl dcap : Nat) (v : Value) (m : List UInt8) (hsrc : Own w v m) (hm : m.length ≤ dl) (hc : ∀ j, j < m.length → (w.cell? ⟨g, n + j, none⟩).isSome = true ∧ w.frozen? ⟨g, n + j, none⟩ = false) :
    (Builtin.copy_ #[51, 51] 3 #[.slice (some ⟨g, n, none⟩) dl dcap, v]).run Tryz.prog w = .ok (goInt m.length) (w.setCells g n (m.map B)) := by
  have hs : (Tryz.prog.info? 5).map (·.size) = some 1 := by kernel_rfl
  rcases hsrc with ⟨rfl, rfl⟩ | ⟨g2, off, cap, rfl, h1, h2, h3, h4, h5⟩
  · exact run_copy_none w _ _ _ _ _ _ _ _ _ _ (u8m).und hs (by simp)
  · have := run_copy_cells (P := Tryz.prog) w 51 51 3 5 g n dl dcap ⟨g2, off, none⟩ m.length cap (m.map B) (u8m).und hs (by rw [List.length_map]; exact (Nat.min_eq_left hm).symm)
      (fun j u hu => by
        rw [Addr.add_lit]
        have hj : j < m.length := by simpa using (List.getElem?_eq_some_iff.1 hu).1
        exact (h4 j hj).trans hu)
      (fun j hj => (hc j (by simpa using hj)).1) (fun j hj => (hc j (by simpa using hj)).2) (B_one m)
    rw [List.length_map] at this
    exact this

/-- The row behind the copy. -/
theorem copy_own (w : World) (g n cap : Nat) (l m : List UInt8) (hn : n = l.length) (hcap : cap ≤ maxLen) (hle : n + m.length ≤ cap) (hg : g < w.heap.size) (h4 : ∀ j, j < l.length → w.cell? ⟨g, j, none⟩ = (l.map B)[j]?) (h5 : ∀ j, j < cap → (w.cell? ⟨g, j, none⟩).isSome = true ∧ w.frozen? ⟨g, j, none⟩ = false) :
    Own (w.setCells g n (m.map B)) (.slice (some ⟨g, 0, none⟩) (l ++ m).length cap) (l ++ m) := by
  subst hn
  have hsome : ∀ j, j < (m.map B).length → (w.cell? ⟨g, l.length + j, none⟩).isSome = true := fun j hj => (h5 _ (by simp at hj; omega)).1
  refine .inr ⟨g, 0, cap, rfl, by rw [List.length_append]; exact hle, hcap, by rw [size_setCells]; exact hg, fun j hj => ?_, fun j hj => ⟨?_, ?_⟩⟩
  · rw [Nat.zero_add]
    by_cases hjl : j < l.length
    · rw [World.cell?_setCells_out g _ _ _ _ (fun _ _ => Or.inl (by show j < l.length; exact hjl)), List.map_append, List.getElem?_append_left (by simpa using hjl)]
      exact h4 j hjl
    · have ht' : j - l.length < (m.map B).length := by simp at hj ⊢; omega
      have := World.cell?_setCells_in g (m.map B) l.length w hsome (j - l.length) ht'
      rw [show l.length + (j - l.length) = j by omega] at this
      rw [this, List.map_append, List.getElem?_append_right (by simp; omega), List.getElem?_eq_getElem (by simpa using ht')]
      simp
  · rw [Nat.zero_add]
    exact World.isSome_setCells g _ _ _ _ (h5 j hj).1
  · rw [Nat.zero_add, World.frozen?_setCells]
    exact (h5 j hj).2

theorem new_cells (w : World) (Z : Array Value) (t : TypeId) (j : Nat) (hj : j < Z.size) : ((w.alloc (.cells Z t)).drew.cell? ⟨w.heap.size, j, none⟩).isSome = true ∧ (w.alloc (.cells Z t)).drew.frozen? ⟨w.heap.size, j, none⟩ = false := by
  refine ⟨?_, World.frozen?_alloc_new w _ _ _⟩
  have e1 := World.cell?_alloc_new w Z t j
  refine Eq.trans (congrArg Option.isSome e1) ?_
  rw [Array.getElem?_eq_getElem hj]
  rfl

/-- What 'growSlice' gives. -/
def Grew (w : World) (n k : Nat) (l : List UInt8) (e : Ending) (w' : World) : Prop :=
  ∃ cap2, e = .returned (.slice (some ⟨w.heap.size, 0, none⟩) n cap2) ∧ Own w' (.slice (some ⟨w.heap.size, 0, none⟩) n cap2) l ∧ n + k ≤ cap2 ∧ Below w.heap.size w w'

theorem grew_end (w : World) (n k C cap2 : Nat) (Z : Array Value) (l : List UInt8) (hn : n = l.length) (hC : n + k ≤ C) (hZ : Z.size = cap2) (hc : C ≤ cap2) (hm : cap2 ≤ maxLen) :
    Grew w n k l (.returned (.slice (some ⟨w.heap.size, 0, none⟩) n cap2)) ((w.alloc (.cells Z 5)).drew.setCells w.heap.size 0 (l.map B)) := by
  refine ⟨cap2, rfl, ?_, by omega, ?_⟩
  · have := copy_own (w.alloc (.cells Z 5)).drew w.heap.size 0 cap2 [] l rfl hm (by omega) (by show w.heap.size < (w.alloc _).heap.size; simp) (fun j hj => by simp at hj) (fun j hj => new_cells w Z _ j (by omega))
    rw [List.nil_append, ← hn] at this
    exact this
  · refine ⟨by rw [World.os_setCells]; rfl, by rw [tape_setCells]; rfl, by rw [World.output_setCells]; rfl, by rw [size_setCells]; show w.heap.size ≤ (w.alloc _).heap.size; simp, fun k hk => ?_⟩
    rw [World.heap_setCells_other (w.alloc (.cells Z 5)).drew w.heap.size _ _ (i := k) (by show k < (w.alloc _).heap.size; simp; omega) (by omega)]
    exact Below.heap_alloc w _ k hk

set_option maxRecDepth 100000 in
set_option maxHeartbeats 2000000 in
theorem growSlice_any (g n cap k : Nat) (l : List UInt8) (w : World) (hn : n = l.length) (hown : Own w (.slice (some ⟨g, 0, none⟩) n cap) l) (hk : cap < n + k) (hb : n + k ≤ 1000000000) :
    Calls Tryz.prog 65 #[.slice (some ⟨g, 0, none⟩) n cap, .int .i64 (k : Int)] w (Grew w n k l) := by
  have hle : n ≤ cap := by have := hown.slice; omega
  have HN := Lib.hid hn
  have HO := Lib.hid hown
  have key : ∀ C, n + k ≤ C → C ≤ 2000000000 → ∃ Z cap2, (Builtin.append_ #[51, 3] 51 #[.slice none 0 0, .int .i64 (C : Int)]).run Tryz.prog w = .ok (.slice (some ⟨w.heap.size, 0, none⟩) C cap2) (w.drew.alloc (.cells Z 5)) ∧
      (Builtin.copy_ #[51, 51] 3 #[.slice (some ⟨w.heap.size, 0, none⟩) C cap2, .slice (some ⟨g, 0, none⟩) n cap]).run Tryz.prog (w.alloc (.cells Z 5)).drew = .ok (goInt n) ((w.alloc (.cells Z 5)).drew.setCells w.heap.size 0 (l.map B)) ∧
      n ≤ cap2 ∧ cap2 ≤ maxLen ∧ Grew w n k l (.returned (.slice (some ⟨w.heap.size, 0, none⟩) n cap2)) ((w.alloc (.cells Z 5)).drew.setCells w.heap.size 0 (l.map B)) := by
    intro C h1 h2
    obtain ⟨Z, cap2, e1, e2, e3, e4⟩ := zeros_run w C (by omega) h2
    refine ⟨Z, cap2, e1, ?_, by omega, e4, grew_end w n k C cap2 Z l HN.out h1 e2 e3 e4⟩
    have := copy_run (w.alloc (.cells Z 5)).drew w.heap.size 0 C cap2 _ l ((HO.out.alloc _).drew) (by have := HN.out; omega) (fun j hj => by rw [Nat.zero_add]; exact new_cells w Z _ j (by have := HN.out; omega))
    rw [← HN.out] at this
    exact this
  have HK := Lib.hid key
  clear hn hown key
  by_cases hC : n + k < 2 * cap
  · obtain ⟨Z, cap2, happ, hcopy, hle2, hmx, hend⟩ := HK.out (2 * cap) (by omega) (by omega)
    rw [show (((2 * cap : Nat)) : Int) = 2 * (cap : Int) by omega] at happ
    have HE := Lib.hid hend
    unfold maxLen at hmx
    clear hend
    go_enter_defers Tryz.func65, Tryz.ntmps65
    go_wp2_with (at_builtin; refine Lib.wpList_append_run _ rfl _ _ _ _ rfl _ _ rfl rfl _ _ happ ?_)
    refine leaves_cons (f := 80) (args := #[]) (by simp) (Go.Proofs.enters_of Tryz.func80 (by kernel_rfl) rfl _ _) ?_
    refine (catch_idle _).mono ?_
    rintro e u' w'' ⟨rfl, rfl, rfl⟩
    exact ⟨_, results_tmp (t := 4) rfl _ _ _, HE.out⟩
  · obtain ⟨Z, cap2, happ, hcopy, hle2, hmx, hend⟩ := HK.out (n + k) (by omega) (by omega)
    rw [show (((n + k : Nat)) : Int) = (n : Int) + (k : Int) by omega] at happ
    have HE := Lib.hid hend
    unfold maxLen at hmx
    clear hend
    go_enter_defers Tryz.func65, Tryz.ntmps65
    go_wp2_with (at_builtin; refine Lib.wpList_append_run _ rfl _ _ _ _ rfl _ _ rfl rfl _ _ happ ?_)
    refine leaves_cons (f := 80) (args := #[]) (by simp) (Go.Proofs.enters_of Tryz.func80 (by kernel_rfl) rfl _ _) ?_
    refine (catch_idle _).mono ?_
    rintro e u' w'' ⟨rfl, rfl, rfl⟩
    exact ⟨_, results_tmp (t := 4) rfl _ _ _, HE.out⟩

end Go.Proofs.YtlgmdcaoogiooaaGreatDoor.Bf
