/- 'slices.Grow' on bytes. -/
import Derived.Test.YtjjbgoknmofajaaDoorChecked
import Derived.Test.YtjjbgoknmofajaaDoorLib
import Derived.Lib.AppendZerosOnto
import Derived.Lib.SliceRun
import Derived.Lib.Walk
namespace Go.Proofs.YtjjbgoknmofajaaDoor
open Go.RowKit

theorem u8q : U8 Tryd.prog 39 5 := ⟨by kernel_rfl, by kernel_rfl, by kernel_rfl⟩
theorem string9q : Tryd.prog.underlying 9 = some .string := by kernel_rfl

/-- A call that appends to its first argument. -/
def App (w0 : World) (v0 : Value) (l : List UInt8) (e : Ending) (w' : World) : Prop := ∃ v1, e = .returned v1 ∧ AppTo w0 v0 w' v1 l

theorem run_zeros {w : World} {v : Value} {l : List UInt8} (h : Own w v l) (base : Option Addr) (c n : Nat) (hv : v = .slice base l.length c) (hroom : c < l.length + n) (hb : l.length + n ≤ 1099511627776) :
    ∃ w', (∀ ty, (Builtin.append_ #[39, 3] ty #[.slice base c c, .int .i64 ((n : Int) - ((c : Int) - (l.length : Int)))]).run Tryd.prog w = .ok (.slice (some ⟨w.heap.size, 0, none⟩) (l.length + n) (grownCap w (l.length + n) c 5)) w') ∧
      AppTo w v w' (.slice (some ⟨w.heap.size, 0, none⟩) l.length (grownCap w (l.length + n) c 5)) l := by
  obtain ⟨i, hi, hz, hsz, hby⟩ := info_parts u8q.inf
  have hlc : l.length ≤ c := by
    rcases h with ⟨rfl, rfl⟩ | ⟨g, off, cap, rfl, h1, _⟩
    · simp
    · simp only [Value.slice.injEq] at hv
      obtain ⟨_, _, rfl⟩ := hv
      exact h1
  -- the row's cells
  obtain ⟨cs, hcl, hpre, hold⟩ : ∃ cs : List Value, cs.length = c ∧ cs.take l.length = l.map B ∧ (Builtin.firstCells i.size c (.slice base c c)).run Tryd.prog w.drew = .ok cs.toArray w.drew := by
    rcases h with ⟨rfl, rfl⟩ | ⟨g, off, cap, rfl, h1, h2, h3, h4, h5⟩
    · simp only [Value.slice.injEq] at hv
      obtain ⟨rfl, _, rfl⟩ := hv
      exact ⟨[], rfl, rfl, run_firstCells_none w.drew i.size 0 0 0⟩
    · simp only [Value.slice.injEq] at hv
      obtain ⟨rfl, _, rfl⟩ := hv
      refine ⟨(List.range cap).map fun j => (w.cell? ⟨g, off + j, none⟩).getD undef, by simp, ?_, ?_⟩
      · apply List.ext_getElem?
        intro j
        rw [List.getElem?_take]
        by_cases hj : j < l.length
        · rw [if_pos hj, List.getElem?_map, List.getElem?_range (by omega)]
          have := h4 j hj
          simp only [Option.map_some, this]
          rw [List.getElem?_map, List.getElem?_eq_getElem hj]
          rfl
        · rw [if_neg hj, List.getElem?_eq_none (by simpa using hj)]
      · refine run_firstCells_some w.drew i.size cap ⟨g, off, none⟩ cap cap _ (by rw [hsz]; simp) (fun j v hj => ?_)
        rw [Addr.add_lit]
        obtain ⟨hjc, hjv⟩ := List.getElem?_eq_some_iff.1 hj
        have hjc' : j < cap := by simpa using hjc
        have hs := (h5 j hjc').1
        simp only [List.getElem_map, List.getElem_range] at hjv
        obtain ⟨u, hu⟩ := Option.isSome_iff_exists.1 hs
        rw [hu] at hjv
        show w.cell? ⟨g, off + j, none⟩ = some v
        rw [hu, ← hjv]
        rfl
  have hG : l.length + n ≤ grownCap w (l.length + n) c 5 := grownCap_ge w _ _ _
  have hGm := grownCap_le_maxLen w (l.length + n) c 5 (by unfold maxLen; omega)
  obtain ⟨G, hGe⟩ : ∃ G, G = grownCap w (l.length + n) c 5 := ⟨_, rfl⟩
  have hck : c + (l.length + n - c) = l.length + n := by omega
  have hrun := fun ty => Lib.run_append_grow_zeros (P := Tryd.prog) w 39 3 ty 5 i (.int .u8 0) .i64 .i64 u8q.und (by kernel_rfl) hi hz base c c cs hold (l.length + n - c) (by omega) (by rw [hsz]; omega) (by omega) (by omega)
    (by rw [hby]; omega) (by rw [hck]; exact growslice_fits hroom (by rw [hby]; omega))
  rw [hck] at hrun
  refine ⟨_, fun ty => by
    have := hrun ty
    rw [show ((l.length + n - c : Nat) : Int) = (n : Int) - ((c : Int) - (l.length : Int)) by omega] at this
    exact this, ⟨.inr ⟨w.heap.size, 0, _, rfl, by omega, hGm, by simp, fun j hj => ?_, fun j hj => ⟨?_, World.frozen?_alloc_new w.drew _ _ _⟩⟩,
      ⟨rfl, rfl, rfl, by simp, fun k hk _ => Below.heap_alloc w.drew _ k hk, fun a _ hlt o _ => cell_of_heap (Below.heap_alloc w.drew _ a.block hlt) o⟩, .inr (fun a ha => by simp [baseOf] at ha; subst ha; exact Nat.le_refl _)⟩⟩
  · rw [Nat.zero_add]
    refine (World.cell?_alloc_new w.drew _ _ j).trans ?_
    rw [Array.getElem?_append_left (by simp [size_zeroCells]; omega), Array.getElem?_append_left (by simp; omega), List.getElem?_toArray, ← hpre, List.getElem?_take, if_pos hj]
  · rw [Nat.zero_add]
    have e1 := World.cell?_alloc_new w.drew (cs.toArray ++ Builtin.zeroCells (Value.int .u8 0).cells (l.length + n - c) ++ Builtin.zeroCells (Value.int .u8 0).cells (grownCap w (l.length + n) c 5 - (l.length + n))) 5 j
    refine Eq.trans (congrArg Option.isSome e1) ?_
    rw [Array.getElem?_eq_getElem (by simp [size_zeroCells, Value.cells]; omega)]
    rfl

set_option maxRecDepth 100000 in
set_option maxHeartbeats 2000000 in
theorem grow_any (v : Value) (l : List UInt8) (n : Nat) (w : World) (h : Own w v l) (hb : l.length + n ≤ 1099511627776) :
    Calls Tryd.prog 42 #[v, .int .i64 n] w (App w v l) := by
  obtain ⟨base, c, hv, hlc⟩ := h.form
  have hcm : c ≤ 9223372036854775807 := by
    rcases h with ⟨rfl, rfl⟩ | ⟨g, off, cap, rfl, _, h2, _⟩
    · simp only [Value.slice.injEq] at hv; omega
    · simp only [Value.slice.injEq] at hv; unfold maxLen at h2; omega
  have h1 : ¬ ((n : Int) < 0) := by omega
  have h2 : wrap64 ((c : Int) - (l.length : Int)) = (c : Int) - (l.length : Int) := by unfold wrap64; omega
  have h3 : wrap64 ((n : Int) - ((c : Int) - (l.length : Int))) = (n : Int) - ((c : Int) - (l.length : Int)) := by unfold wrap64; omega
  by_cases hroom : l.length + n ≤ c
  · have h4 : ¬ ((n : Int) - ((c : Int) - (l.length : Int)) > 0) := by omega
    have H := Lib.hid h
    have HV := Lib.hid hv
    clear h hb
    subst hv
    go_enter Tryd.func42, Tryd.ntmps42
    go_wp2
    go_ret
    exact ⟨_, rfl, AppTo.refl H.out⟩
  · have h4 : (n : Int) - ((c : Int) - (l.length : Int)) > 0 := by omega
    obtain ⟨w', hr, ha⟩ := run_zeros h base c n hv (by omega) hb
    have hG : l.length + n ≤ grownCap w (l.length + n) c 5 := grownCap_ge w _ _ _
    have hGm := grownCap_le_maxLen w (l.length + n) c 5 (by unfold maxLen; omega)
    unfold maxLen at hGm
    obtain ⟨G, hGe⟩ : ∃ G, G = grownCap w (l.length + n) c 5 := ⟨_, rfl⟩
    rw [← hGe] at hr ha hG hGm
    subst hv
    have HA := Lib.hid ha
    have HR := Lib.hid hr
    clear ha hr h hGe
    go_enter Tryd.func42, Tryd.ntmps42
    cases base with
    | none =>
      go_wp2_with (at_builtin; refine Lib.wpList_append_run _ rfl _ _ _ _ rfl _ _ rfl rfl _ _ (HR.out _) ?_)
      all_goals (go_ret; exact ⟨_, rfl, HA.out⟩)
    | some a =>
      obtain ⟨ab, ao, asp⟩ := a
      go_wp2_with (at_builtin; refine Lib.wpList_append_run _ rfl _ _ _ _ rfl _ _ rfl rfl _ _ (HR.out _) ?_)
      all_goals (go_ret; exact ⟨_, rfl, HA.out⟩)

end Go.Proofs.YtjjbgoknmofajaaDoor
