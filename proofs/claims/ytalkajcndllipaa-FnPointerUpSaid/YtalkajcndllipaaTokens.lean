/- The package's tokens, collected. -/
import Derived.Test.YtalkajcndllipaaIter
import Derived.Maps.AppendAt
import Derived.RangeFuncBox
namespace Go.Proofs.Ytalkajcndllipaa
open Go.RowKit

attribute [local go_sem] Oper.semAt_some

/-- Cells that hold tokens. -/
def TextsAt (w : World) (g : Nat) (ts : List (List UInt8)) : Prop := ∀ j (h : j < ts.length), w.cell? ⟨g, j, none⟩ = some (tokV ts[j])

/-- A list of texts that a call returns. -/
structure Rows (w : World) (ts : List (List UInt8)) (e : Ending) (w' : World) : Prop where
  below : Below w.heap.size w w'
  what : ∃ g cap, e = .returned (.slice (some ⟨g, 0, none⟩) ts.length cap) ∧ TextsAt w' g ts ∧ w.heap.size ≤ g ∧ g < w'.heap.size

theorem infoS : (Try.prog.info? 9).map (fun i => (i.zero, i.size, i.bytes)) = some (some (.string ⟨#[]⟩), 1, 16) := by kernel_rfl
theorem undS : Try.prog.underlying 26 = some (.slice 9) := by kernel_rfl

set_option maxRecDepth 100000 in
theorem makeTokens_in (p : ByteArray) (w : World) :
    CallsIn Fence.wide 2 Try.prog 20 #[.string p] w fun e w' => e = .returned (.func (.func 24) #[] #[.pointer (some ⟨w.heap.size, 0, none⟩)]) ∧ w' = w.alloc (.cells #[.string p] 32) := by
  refine callsIn_of_wp Try.func20 rfl trivial ?_ rfl
  simp only [Try.ntmps20, List.size_toArray, List.length_cons, List.length_nil, Nat.reduceAdd, Nat.reduceSub, Array.replicate_succ, Array.replicate_zero, List.push_toArray, List.append_toArray, List.nil_append, List.cons_append]
  gi_wp2
  go_ret
  exact ⟨rfl, rfl⟩

/-- Between two rounds of the caller. -/
structure Collected (w : World) (B bx : Nat) (pre : List (List UInt8)) (W : World) : Prop where
  row : ∃ v, Boxed W B 26 v ∧ W.ownsRow w.heap.size 9 1 v pre.length (pre.map tokV) ∧ ∃ g c, v = .slice (some ⟨g, 0, none⟩) pre.length c
  box : ∃ u, Boxed W bx 32 u
  below : Below w.heap.size w W

theorem not_own {W : World} {base g n cap : Nat} {T : TypeId} {size : Nat} {xs : List Value} (h : W.ownsRow base T size (.slice (some ⟨g, 0, none⟩) n cap) n xs) : ∃ cur fz, W.heap[g]? = some (.cells cur T fz) := by
  rcases h.2 with ⟨h, _⟩ | ⟨g', cap', cur, h, _, hg, _⟩
  · cases h
  · simp only [Value.slice.injEq, Option.some.injEq, Addr.mk.injEq, and_true] at h
    obtain ⟨rfl, _⟩ := h
    exact ⟨_, _, hg⟩

theorem Collected.own (w : World) (B bx : Nat) {C : Nat} (hC : w.heap.size ≤ C) : OwnFrom C (Collected w B bx) := by
  intro pre X Y row h hg hr
  obtain ⟨⟨v, hv, hrow, g, c, rfl⟩, ⟨u, hu⟩, hb⟩ := h
  have hne : ∀ (k : Nat) (o : Obj), X.heap[k]? = some o → o.isCells = true → some k ≠ row := by
    intro k o ho hc e
    obtain ⟨_, o', ho', hc'⟩ := hr k e.symm
    rw [ho] at ho'
    cases ho'
    rw [hc] at hc'
    cases hc'
  refine ⟨⟨_, hv.kept hg (hne _ _ hv rfl), hrow.kept hg (.inr ?_), g, c, rfl⟩, ⟨u, hu.kept hg (hne _ _ hu rfl)⟩, hb.grown hg hb.size (fun k e => Nat.le_trans hC (hr k e).1)⟩
  obtain ⟨cur, fz, hk⟩ := not_own hrow
  exact hne g _ hk rfl

theorem Collected.store (w : World) {B bx : Nat} (hne : B ≠ bx) (hbx : w.heap.size ≤ bx) (pre : List (List UInt8)) (W : World) (x : Value) (h : Collected w B bx pre W) : Collected w B bx pre (W.setCell ⟨bx, 0, none⟩ x) := by
  obtain ⟨⟨v, hv, hrow, g, c, rfl⟩, ⟨u, hu⟩, hb⟩ := h
  exact ⟨⟨_, hv.other hne _, hrow.kept (grownBy_setCell' W bx x) (.inr (hu.not_row (by decide) hrow).symm), g, c, rfl⟩, ⟨_, hu.set x⟩, hb.setCell (p := ⟨bx, 0, none⟩) hbx _⟩

set_option maxRecDepth 100000 in
set_option maxHeartbeats 2000000 in
theorem implTokens_in (p : ByteArray) (ts : List (List UInt8)) (w : World) (ht : Toks p.data.toList ts) (hs : p.size ≤ 100000) :
    CallsIn Fence.wide 3 Try.prog 13 #[.string p] w (Rows w ts) := by
  have hlen : ts.length ≤ 100000 := by have := ht.len; rw [size_eq] at this; omega
  have HT := Lib.hid ht
  clear ht
  obtain ⟨i0, hi, hz0, hz1, hz2⟩ := info_parts infoS
  refine callsIn_of_wp_marks Try.func13 rfl trivial ?_ rfl
  simp only [Try.ntmps13, List.size_toArray, List.length_cons, List.length_nil, Nat.reduceAdd, Nat.reduceSub, Array.replicate_succ, Array.replicate_zero, List.push_toArray, List.append_toArray, List.nil_append, List.cons_append]
  gi_wp2_with (first
    | (refine ⟨trivial, ?_⟩
       gi_at_call 20
       refine (makeTokens_in p _).mono ?_
       rintro e w' ⟨rfl, rfl⟩))
  obtain ⟨w1, hw1⟩ : ∃ w1, w1 = (w.alloc (.cells #[] 9)).alloc (.cells #[.slice (some ⟨w.heap.size, 0, none⟩) 0 0] 26) := ⟨_, rfl⟩
  have hs1 : w1.heap.size = w.heap.size + 1 + 1 := by rw [hw1]; simp
  have hb1 : Below w.heap.size w w1 := by rw [hw1]; exact ((Below.refl _ w).alloc (Nat.le_refl _) _).alloc (by simp) _
  have bO : Boxed w1 (w.heap.size + 1) 26 (.slice (some ⟨w.heap.size, 0, none⟩) 0 0) := by
    have := Boxed.new (w.alloc (.cells #[] 9)) 26 (.slice (some ⟨w.heap.size, 0, none⟩) 0 0)
    rw [World.size_alloc] at this
    rw [hw1]
    exact this
  have hrow0 : w1.ownsRow w.heap.size 9 1 (.slice (some ⟨w.heap.size, 0, none⟩) 0 0) 0 [] := by
    rw [hw1]
    exact (World.ownsRow_lit w #[] 0 (Nat.le_refl _) (Nat.zero_le _) rfl).alloc _
  rw [← hw1]
  have bN := Boxed.new w1 32 (.string p)
  rw [hs1] at bN
  have hp : tokV p.data.toList = .string p := by unfold tokV; rw [toArr]
  have hI0 : Collected w (w.heap.size + 1) (w.heap.size + 1 + 1) [] (w1.alloc (.cells #[.string p] 32)) :=
    ⟨⟨_, bO.alloc _, hrow0.alloc _, _, _, rfl⟩, ⟨_, bN⟩, hb1.alloc (by omega) _⟩
  have hgive := tokens_gives (w.heap.size + 1 + 1) ts p.data.toList (w1.alloc (.cells #[.string p] 32)) (by simp; omega) HT.out (by rw [size_eq]; exact hs) (by rw [hp]; exact bN)
  refine wpIn_rangeFunc_box rfl (by decide) (gf := 24) (lb := #[.pointer (some ⟨w.heap.size + 1 + 1, 0, none⟩)]) rfl trivial (enters_of Try.func24 (by kernel_rfl) rfl)
    hgive (by simp; omega) (Below.refl _ _) (fun _ => rfl) (Collected w (w.heap.size + 1) (w.heap.size + 1 + 1))
    (Collected.own w _ _ (by simp; omega)) (fun s W v h => Collected.store w (by omega) (by omega) s W v h) hI0
    (fun x => { tmps := #[.string p, undef, .slice none 0 0, .pointer (some ⟨w.heap.size + 1, 0, none⟩), .string ⟨x.toArray⟩, .slice (some ⟨w.heap.size, 0, none⟩) 0 0, .string p, .func (.func 24) #[] #[.pointer (some ⟨w.heap.size + 1 + 1, 0, none⟩)], .string ⟨x.toArray⟩, undef, undef, undef, undef, undef], defers := [] }) ?assign ?body ?done
  case assign =>
    intro l x W K hK
    gi_wp2
    exact hK
  case body =>
    rintro l pre x W ⟨⟨v, hv, hrow, g, c, rfl⟩, ⟨u, hu⟩, hB⟩ hpre
    have hpl : pre.length + 1 ≤ 100000 := by
      have := hpre.length_le
      rw [List.length_append] at this
      simp at this
      omega
    have hc := hv.cell
    gi_wp2_with (gi_at_builtin; refine wpListIn_append_own _ rfl _ _ 26 rfl w.heap.size 9 i0 (.string ⟨#[]⟩) 1 16 undS hi hz0 hz1 hz2 rfl (by decide) _ _ _ rfl (hrow.alloc _) ⟨W.heap.size, 0, none⟩ 1 1 [.string ⟨x.toArray⟩] rfl rfl (cell_one_new _ _ _) (by simp [Value.oneCell']) (by unfold maxLen; omega) (by omega) (by have := hB.size; simp; omega) ?_; intro v' w1 hown' hgrow _; obtain ⟨g', cap', rfl⟩ := ownsRow_succ hown'; obtain ⟨hv1, hv2, hr2, hk2, hb2⟩ := hv.appended (by decide) hrow hB.size (by omega) hown' hgrow; have hc1 := hv1.cell; have hf1 := hv1.frozen)
    have hbo : some (w.heap.size + 1 + 1) ≠ some g := by
      have := hu.not_row (by decide) hrow
      simpa [Value.ownBlock] using this
    have hne : w.heap.size + 1 ≠ w.heap.size + 1 + 1 := by omega
    have hlt := hu.lt
    have hu1 : w1.heap[w.heap.size + 1 + 1]? = W.heap[w.heap.size + 1 + 1]? := by
      refine (hgrow.block _ (by simp; omega) ?_).trans (Below.heap_alloc W _ _ hlt)
      exact hbo
    have hu2 : (w1.setCell ⟨w.heap.size + 1, 0, none⟩ (.slice (some ⟨g', 0, none⟩) (pre.length + 1) cap')).heap[w.heap.size + 1 + 1]? = W.heap[w.heap.size + 1 + 1]? :=
      (Below.heap_setCell _ _ _ _ (by show w.heap.size + 1 + 1 ≠ w.heap.size + 1; omega)).trans hu1
    refine ⟨hk2, hu2, ⟨_, hv2, ?_, g', cap', ?_⟩, ⟨u, hu2.trans hu⟩, hB.trans hb2⟩
    · rw [List.length_append, List.map_append]
      exact hr2
    · rw [List.length_append]
      rfl
  case done =>
    rintro D W hD ⟨⟨v, hv, hrow, g, c, rfl⟩, _, hB⟩ hK
    have hc := hv.cell
    gi_wp2
    refine ⟨by simp, .inl ⟨_, _, rfl, run_takeDeferred hK, ?_⟩⟩
    refine ⟨_, results_tmp rfl _ _ _, ?_⟩
    have hrow' := ownsRow_putObj hrow (.deferred none) hK rfl
    refine ⟨hB.trans (belowK_b (w := w) (Nat.le_refl _) W D _ _ (by simp at hD; omega) hK rfl rfl), g, c, rfl, fun j hj => ?_, ?_, ?_⟩
    · rw [hrow'.cellAt j (by omega), List.getElem?_map, List.getElem?_eq_getElem hj]
      rfl
    · exact (hrow'.lt g rfl).1
    · exact (hrow'.lt g rfl).2

theorem implTokens_any (p : ByteArray) (ts : List (List UInt8)) (w : World) (ht : Toks p.data.toList ts) (hs : p.size ≤ 100000) :
    Calls Try.prog 13 #[.string p] w (Rows w ts) :=
  callsIn_wide.1 (implTokens_in p ts w ht hs)

end Go.Proofs.Ytalkajcndllipaa
