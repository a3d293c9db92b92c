/- The scanner of encoding/json and the row of its codes, in memory. -/
import Derived.Test.YtlgmdcaoogiooaaGreatDoorScanZ
import Derived.Test.YtlgmdcaoogiooaaGreatDoorGram
namespace Go.Proofs.YtlgmdcaoogiooaaGreatDoor
open Go.RowKit

/-- A row depends on its own block alone. -/
theorem own_heap {w w' : World} {B : Nat} {t : TypeId} {v : Value} {n : Nat} {xs : List Value} (h : w.ownsRow B t 1 v n xs) (hb : ∀ k, v.ownBlock = some k → w'.heap[k]? = w.heap[k]?) : w'.ownsRow B t 1 v n xs := by
  refine ⟨h.1, ?_⟩
  rcases h.2 with q | ⟨q, cap, cur, rfl, h1, h2, h3⟩
  · exact .inl q
  · exact .inr ⟨q, cap, cur, rfl, h1, (hb q rfl).trans h2, h3⟩

/-- The scanner and the codes told so far. -/
structure SC (w : World) (B b : Nat) (g : Cfg) (y : Int) (pv ev cv : Value) (L : List Nat) : Prop where
  scn : Scn w B b g y pv ev
  row : w.ownsRow B 3 1 cv L.length (L.map I64)
  nb : cv.ownBlock ≠ some b
  np : ∀ x, cv.ownBlock = some x → pv.ownBlock ≠ some x

theorem SC.bytes {w : World} {B b : Nat} {g : Cfg} {y : Int} {pv ev cv : Value} {L : List Nat} (h : SC w B b g y pv ev cv L) (y' : Int) : SC (w.setCell ⟨b, 4, none⟩ (.int .i64 y')) B b g y' pv ev cv L :=
  ⟨h.scn.bytes y', own_heap h.row (fun k hk => Below.heap_setCell w _ _ k (fun e => h.nb (by rw [hk]; exact congrArg some e))), h.nb, h.np⟩

theorem SC.alloc {w : World} {B b : Nat} {g : Cfg} {y : Int} {pv ev cv : Value} {L : List Nat} (h : SC w B b g y pv ev cv L) (o : Obj) : SC (w.alloc o) B b g y pv ev cv L :=
  ⟨h.scn.alloc o, h.row.alloc o, h.nb, h.np⟩

theorem SC.stepped {w w' : World} {B b : Nat} {g g' : Cfg} {y y' : Int} {pv ev cv pv' ev' : Value} {L : List Nat} (h : SC w B b g y pv ev cv L) (hs : Scn w' B b g' y' pv' ev') (hk : SK w w' b pv) (ha : PAt w pv pv') : SC w' B b g' y' pv' ev' cv L := by
  refine ⟨hs, own_heap h.row (fun k e => hk.block k (h.row.lt _ e).2 (fun q => h.nb (by rw [e, q])) (fun q => h.np k e q.symm)), h.nb, fun x hx hp => ?_⟩
  rcases ha with e | e
  · exact h.np x hx (e ▸ hp)
  · have := e x hp
    have := (h.row.lt _ hx).2
    omega

theorem SC.pushed {w w1 : World} {B b : Nat} {g : Cfg} {y : Int} {pv ev cv cv1 : Value} {L : List Nat} (h : SC w B b g y pv ev cv L) (x : Nat) (hown : w1.ownsRow B 3 1 cv1 (L.length + 1) (L.map I64 ++ [I64 x])) (hg : w.grownBy w1 cv.ownBlock) (hat : PAt w cv cv1) :
    SC w1 B b g y pv ev cv1 (L ++ [x]) := by
  have hlt := h.scn.lt
  refine ⟨⟨(hg.block b hlt (fun e => h.nb e.symm)).trans h.scn.row, own_heap h.scn.own (fun k e => hg.block k (h.scn.own.lt _ e).2 (fun q => h.np k q.symm e)), h.scn.ne⟩, ?_, ?_, fun k e hp => ?_⟩
  · rw [List.length_append, List.length_singleton, List.map_append]
    exact hown
  · rcases hat with e | e
    · rw [e]; exact h.nb
    · intro k; have := e b k; omega
  · rcases hat with q | q
    · exact h.np k (q ▸ e) hp
    · have := q k e
      have := (h.scn.own.lt _ hp).2
      omega

theorem SC.below {w w' : World} {B b : Nat} {g : Cfg} {y : Int} {pv ev cv : Value} {L : List Nat} (h : SC w B b g y pv ev cv L) (hb : B ≤ b) (hB : B ≤ w.heap.size) (hk : SK w w' b pv) : Below B w w' :=
  hk.below hb hB (fun _ e => (h.scn.own.lt _ e).1)

theorem SC.grown {w w1 : World} {B b : Nat} {g : Cfg} {y : Int} {pv ev cv : Value} {L : List Nat} (h : SC w B b g y pv ev cv L) (hB : B ≤ w.heap.size) (hg : w.grownBy w1 cv.ownBlock) : Below B w w1 :=
  ⟨hg.os, hg.tape, hg.output, hg.size, fun k hk => hg.block k (by omega) (fun e => by have := (h.row.lt _ e.symm).1; omega)⟩

theorem EvIs.step {g : Cfg} {r : Cfg × Nat} {w w' : World} {ev pv' ev' : Value} {y : Int} (h : EvIs g.er ev) (k : (ev' = ev ∧ r.1.er = g.er) ∨ (r.1.er = some y ∧ ErrAt w w' pv' ev' y)) : EvIs r.1.er ev' := by
  rcases k with ⟨rfl, e⟩ | ⟨e, ⟨q, t, hq, _⟩⟩
  · rw [e]; exact h
  · rw [e]
    exact ⟨fun q => (by cases q), fun _ => ⟨74, _, hq⟩⟩

theorem eofC_eofP (g : Cfg) (y : Int) : eofC g y = eofP g y := rfl

end Go.Proofs.YtlgmdcaoogiooaaGreatDoor
