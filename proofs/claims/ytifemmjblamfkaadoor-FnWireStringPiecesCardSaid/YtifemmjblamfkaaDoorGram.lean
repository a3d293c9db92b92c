/- The scanner after a part of a text, and the fault of a whole one. -/
import Derived.Test.YtifemmjblamfkaaDoorScanL
namespace Go.Proofs.YtifemmjblamfkaaDoor
open Go.RowKit

/-- The scanner after the bytes; behind a fault it stays. -/
def runC (g : Cfg) (n : Nat) : List UInt8 → Cfg
  | [] => g
  | c :: t => runC (stepC g ((n + 1 : Nat) : Int) c.toNat).1 (n + 1) t

theorem runC_app (a b : List UInt8) : ∀ (g : Cfg) (n : Nat), runC g n (a ++ b) = runC (runC g n a) (n + a.length) b := by
  induction a with
  | nil => intro g n; rfl
  | cons c t ih =>
    intro g n
    show runC _ (n + 1) (t ++ b) = runC (runC _ (n + 1) t) _ b
    rw [ih, List.length_cons, show n + 1 + t.length = n + (t.length + 1) by omega]

theorem step_stuck {g : Cfg} (h : g.st = .err) (y : Int) (c : Nat) : stepC g y c = (g, 11) := by
  unfold stepC
  rw [h]

theorem runC_stuck {g : Cfg} (h : g.st = .err) : ∀ (l : List UInt8) (n : Nat), runC g n l = g
  | [], _ => rfl
  | c :: t, n => by
    show runC (stepC g _ c.toNat).1 (n + 1) t = g
    rw [step_stuck h]
    exact runC_stuck h t (n + 1)

theorem runC_wf : ∀ (l : List UInt8) {g : Cfg} (n : Nat), WF g → WF (runC g n l)
  | [], _, _, h => h
  | c :: t, _, n, h => runC_wf t (n + 1) (did_step h _ c.toNat).wf

/-- A fault stays. -/
theorem runC_fault {g : Cfg} (h : WF g) (he : g.er ≠ none) (l : List UInt8) (n : Nat) : runC g n l = g := runC_stuck (h.err he) l n

/-- The fault of a whole text. -/
theorem scan_er : ∀ (l : List UInt8) (g : Cfg) (n : Nat), WF g → (scanAll g n l).2.er = if (runC g n l).er = none then (eofP (runC g n l) ((n + l.length : Nat) : Int)).1.er else (runC g n l).er
  | [], g, n, h => by
    show (eofP g (n : Int)).1.er = if g.er = none then (eofP g ((n + 0 : Nat) : Int)).1.er else g.er
    rw [Nat.add_zero]
    by_cases e : g.er = none
    · rw [if_pos e]
    · rw [if_neg e]
      unfold eofP
      rw [if_pos e]
  | c :: t, g, n, h => by
    have hd := did_step h ((n + 1 : Nat) : Int) c.toNat
    show (scanAll g n (c :: t)).2.er = if (runC (stepC g ((n + 1 : Nat) : Int) c.toNat).1 (n + 1) t).er = none then (eofP (runC (stepC g ((n + 1 : Nat) : Int) c.toNat).1 (n + 1) t) ((n + (t.length + 1) : Nat) : Int)).1.er else (runC (stepC g ((n + 1 : Nat) : Int) c.toNat).1 (n + 1) t).er
    unfold scanAll
    split
    · rename_i e
      have he := hd.bad e
      rw [runC_fault hd.wf he, if_neg he]
    · have ih := scan_er t _ (n + 1) hd.wf
      rw [show n + (t.length + 1) = n + 1 + t.length by omega]
      exact ih

/-- A wrong byte: the scanner took what stands ahead of it, and not this one. -/
theorem scan_wrong {g : Cfg} (h : WF g) (n : Nat) (a : List UInt8) (c : UInt8) (t : List UInt8) (o : Int) (h2 : (stepC (runC g n a) ((n + a.length + 1 : Nat) : Int) c.toNat).1.er = some o) : (scanAll g n (a ++ c :: t)).2.er = some o := by
  have hw := did_step (runC_wf a n h) ((n + a.length + 1 : Nat) : Int) c.toNat
  rw [scan_er _ _ _ h, runC_app]
  have e : runC (runC g n a) (n + a.length) (c :: t) = (stepC (runC g n a) ((n + a.length + 1 : Nat) : Int) c.toNat).1 := by
    show runC (stepC (runC g n a) _ c.toNat).1 _ t = _
    exact runC_fault hw.wf (by rw [h2]; simp) t _
  rw [e, if_neg (by rw [h2]; simp), h2]

/-- The fault of what is left of a text. -/
def fin (g : Cfg) (n : Nat) (l : List UInt8) : Option Int := (scanAll g n l).2.er

theorem fin_err {g : Cfg} (h : WF g) {o : Int} (he : g.er = some o) (n : Nat) (l : List UInt8) : fin g n l = some o := by
  unfold fin
  rw [scan_er _ _ _ h, runC_fault h (by rw [he]; simp), if_neg (by rw [he]; simp), he]

theorem fin_cons {g : Cfg} (h : WF g) (n : Nat) (c : UInt8) (t : List UInt8) : fin g n (c :: t) = fin (stepC g ((n + 1 : Nat) : Int) c.toNat).1 (n + 1) t := by
  unfold fin
  rw [scan_er _ _ _ h, scan_er _ _ _ (did_step h _ c.toNat).wf, List.length_cons, show n + (t.length + 1) = n + 1 + t.length by omega]
  rfl

/-- A step that goes on. -/
theorem fin_step {g g1 : Cfg} (h : WF g) {n : Nat} {c : UInt8} {t : List UInt8} (h1 : (stepC g ((n + 1 : Nat) : Int) c.toNat).1 = g1) : fin g n (c :: t) = fin g1 (n + 1) t := by rw [fin_cons h, h1]

/-- A wrong byte. -/
theorem fin_bad {g g1 : Cfg} (h : WF g) {n : Nat} {c : UInt8} {t : List UInt8} (h1 : (stepC g ((n + 1 : Nat) : Int) c.toNat).1 = g1.fail ((n + 1 : Nat) : Int)) : fin g n (c :: t) = some ((n + 1 : Nat) : Int) := by
  have hw := (did_step h ((n + 1 : Nat) : Int) c.toNat).wf
  rw [fin_cons h]
  exact fin_err hw (by rw [h1]; rfl) _ _

/-- The end of a text that ends too early. -/
theorem fin_short {g g1 : Cfg} (he : g.er = none) (ht : g.top ≠ true) (n : Nat) (h1 : (stepC g (n : Int) 32).1 = g1) (h2 : g1.top ≠ true) (h3 : g1.er = none ∨ g1.er = some (n : Int)) : fin g n [] = some (n : Int) := by
  show (eofP g (n : Int)).1.er = _
  unfold eofP
  rw [if_neg (by rw [he]; simp), if_neg ht, h1, if_neg h2]
  rcases h3 with e | e
  · rw [if_pos e]
  · rw [if_neg (by rw [e]; simp), e]

/-- Where the scanner stands behind a value. -/
def after (g : Cfg) : Cfg := if g.ps = [] then { g with st := .et, top := true } else { g with st := .ev }

/-- Behind a value that a number or a word ends, the scanner goes on as behind any value. -/
theorem fin_after {g : Cfg} (h : WF g) (he : g.er = none) (ht : g.top ≠ true) (hs : g.st = .ev) (n : Nat) (l : List UInt8) : fin g n l = fin (after g) n l := by
  unfold after
  split
  · rename_i hps
    have hw : WF { g with st := .et, top := true } := ⟨fun e => (by cases e), fun _ => ⟨hps, .inl rfl⟩, fun e => absurd he e, fun e => (by cases e)⟩
    have hstep : ∀ y c, stepC g y c = stepC { g with st := .et, top := true } y c := fun y c => by
      unfold stepC
      rw [hs]
      exact evP_none hps
    cases l with
    | nil =>
      show (eofP g (n : Int)).1.er = (eofP { g with st := .et, top := true } (n : Int)).1.er
      have e32 : (stepC g (n : Int) 32).1 = { g with st := .et, top := true } := by
        rw [hstep]
        show (stepEt { g with st := .et, top := true } (n : Int) 32).1 = _
        unfold stepEt
        rw [if_pos (by decide)]
      unfold eofP
      rw [if_neg (by rw [he]; simp), if_neg ht, e32, if_pos rfl, if_neg (by show ¬ g.er ≠ none; rw [he]; simp), if_pos rfl]
    | cons c t =>
      rw [fin_cons h, fin_cons hw, hstep]
  · rw [← hs]

end Go.Proofs.YtifemmjblamfkaaDoor
