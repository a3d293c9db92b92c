/- The scanner of encoding/json: what its codes tell, in plain words. -/
import Derived.Test.YtifemmjblamfkaaDoorScan
namespace Go.Proofs.YtifemmjblamfkaaDoor
open Go.RowKit

/-- The end of the input. -/
def eofP (g : Cfg) (y : Int) : Cfg × Nat :=
  if g.er ≠ none then (g, 11) else if g.top = true then (g, 10)
  else if (stepC g y 32).1.top = true then ((stepC g y 32).1, 10)
  else if (stepC g y 32).1.er = none then ({ (stepC g y 32).1 with er := some y }, 11) else ((stepC g y 32).1, 11)

/-- The codes of the bytes and of their end, up to the first fault, and where the scanner stands then. -/
def scanAll (g : Cfg) (n : Nat) : List UInt8 → List Nat × Cfg
  | [] => ([(eofP g n).2], (eofP g n).1)
  | c :: t => if (stepC g ((n + 1 : Nat) : Int) c.toNat).2 = 11 then ([11], (stepC g ((n + 1 : Nat) : Int) c.toNat).1)
    else ((stepC g ((n + 1 : Nat) : Int) c.toNat).2 :: (scanAll (stepC g ((n + 1 : Nat) : Int) c.toNat).1 (n + 1) t).1, (scanAll (stepC g ((n + 1 : Nat) : Int) c.toNat).1 (n + 1) t).2)

def nObj (ps : List Nat) : Nat := ps.countP (fun x => x != 2)
def nArr (ps : List Nat) : Nat := ps.countP (fun x => x == 2)

/-- What is so between two bytes. -/
structure WF (g : Cfg) : Prop where
  bse : g.st = .bse → ∃ i, g.ps = i ++ [0]
  top : g.top = true → g.ps = [] ∧ (g.st = .et ∨ g.st = .err)
  err : g.er ≠ none → g.st = .err
  er2 : g.st = .err → g.er ≠ none

/-- What a step does to what is open. -/
structure Did (g : Cfg) (r : Cfg × Nat) : Prop where
  wf : WF r.1
  len : r.1.ps.length ≤ g.ps.length + 1
  obj : (if r.2 = 2 then 1 else 0) + nObj g.ps = (if r.2 = 5 then 1 else 0) + nObj r.1.ps
  arr : (if r.2 = 6 then 1 else 0) + nArr g.ps = (if r.2 = 8 then 1 else 0) + nArr r.1.ps
  bad : r.2 = 11 → r.1.er ≠ none

theorem nObj_app (a b : List Nat) : nObj (a ++ b) = nObj a + nObj b := by simp [nObj]
theorem nArr_app (a b : List Nat) : nArr (a ++ b) = nArr a + nArr b := by simp [nArr]

theorem Did.fail {g : Cfg} (ht : g.top = true → g.ps = []) (y : Int) (k : Nat) (hk : k = 10 ∨ k = 11) : Did g (g.fail y, k) := by
  refine ⟨⟨fun e => (by cases e), fun e => ⟨ht e, .inr rfl⟩, fun _ => rfl, fun _ => (by simp [Cfg.fail])⟩, by simp [Cfg.fail], ?_, ?_, fun _ => (by simp [Cfg.fail])⟩
  · rcases hk with rfl | rfl <;> simp [Cfg.fail]
  · rcases hk with rfl | rfl <;> simp [Cfg.fail]

theorem Did.to {g : Cfg} (htop : g.top ≠ true) (hn : g.er = none) (s : St) (hs : s ≠ .bse) (hs2 : s ≠ .err) (k : Nat) (hk : k = 0 ∨ k = 1 ∨ k = 7 ∨ k = 9) : Did g (g.to s, k) := by
  refine ⟨⟨fun e => absurd e hs, fun e => absurd e htop, fun e => absurd hn e, fun e => absurd e hs2⟩, by simp [Cfg.to], ?_, ?_, fun e => (by simp only at e; omega)⟩
  · rcases hk with rfl | rfl | rfl | rfl <;> simp [Cfg.to]
  · rcases hk with rfl | rfl | rfl | rfl <;> simp [Cfg.to]

theorem Did.same {g : Cfg} (h : WF g) (k : Nat) (hk : k = 0 ∨ k = 9 ∨ k = 10) : Did g (g, k) := by
  refine ⟨h, by simp, ?_, ?_, fun e => (by simp only at e; omega)⟩
  · rcases hk with rfl | rfl | rfl <;> simp
  · rcases hk with rfl | rfl | rfl <;> simp

theorem Did.stuck {g : Cfg} (h : WF g) (he : g.st = .err) : Did g (g, 11) :=
  ⟨h, by simp, by simp, by simp, fun _ => h.er2 he⟩

theorem Did.of {g g1 : Cfg} {r : Cfg × Nat} (h : Did g1 r) (e1 : g1.ps.length = g.ps.length) (e2 : nObj g1.ps = nObj g.ps) (e3 : nArr g1.ps = nArr g.ps) : Did g r :=
  ⟨h.wf, by rw [← e1]; exact h.len, by rw [← e2]; exact h.obj, by rw [← e3]; exact h.arr, h.bad⟩

theorem did_et {g : Cfg} (h : WF g) (y : Int) (c : Nat) : Did g (stepEt g y c) := by
  unfold stepEt
  split
  · exact Did.same h 10 (by omega)
  · exact Did.fail (fun e => (h.top e).1) y 10 (by omega)

theorem did_pop {g : Cfg} (htop : g.top ≠ true) (hn : g.er = none) (i : List Nat) (p : Nat) (hps : g.ps = i ++ [p]) (k : Nat) (hk : (p ≠ 2 ∧ k = 5) ∨ (p = 2 ∧ k = 8)) : Did g (g.pop, k) := by
  have hdl : g.ps.dropLast = i := by rw [hps, List.dropLast_concat]
  have hq : g.pop.ps = i ∧ g.pop.er = g.er ∧ g.pop.st ≠ .bse ∧ g.pop.st ≠ .err ∧ (g.pop.top = true → g.pop.ps = [] ∧ (g.pop.st = .et ∨ g.pop.st = .err)) := by
    unfold Cfg.pop
    rw [hdl]
    split
    · rename_i e
      subst e
      exact ⟨rfl, rfl, by simp, by simp, fun _ => ⟨rfl, .inl rfl⟩⟩
    · exact ⟨rfl, rfl, by simp, by simp, fun e => absurd e htop⟩
  obtain ⟨q1, q2, q3, q4, q5⟩ := hq
  refine ⟨⟨fun e => absurd e q3, q5, fun e => absurd (q2.trans hn) e, fun e => absurd e q4⟩, by show g.pop.ps.length ≤ _; rw [q1, hps]; simp; omega, ?_, ?_, fun e => (by rcases hk with ⟨_, rfl⟩ | ⟨_, rfl⟩ <;> simp at e)⟩
  · show (if k = 2 then 1 else 0) + nObj g.ps = (if k = 5 then 1 else 0) + nObj g.pop.ps
    rw [q1, hps, nObj_app]
    rcases hk with ⟨h2, rfl⟩ | ⟨rfl, rfl⟩
    · simp [nObj, h2]; omega
    · simp [nObj]
  · show (if k = 6 then 1 else 0) + nArr g.ps = (if k = 8 then 1 else 0) + nArr g.pop.ps
    rw [q1, hps, nArr_app]
    rcases hk with ⟨h2, rfl⟩ | ⟨rfl, rfl⟩
    · simp [nArr, h2]
    · simp [nArr]; omega

theorem did_turn {g : Cfg} (htop : g.top ≠ true) (hn : g.er = none) (i : List Nat) (p x : Nat) (hps : g.ps = i ++ [p]) (hp : p ≠ 2) (hx : x ≠ 2) (s : St) (hs : s ≠ .bse) (hs2 : s ≠ .err) (k : Nat) (hk : k = 3 ∨ k = 4) : Did g (g.turn s x, k) := by
  have hdl : g.ps.dropLast = i := by rw [hps, List.dropLast_concat]
  have hq : g.turn s x = ⟨s, g.top, i ++ [x], g.er⟩ := by unfold Cfg.turn; rw [hdl]
  rw [hq]
  refine ⟨⟨fun e => absurd e hs, fun e => absurd e htop, fun e => absurd hn e, fun e => absurd e hs2⟩, by rw [hps]; simp, ?_, ?_, fun e => (by simp only at e; omega)⟩
  · rw [hps]
    rcases hk with rfl | rfl <;> simp [nObj, hp, hx]
  · rw [hps]
    rcases hk with rfl | rfl <;> simp [nArr, hp, hx]

theorem evP_none {g : Cfg} {y : Int} {c : Nat} (h : g.ps = []) : stepEv g y c = stepEt { g with st := .et, top := true } y c := by
  unfold stepEv
  rw [h]
  rfl

theorem evP_some {g : Cfg} {y : Int} {c p : Nat} {i : List Nat} (h : g.ps = i ++ [p]) : stepEv g y c =
    if isSp c then (g.to .ev, 9)
    else if p = 0 then (if c = 58 then (g.turn .bv 1, 3) else (g.fail y, 11))
    else if p = 1 then (if c = 44 then (g.turn .bs 0, 4) else if c = 125 then (g.pop, 5) else (g.fail y, 11))
    else if p = 2 then (if c = 44 then (g.to .bv, 7) else if c = 93 then (g.pop, 8) else (g.fail y, 11))
    else (g.fail y, 11) := by
  have e : g.ps.getLast? = some p := by rw [h]; simp
  unfold stepEv
  rw [e]

theorem last_cases (l : List Nat) : l = [] ∨ ∃ i p, l = i ++ [p] := by
  rcases List.eq_nil_or_concat l with h | ⟨i, p, h⟩
  · exact .inl h
  · exact .inr ⟨i, p, by rw [h, List.concat_eq_append]⟩

theorem did_ev {g : Cfg} (htop : g.top ≠ true) (hn : g.er = none) (y : Int) (c : Nat) : Did g (stepEv g y c) := by
  have ht : g.top = true → g.ps = [] := fun e => absurd e htop
  rcases last_cases g.ps with hps | ⟨i, p, hps⟩
  · rw [evP_none hps]
    exact (did_et (g := { g with st := .et, top := true }) ⟨fun e => (by cases e), fun _ => ⟨hps, .inl rfl⟩, fun e => absurd hn e, fun e => (by cases e)⟩ y c).of rfl rfl rfl
  · rw [evP_some hps]
    split
    · exact Did.to htop hn _ (by simp) (by simp) 9 (by omega)
    split
    · rename_i hp
      split
      · exact did_turn htop hn i p 1 hps (by omega) (by omega) _ (by simp) (by simp) 3 (by omega)
      · exact Did.fail ht y 11 (by omega)
    split
    · rename_i hp
      split
      · exact did_turn htop hn i p 0 hps (by omega) (by omega) _ (by simp) (by simp) 4 (by omega)
      split
      · exact did_pop htop hn i p hps 5 (.inl ⟨by omega, rfl⟩)
      · exact Did.fail ht y 11 (by omega)
    split
    · rename_i hp
      split
      · exact Did.to htop hn _ (by simp) (by simp) 7 (by omega)
      split
      · exact did_pop htop hn i p hps 8 (.inr ⟨hp, rfl⟩)
      · exact Did.fail ht y 11 (by omega)
    · exact Did.fail ht y 11 (by omega)

theorem did_push {g : Cfg} (htop : g.top ≠ true) (hn : g.er = none) (s : St) (p k : Nat) (hk : (s = .bse ∧ p = 0 ∧ k = 2) ∨ (s = .bve ∧ p = 2 ∧ k = 6)) : Did g (g.push s p, k) := by
  refine ⟨⟨fun e => ?_, fun e => absurd e htop, fun e => absurd hn e, fun e => ?_⟩, by simp [Cfg.push], ?_, ?_, fun e => ?_⟩
  · rcases hk with ⟨_, rfl, _⟩ | ⟨rfl, _, _⟩
    · exact ⟨g.ps, rfl⟩
    · cases e
  · rcases hk with ⟨rfl, _, _⟩ | ⟨rfl, _, _⟩ <;> cases e
  · rcases hk with ⟨_, rfl, rfl⟩ | ⟨_, rfl, rfl⟩ <;> simp [Cfg.push, nObj] <;> omega
  · rcases hk with ⟨_, rfl, rfl⟩ | ⟨_, rfl, rfl⟩ <;> simp [Cfg.push, nArr] <;> omega
  · rcases hk with ⟨_, _, rfl⟩ | ⟨_, _, rfl⟩ <;> simp at e

theorem did_hex {g : Cfg} (htop : g.top ≠ true) (hn : g.er = none) (y : Int) (c : Nat) (s : St) (hs : s ≠ .bse) (hs2 : s ≠ .err) : Did g (stepHex g y c s) := by
  unfold stepHex
  split
  · exact Did.to htop hn _ hs hs2 0 (by omega)
  · exact Did.fail (fun e => absurd e htop) y 11 (by omega)

theorem did_want {g : Cfg} (htop : g.top ≠ true) (hn : g.er = none) (y : Int) (c v : Nat) (s : St) (hs : s ≠ .bse) (hs2 : s ≠ .err) : Did g (stepWant g y c v s) := by
  unfold stepWant
  split
  · exact Did.to htop hn _ hs hs2 0 (by omega)
  · exact Did.fail (fun e => absurd e htop) y 11 (by omega)

set_option maxHeartbeats 2000000 in
theorem did_step {g : Cfg} (h : WF g) (y : Int) (c : Nat) : Did g (stepC g y c) := by
  have hn : g.st ≠ .err → g.er = none := fun e => Classical.byContradiction fun k => e (h.err k)
  have htop : g.st ≠ .et → g.st ≠ .err → g.top ≠ true := fun e1 e2 k => (h.top k).2.elim e1 e2
  unfold stepC
  cases hs : g.st
  case et => exact did_et h y c
  case err => exact Did.stuck h hs
  all_goals
    have n : g.er = none := hn (by rw [hs]; simp)
    have t : g.top ≠ true := htop (by rw [hs]; simp) (by rw [hs]; simp)
    clear hn htop
  case bv => dsimp only; unfold stepBv; (repeat' split) <;> (first
    | exact Did.same h 9 (by omega) | exact Did.same h 0 (by omega)
    | exact Did.to t n _ (by simp) (by simp) 0 (by omega) | exact Did.to t n _ (by simp) (by simp) 1 (by omega)
    | exact Did.fail (fun e => absurd e t) _ 11 (by omega)
    | exact did_push t n _ _ _ (.inl ⟨rfl, rfl, rfl⟩) | exact did_push t n _ _ _ (.inr ⟨rfl, rfl, rfl⟩)
    | exact did_ev t n _ _)
  case bve => dsimp only; unfold stepBve stepBv; (repeat' split) <;> (first
    | exact Did.same h 9 (by omega) | exact Did.same h 0 (by omega)
    | exact Did.to t n _ (by simp) (by simp) 0 (by omega) | exact Did.to t n _ (by simp) (by simp) 1 (by omega)
    | exact Did.fail (fun e => absurd e t) _ 11 (by omega)
    | exact did_push t n _ _ _ (.inl ⟨rfl, rfl, rfl⟩) | exact did_push t n _ _ _ (.inr ⟨rfl, rfl, rfl⟩)
    | exact did_ev t n _ _)
  case bs => dsimp only; unfold stepBs; (repeat' split) <;> (first
    | exact Did.same h 9 (by omega) | exact Did.same h 0 (by omega)
    | exact Did.to t n _ (by simp) (by simp) 0 (by omega) | exact Did.to t n _ (by simp) (by simp) 1 (by omega)
    | exact Did.fail (fun e => absurd e t) _ 11 (by omega)
    | exact did_push t n _ _ _ (.inl ⟨rfl, rfl, rfl⟩) | exact did_push t n _ _ _ (.inr ⟨rfl, rfl, rfl⟩)
    | exact did_ev t n _ _)
  case ev => exact did_ev t n y c
  case bse =>
    dsimp only
    obtain ⟨i, hps⟩ := h.bse hs
    unfold stepBse
    split
    · exact Did.same h 9 (by omega)
    split
    · have hdl : g.ps.dropLast = i := by rw [hps, List.dropLast_concat]
      rw [hdl]
      exact (did_ev (g := { g with ps := i ++ [1] }) t n y c).of (by rw [hps]; simp) (by rw [hps]; simp [nObj]) (by rw [hps]; simp [nArr])
    · unfold stepBs; (repeat' split) <;> (first
    | exact Did.same h 9 (by omega) | exact Did.same h 0 (by omega)
    | exact Did.to t n _ (by simp) (by simp) 0 (by omega) | exact Did.to t n _ (by simp) (by simp) 1 (by omega)
    | exact Did.fail (fun e => absurd e t) _ 11 (by omega)
    | exact did_push t n _ _ _ (.inl ⟨rfl, rfl, rfl⟩) | exact did_push t n _ _ _ (.inr ⟨rfl, rfl, rfl⟩)
    | exact did_ev t n _ _)
  case str => dsimp only; unfold stepStr; (repeat' split) <;> (first
    | exact Did.same h 9 (by omega) | exact Did.same h 0 (by omega)
    | exact Did.to t n _ (by simp) (by simp) 0 (by omega) | exact Did.to t n _ (by simp) (by simp) 1 (by omega)
    | exact Did.fail (fun e => absurd e t) _ 11 (by omega)
    | exact did_push t n _ _ _ (.inl ⟨rfl, rfl, rfl⟩) | exact did_push t n _ _ _ (.inr ⟨rfl, rfl, rfl⟩)
    | exact did_ev t n _ _)
  case esc => dsimp only; unfold stepEsc; (repeat' split) <;> (first
    | exact Did.same h 9 (by omega) | exact Did.same h 0 (by omega)
    | exact Did.to t n _ (by simp) (by simp) 0 (by omega) | exact Did.to t n _ (by simp) (by simp) 1 (by omega)
    | exact Did.fail (fun e => absurd e t) _ 11 (by omega)
    | exact did_push t n _ _ _ (.inl ⟨rfl, rfl, rfl⟩) | exact did_push t n _ _ _ (.inr ⟨rfl, rfl, rfl⟩)
    | exact did_ev t n _ _)
  case neg => dsimp only; unfold stepNeg; (repeat' split) <;> (first
    | exact Did.same h 9 (by omega) | exact Did.same h 0 (by omega)
    | exact Did.to t n _ (by simp) (by simp) 0 (by omega) | exact Did.to t n _ (by simp) (by simp) 1 (by omega)
    | exact Did.fail (fun e => absurd e t) _ 11 (by omega)
    | exact did_push t n _ _ _ (.inl ⟨rfl, rfl, rfl⟩) | exact did_push t n _ _ _ (.inr ⟨rfl, rfl, rfl⟩)
    | exact did_ev t n _ _)
  case s0 => dsimp only; unfold stepS0; (repeat' split) <;> (first
    | exact Did.same h 9 (by omega) | exact Did.same h 0 (by omega)
    | exact Did.to t n _ (by simp) (by simp) 0 (by omega) | exact Did.to t n _ (by simp) (by simp) 1 (by omega)
    | exact Did.fail (fun e => absurd e t) _ 11 (by omega)
    | exact did_push t n _ _ _ (.inl ⟨rfl, rfl, rfl⟩) | exact did_push t n _ _ _ (.inr ⟨rfl, rfl, rfl⟩)
    | exact did_ev t n _ _)
  case s1 => dsimp only; unfold stepS1 stepS0; (repeat' split) <;> (first
    | exact Did.same h 9 (by omega) | exact Did.same h 0 (by omega)
    | exact Did.to t n _ (by simp) (by simp) 0 (by omega) | exact Did.to t n _ (by simp) (by simp) 1 (by omega)
    | exact Did.fail (fun e => absurd e t) _ 11 (by omega)
    | exact did_push t n _ _ _ (.inl ⟨rfl, rfl, rfl⟩) | exact did_push t n _ _ _ (.inr ⟨rfl, rfl, rfl⟩)
    | exact did_ev t n _ _)
  case dot => dsimp only; unfold stepDot; (repeat' split) <;> (first
    | exact Did.same h 9 (by omega) | exact Did.same h 0 (by omega)
    | exact Did.to t n _ (by simp) (by simp) 0 (by omega) | exact Did.to t n _ (by simp) (by simp) 1 (by omega)
    | exact Did.fail (fun e => absurd e t) _ 11 (by omega)
    | exact did_push t n _ _ _ (.inl ⟨rfl, rfl, rfl⟩) | exact did_push t n _ _ _ (.inr ⟨rfl, rfl, rfl⟩)
    | exact did_ev t n _ _)
  case dot0 => dsimp only; unfold stepDot0; (repeat' split) <;> (first
    | exact Did.same h 9 (by omega) | exact Did.same h 0 (by omega)
    | exact Did.to t n _ (by simp) (by simp) 0 (by omega) | exact Did.to t n _ (by simp) (by simp) 1 (by omega)
    | exact Did.fail (fun e => absurd e t) _ 11 (by omega)
    | exact did_push t n _ _ _ (.inl ⟨rfl, rfl, rfl⟩) | exact did_push t n _ _ _ (.inr ⟨rfl, rfl, rfl⟩)
    | exact did_ev t n _ _)
  case e => dsimp only; unfold stepE stepESign; (repeat' split) <;> (first
    | exact Did.same h 9 (by omega) | exact Did.same h 0 (by omega)
    | exact Did.to t n _ (by simp) (by simp) 0 (by omega) | exact Did.to t n _ (by simp) (by simp) 1 (by omega)
    | exact Did.fail (fun e => absurd e t) _ 11 (by omega)
    | exact did_push t n _ _ _ (.inl ⟨rfl, rfl, rfl⟩) | exact did_push t n _ _ _ (.inr ⟨rfl, rfl, rfl⟩)
    | exact did_ev t n _ _)
  case esign => dsimp only; unfold stepESign; (repeat' split) <;> (first
    | exact Did.same h 9 (by omega) | exact Did.same h 0 (by omega)
    | exact Did.to t n _ (by simp) (by simp) 0 (by omega) | exact Did.to t n _ (by simp) (by simp) 1 (by omega)
    | exact Did.fail (fun e => absurd e t) _ 11 (by omega)
    | exact did_push t n _ _ _ (.inl ⟨rfl, rfl, rfl⟩) | exact did_push t n _ _ _ (.inr ⟨rfl, rfl, rfl⟩)
    | exact did_ev t n _ _)
  case e0 => dsimp only; unfold stepE0; (repeat' split) <;> (first
    | exact Did.same h 9 (by omega) | exact Did.same h 0 (by omega)
    | exact Did.to t n _ (by simp) (by simp) 0 (by omega) | exact Did.to t n _ (by simp) (by simp) 1 (by omega)
    | exact Did.fail (fun e => absurd e t) _ 11 (by omega)
    | exact did_push t n _ _ _ (.inl ⟨rfl, rfl, rfl⟩) | exact did_push t n _ _ _ (.inr ⟨rfl, rfl, rfl⟩)
    | exact did_ev t n _ _)
  all_goals
    first
    | exact did_hex t n y c _ (by simp) (by simp)
    | exact did_want t n y c _ _ (by simp) (by simp)

/-- A space opens and ends nothing, and where it tells the end there is no fault. -/
theorem sp_step {g : Cfg} (h : WF g) (he : g.er = none) (y : Int) : ((stepC g y 32).2 ≠ 2 ∧ (stepC g y 32).2 ≠ 5 ∧ (stepC g y 32).2 ≠ 6 ∧ (stepC g y 32).2 ≠ 8) ∧ (g.top ≠ true → (stepC g y 32).1.top = true → (stepC g y 32).1.er = none) := by
  have hsp : isSp 32 := by decide
  have ev : ((stepEv g y 32).2 ≠ 2 ∧ (stepEv g y 32).2 ≠ 5 ∧ (stepEv g y 32).2 ≠ 6 ∧ (stepEv g y 32).2 ≠ 8) ∧ (g.top ≠ true → (stepEv g y 32).1.top = true → (stepEv g y 32).1.er = none) := by
    rcases last_cases g.ps with hps | ⟨i, p, hps⟩
    · rw [evP_none hps]
      unfold stepEt
      rw [if_pos hsp]
      exact ⟨⟨by simp, by simp, by simp, by simp⟩, fun _ _ => he⟩
    · rw [evP_some hps, if_pos hsp]
      exact ⟨⟨by simp, by simp, by simp, by simp⟩, fun _ _ => he⟩
  unfold stepC
  cases hs : g.st
  case err => exact absurd he (h.er2 hs)
  all_goals
    simp [stepBve, stepBv, stepBse, stepBs, stepEt, stepStr, stepEsc, stepHex, stepNeg, stepS1, stepS0, stepDot, stepDot0, stepE, stepESign, stepE0, stepWant, hsp, isDig, isHex, isEsc, Cfg.fail, he]
  all_goals simpa using ev

def cnt (k : Nat) (L : List Nat) : Nat := L.countP (fun x => x == k)
theorem cnt_cons (k x : Nat) (L : List Nat) : cnt k (x :: L) = (if x = k then 1 else 0) + cnt k L := by
  unfold cnt
  rw [List.countP_cons]
  by_cases h : x = k <;> simp [h]; omega
theorem cnt_nil (k : Nat) : cnt k [] = 0 := rfl

theorem eof_facts {g : Cfg} (h : WF g) (y : Int) : ((eofP g y).2 = 10 ∧ (eofP g y).1.er = none ∧ nObj g.ps = 0 ∧ nArr g.ps = 0) ∨ ((eofP g y).2 = 11 ∧ (eofP g y).1.er ≠ none) := by
  unfold eofP
  split
  · rename_i e
    exact .inr ⟨rfl, e⟩
  rename_i e
  have e : g.er = none := Classical.byContradiction e
  split
  · rename_i e2
    exact .inl ⟨rfl, e, by rw [(h.top e2).1]; rfl, by rw [(h.top e2).1]; rfl⟩
  rename_i e2
  have hd := did_step h y 32
  obtain ⟨⟨s1, s2, s3, s4⟩, s5⟩ := sp_step h e y
  split
  · rename_i e3
    have hps := (hd.wf.top e3).1
    have ho := hd.obj
    have ha := hd.arr
    rw [if_neg s1, if_neg s2, hps] at ho
    rw [if_neg s3, if_neg s4, hps] at ha
    refine .inl ⟨rfl, s5 e2 e3, ?_, ?_⟩
    · simpa [nObj] using ho
    · simpa [nArr] using ha
  split
  · exact .inr ⟨rfl, by simp⟩
  · rename_i e4
    exact .inr ⟨rfl, e4⟩

/-- What the codes of a text tell. -/
structure Told (a b n : Nat) (L : List Nat) (er : Option Int) : Prop where
  pre : ∀ i ≤ L.length, cnt 5 (L.take i) ≤ a + cnt 2 (L.take i) ∧ cnt 8 (L.take i) ≤ b + cnt 6 (L.take i)
  len : L ≠ [] ∧ L.length ≤ n + 1
  bad : er ≠ none → cnt 11 L = 1 ∧ L.getLast? = some 11
  good : er = none → cnt 11 L = 0 ∧ a + cnt 2 L = cnt 5 L ∧ b + cnt 6 L = cnt 8 L ∧ L.length = n + 1 ∧ L.getLast? = some 10

theorem told : (l : List UInt8) → (g : Cfg) → WF g → (n : Nat) → Told (nObj g.ps) (nArr g.ps) l.length (scanAll g n l).1 (scanAll g n l).2.er
  | [], g, h, n => by
    unfold scanAll
    rcases eof_facts h (n : Int) with ⟨e1, e2, e3, e4⟩ | ⟨e1, e2⟩
    · rw [e1]
      refine ⟨fun i hi => ?_, ⟨by simp, by simp⟩, fun e => absurd e2 e, fun _ => ⟨rfl, by rw [e3]; rfl, by rw [e4]; rfl, rfl, rfl⟩⟩
      cases i <;> simp [cnt]
    · rw [e1]
      refine ⟨fun i hi => ?_, ⟨by simp, by simp⟩, fun _ => ⟨rfl, rfl⟩, fun e => absurd e e2⟩
      cases i <;> simp [cnt]
  | c :: t, g, h, n => by
    have hd := did_step h ((n + 1 : Nat) : Int) c.toNat
    unfold scanAll
    split
    · rename_i e
      have he := hd.bad e
      refine ⟨fun i hi => ?_, ⟨by simp, by simp⟩, fun _ => ⟨rfl, rfl⟩, fun e => absurd e he⟩
      cases i <;> simp [cnt]
    · rename_i e
      have ih := told t _ hd.wf (n + 1)
      have ho := hd.obj
      have ha := hd.arr
      generalize (scanAll (stepC g ((n + 1 : Nat) : Int) c.toNat).1 (n + 1) t).1 = L at ih ⊢
      generalize (scanAll (stepC g ((n + 1 : Nat) : Int) c.toNat).1 (n + 1) t).2.er = er at ih ⊢
      generalize (stepC g ((n + 1 : Nat) : Int) c.toNat).2 = k at e ho ha ⊢
      have hl : ∀ x, (k :: L).getLast? = some x ↔ L.getLast? = some x := fun x => by
        rcases List.eq_nil_or_concat L with q | ⟨i, p, q⟩
        · exact absurd q ih.len.1
        · rw [q, List.concat_eq_append, ← List.cons_append, List.getLast?_concat, List.getLast?_concat]
      refine ⟨fun i hi => ?_, ⟨by simp, ?_⟩, fun q => ?_, fun q => ?_⟩
      · cases i with
        | zero => simp [cnt]
        | succ i =>
          have := ih.pre i (by simpa using hi)
          rw [List.take_succ_cons, cnt_cons, cnt_cons, cnt_cons, cnt_cons]
          omega
      · have := ih.len.2
        simp only [List.length_cons]
        omega
      · have := ih.bad q
        rw [cnt_cons, if_neg e, hl]
        exact ⟨by omega, this.2⟩
      · have := ih.good q
        rw [cnt_cons, cnt_cons, cnt_cons, cnt_cons, cnt_cons, if_neg e, hl]
        refine ⟨by omega, by omega, by omega, by simp only [List.length_cons]; omega, this.2.2.2.2⟩

end Go.Proofs.YtifemmjblamfkaaDoor
