/- The reader's digits. -/
import Derived.Test.YtlgmdcaoogiooaaGreatDoorSpcW
import Derived.BigQuiet
namespace Go.Proofs.YtlgmdcaoogiooaaGreatDoor
open Go.RowKit

/-- Behind the digits from k on. -/
def mDigs (l : List UInt8) (k : Nat) : Nat := k + ((l.drop k).takeWhile (fun c => decide (isDig c.toNat))).length

theorem mDigs_on {l : List UInt8} {k : Nat} (hk : k < l.length) (h : isDig (l[k]'hk).toNat) : mDigs l k = mDigs l (k + 1) := by
  unfold mDigs
  rw [List.drop_eq_getElem_cons hk, List.takeWhile_cons, if_pos (by simpa using h), List.length_cons]
  omega

theorem mDigs_off {l : List UInt8} {k : Nat} (h : ∀ hk : k < l.length, ¬ isDig (l[k]'hk).toNat) : mDigs l k = k := by
  unfold mDigs
  by_cases hk : k < l.length
  · rw [List.drop_eq_getElem_cons hk, List.takeWhile_cons, if_neg (by simpa using h hk)]
    rfl
  · rw [List.drop_eq_nil_of_le (by omega)]
    rfl

/-- 'digits', in plain words. -/
def mDigits (l : List UInt8) (k : Nat) : Bool × Nat := if (mNeed l 48 57 k).1 = true then (true, mDigs l (k + 1)) else (false, k)

theorem mNeed_true {l : List UInt8} {c d : Int} {k : Nat} (h : (mNeed l c d k).1 = true) : mNeed l c d k = (true, k + 1) := by
  unfold mNeed at h ⊢
  split at h
  · split at h
    · rename_i q
      rw [if_pos q]
    · cases h
  · cases h

theorem mNeed_false {l : List UInt8} {c d : Int} {k : Nat} (h : ¬ (mNeed l c d k).1 = true) : mNeed l c d k = (false, k) := by
  unfold mNeed at h ⊢
  split at h
  · split at h
    · exact absurd rfl h
    · rename_i q
      rw [if_neg q]
  · rfl

set_option maxRecDepth 100000 in
set_option maxHeartbeats 2000000 in
theorem digits_any (b : Nat) (s : ByteArray) (k : Nat) (tw lo : Bool) (f : Int) (op : Bool) (w : World) (hs : s.size ≤ 9223372036854775806) (h : Rd w b s k tw lo f op) :
    Calls Tryz.prog 70 #[.pointer (some ⟨b, 0, none⟩)] w (Step w b s tw lo f op (mDigits s.data.toList k)) := by
  have H := Lib.hid h
  clear h
  by_cases hd : (mNeed s.data.toList 48 57 k).1 = true
  · have hN := Lib.hid (mNeed_true hd)
    have hm : mDigits s.data.toList k = (true, mDigs s.data.toList (k + 1)) := if_pos hd
    rw [hm]
    clear hm hd
    go_enter Tryz.func70, Tryz.ntmps70
    go_wp2_with fail
    refine (need_any b s k tw lo f op 48 57 _ hs H.out).mono ?_
    rw [hN.out]
    rintro e w1 ⟨rfl, hst⟩
    obtain ⟨f', hr, hf, _⟩ := hst.rd
    obtain rfl := hf rfl
    have HR1 := Lib.hid hr
    have HG1 := Lib.hid hst.grown
    clear hst hr hf
    go_wp2_with fail
    go_loopw [6] (fun _ wr => ∃ j : Nat, Rd wr b s j tw lo f' op ∧ w.grownBy wr (some b) ∧ mDigs s.data.toList (k + 1) = mDigs s.data.toList j)
      (fun _ wr => match wr.cell? ⟨b, 1, none⟩ with | some (.int _ i) => s.size - i.toNat | _ => 0)
    case atStart => exact ⟨k + 1, HR1.out, HG1.out, rfl⟩
    case round =>
      obtain ⟨j, hrd, hg, hm⟩ := hrel
      obtain ⟨c0, c1, _, _, f1, _⟩ := hrd.cells
      have hle := hrd.le
      have hlt := hrd.lt
      have HR := Lib.hid hrd
      have HG := Lib.hid hg
      have HM := Lib.hid hm
      clear hrd hg hm
      by_cases hk : j < s.size
      · have g0 : decide ((j : Int) < (s.size : Int)) = true := by simpa using hk
        have hi0 : (0 : Int) ≤ (j : Int) := by omega
        have hi1 : (j : Int) < (s.size : Int) := by omega
        have hgt : s.data.toList[j]'(by rw [size_eq]; exact hk) = s[j] := by simp [ByteArray.getElem_eq_getElem_data]
        have HGt := Lib.hid hgt
        clear hgt
        by_cases h1 : 48 ≤ (s[j]'hk).toNat
        · by_cases h2 : (s[j]'hk).toNat ≤ 57
          · have HS := Lib.hid (show isDig (s[j]'hk).toNat from ⟨h1, h2⟩)
            have d1 : decide ((48 : Int) ≤ (((s[j]'hk).toNat : Nat) : Int)) = true := decide_eq_true (by omega)
            have d2 : decide ((((s[j]'hk).toNat : Nat) : Int) ≤ 57) = true := decide_eq_true (by omega)
            clear h1 h2
            go_wp2_with fail
            go_big_quiet (fail)
            go_wp2_with fail
            go_roundw
            case rel => exact ⟨j + 1, (HR.out.drewN _).setAt (j + 1) hk, grown_set (grown_drewN HG.out _) 1 _, HM.out.trans (mDigs_on (by rw [size_eq]; exact hk) (by rw [HGt.out]; exact HS.out))⟩
            case measure =>
              have hc1 := ((HR.out.drewN nq).setAt (j + 1) hk).cells.2.1
              rw [c1]
              have e1 : (((j + 1 : Nat)) : Int) = (j : Int) + 1 := by omega
              rw [e1] at hc1
              rw [hc1]
              show s.size - ((j : Int) + 1).toNat < s.size - ((j : Int)).toNat
              omega
          · have HS := Lib.hid (show ¬ isDig (s[j]'hk).toNat from fun q => h2 q.2)
            have d1 : decide ((48 : Int) ≤ (((s[j]'hk).toNat : Nat) : Int)) = true := decide_eq_true (by omega)
            have d2 : decide ((((s[j]'hk).toNat : Nat) : Int) ≤ 57) = false := decide_eq_false (by omega)
            clear h1 h2
            go_wp2_with fail
            go_big_quiet (fail)
            go_wp2_with fail
            go_ret
            refine ⟨rfl, grown_drewN HG.out _, f', ?_, fun _ => rfl, fun e => (by cases e)⟩
            show Rd _ b s (mDigs s.data.toList (k + 1)) tw lo f' op
            rw [HM.out, mDigs_off (fun hk2 => by rw [HGt.out]; exact HS.out)]
            exact HR.out.drewN _
        · have HS := Lib.hid (show ¬ isDig (s[j]'hk).toNat from fun q => h1 q.1)
          have d1 : decide ((48 : Int) ≤ (((s[j]'hk).toNat : Nat) : Int)) = false := decide_eq_false (by omega)
          clear h1
          go_wp2_with fail
          go_big_quiet (fail)
          go_wp2_with fail
          go_ret
          refine ⟨rfl, grown_drewN HG.out _, f', ?_, fun _ => rfl, fun e => (by cases e)⟩
          show Rd _ b s (mDigs s.data.toList (k + 1)) tw lo f' op
          rw [HM.out, mDigs_off (fun hk2 => by rw [HGt.out]; exact HS.out)]
          exact HR.out.drewN _
      · have g0 : decide ((j : Int) < (s.size : Int)) = false := by simpa using hk
        go_wp2_with fail
        go_big_quiet (fail)
        go_wp2_with fail
        go_ret
        refine ⟨rfl, grown_drewN HG.out _, f', ?_, fun _ => rfl, fun e => (by cases e)⟩
        show Rd _ b s (mDigs s.data.toList (k + 1)) tw lo f' op
        rw [HM.out, mDigs_off (fun hk2 => absurd hk2 (by rw [size_eq]; exact hk))]
        exact HR.out.drewN _
  · have hN := Lib.hid (mNeed_false hd)
    have hm : mDigits s.data.toList k = (false, k) := if_neg hd
    rw [hm]
    clear hm hd
    go_enter Tryz.func70, Tryz.ntmps70
    go_wp2_with fail
    refine (need_any b s k tw lo f op 48 57 _ hs H.out).mono ?_
    rw [hN.out]
    rintro e w1 ⟨rfl, hst⟩
    have HST := Lib.hid hst
    clear hst
    go_wp2_with fail
    go_ret
    exact ⟨rfl, HST.out⟩

end Go.Proofs.YtlgmdcaoogiooaaGreatDoor

namespace Go.Proofs.YtlgmdcaoogiooaaGreatDoor
open Go.RowKit

/-- The end of the input. -/
def eofP (g : Cfg) (y : Int) : Cfg × Nat :=
  if g.er ≠ none then (g, 11) else if g.top = true then (g, 10)
  else if (stepC g y 32).1.top = true then ((stepC g y 32).1, 10)
  else if (stepC g y 32).1.er = none then ({ (stepC g y 32).1 with er := some y }, 11) else ((stepC g y 32).1, 11)

/-- The codes of the bytes and of their end, up to the first fault, and where the scanner stands then. -/
def scanAll (g : Cfg) (n : Nat) : List UInt8 → List Nat × Cfg
  | [] => ([(eofP g n).2], (eofP g n).1)
  | c :: t => if (stepC g ((n + 1 : Nat) : Int) c.toNat).2 = 11 then ([11], (stepC g ((n + 1 : Nat) : Int) c.toNat).1)
    else ((stepC g ((n + 1 : Nat) : Int) c.toNat).2 :: (scanAll (stepC g ((n + 1 : Nat) : Int) c.toNat).1 (n + 1) t).1, (scanAll (stepC g ((n + 1 : Nat) : Int) c.toNat).1 (n + 1) t).2)

def nObj (ps : List Nat) : Nat := ps.countP (fun x => x != 2)
def nArr (ps : List Nat) : Nat := ps.countP (fun x => x == 2)

/-- What is so between two bytes. -/
structure WF (g : Cfg) : Prop where
  bse : g.st = .bse → ∃ i, g.ps = i ++ [0]
  top : g.top = true → g.ps = [] ∧ (g.st = .et ∨ g.st = .err)
  err : g.er ≠ none → g.st = .err
  er2 : g.st = .err → g.er ≠ none

/-- What a step does to what is open. -/
structure Did (g : Cfg) (r : Cfg × Nat) : Prop where
  wf : WF r.1
  len : r.1.ps.length ≤ g.ps.length + 1
  obj : (if r.2 = 2 then 1 else 0) + nObj g.ps = (if r.2 = 5 then 1 else 0) + nObj r.1.ps
  arr : (if r.2 = 6 then 1 else 0) + nArr g.ps = (if r.2 = 8 then 1 else 0) + nArr r.1.ps
  bad : r.2 = 11 → r.1.er ≠ none

theorem nObj_app (a b : List Nat) : nObj (a ++ b) = nObj a + nObj b := by simp [nObj]
theorem nArr_app (a b : List Nat) : nArr (a ++ b) = nArr a + nArr b := by simp [nArr]

theorem Did.fail {g : Cfg} (ht : g.top = true → g.ps = []) (y : Int) (k : Nat) (hk : k = 10 ∨ k = 11) : Did g (g.fail y, k) := by
  refine ⟨⟨fun e => (by cases e), fun e => ⟨ht e, .inr rfl⟩, fun _ => rfl, fun _ => (by simp [Cfg.fail])⟩, by simp [Cfg.fail], ?_, ?_, fun _ => (by simp [Cfg.fail])⟩
  · rcases hk with rfl | rfl <;> simp [Cfg.fail]
  · rcases hk with rfl | rfl <;> simp [Cfg.fail]

theorem Did.to {g : Cfg} (htop : g.top ≠ true) (hn : g.er = none) (s : St) (hs : s ≠ .bse) (hs2 : s ≠ .err) (k : Nat) (hk : k = 0 ∨ k = 1 ∨ k = 7 ∨ k = 9) : Did g (g.to s, k) := by
  refine ⟨⟨fun e => absurd e hs, fun e => absurd e htop, fun e => absurd hn e, fun e => absurd e hs2⟩, by simp [Cfg.to], ?_, ?_, fun e => (by simp only at e; omega)⟩
  · rcases hk with rfl | rfl | rfl | rfl <;> simp [Cfg.to]
  · rcases hk with rfl | rfl | rfl | rfl <;> simp [Cfg.to]

theorem Did.same {g : Cfg} (h : WF g) (k : Nat) (hk : k = 0 ∨ k = 9 ∨ k = 10) : Did g (g, k) := by
  refine ⟨h, by simp, ?_, ?_, fun e => (by simp only at e; omega)⟩
  · rcases hk with rfl | rfl | rfl <;> simp
  · rcases hk with rfl | rfl | rfl <;> simp

theorem Did.stuck {g : Cfg} (h : WF g) (he : g.st = .err) : Did g (g, 11) :=
  ⟨h, by simp, by simp, by simp, fun _ => h.er2 he⟩

theorem Did.of {g g1 : Cfg} {r : Cfg × Nat} (h : Did g1 r) (e1 : g1.ps.length = g.ps.length) (e2 : nObj g1.ps = nObj g.ps) (e3 : nArr g1.ps = nArr g.ps) : Did g r :=
  ⟨h.wf, by rw [← e1]; exact h.len, by rw [← e2]; exact h.obj, by rw [← e3]; exact h.arr, h.bad⟩

theorem did_et {g : Cfg} (h : WF g) (y : Int) (c : Nat) : Did g (stepEt g y c) := by
  unfold stepEt
  split
  · exact Did.same h 10 (by omega)
  · exact Did.fail (fun e => (h.top e).1) y 10 (by omega)

theorem did_pop {g : Cfg} (htop : g.top ≠ true) (hn : g.er = none) (i : List Nat) (p : Nat) (hps : g.ps = i ++ [p]) (k : Nat) (hk : (p ≠ 2 ∧ k = 5) ∨ (p = 2 ∧ k = 8)) : Did g (g.pop, k) := by
  have hdl : g.ps.dropLast = i := by rw [hps, List.dropLast_concat]
  have hq : g.pop.ps = i ∧ g.pop.er = g.er ∧ g.pop.st ≠ .bse ∧ g.pop.st ≠ .err ∧ (g.pop.top = true → g.pop.ps = [] ∧ (g.pop.st = .et ∨ g.pop.st = .err)) := by
    unfold Cfg.pop
    rw [hdl]
    split
    · rename_i e
      subst e
      exact ⟨rfl, rfl, by simp, by simp, fun _ => ⟨rfl, .inl rfl⟩⟩
    · exact ⟨rfl, rfl, by simp, by simp, fun e => absurd e htop⟩
  obtain ⟨q1, q2, q3, q4, q5⟩ := hq
  refine ⟨⟨fun e => absurd e q3, q5, fun e => absurd (q2.trans hn) e, fun e => absurd e q4⟩, by show g.pop.ps.length ≤ _; rw [q1, hps]; simp; omega, ?_, ?_, fun e => (by rcases hk with ⟨_, rfl⟩ | ⟨_, rfl⟩ <;> simp at e)⟩
  · show (if k = 2 then 1 else 0) + nObj g.ps = (if k = 5 then 1 else 0) + nObj g.pop.ps
    rw [q1, hps, nObj_app]
    rcases hk with ⟨h2, rfl⟩ | ⟨rfl, rfl⟩
    · simp [nObj, h2]; omega
    · simp [nObj]
  · show (if k = 6 then 1 else 0) + nArr g.ps = (if k = 8 then 1 else 0) + nArr g.pop.ps
    rw [q1, hps, nArr_app]
    rcases hk with ⟨h2, rfl⟩ | ⟨rfl, rfl⟩
    · simp [nArr, h2]
    · simp [nArr]; omega

theorem did_turn {g : Cfg} (htop : g.top ≠ true) (hn : g.er = none) (i : List Nat) (p x : Nat) (hps : g.ps = i ++ [p]) (hp : p ≠ 2) (hx : x ≠ 2) (s : St) (hs : s ≠ .bse) (hs2 : s ≠ .err) (k : Nat) (hk : k = 3 ∨ k = 4) : Did g (g.turn s x, k) := by
  have hdl : g.ps.dropLast = i := by rw [hps, List.dropLast_concat]
  have hq : g.turn s x = ⟨s, g.top, i ++ [x], g.er⟩ := by unfold Cfg.turn; rw [hdl]
  rw [hq]
  refine ⟨⟨fun e => absurd e hs, fun e => absurd e htop, fun e => absurd hn e, fun e => absurd e hs2⟩, by rw [hps]; simp, ?_, ?_, fun e => (by simp only at e; omega)⟩
  · rw [hps]
    rcases hk with rfl | rfl <;> simp [nObj, hp, hx]
  · rw [hps]
    rcases hk with rfl | rfl <;> simp [nArr, hp, hx]

theorem evP_none {g : Cfg} {y : Int} {c : Nat} (h : g.ps = []) : stepEv g y c = stepEt { g with st := .et, top := true } y c := by
  unfold stepEv
  rw [h]
  rfl

theorem evP_some {g : Cfg} {y : Int} {c p : Nat} {i : List Nat} (h : g.ps = i ++ [p]) : stepEv g y c =
    if isSp c then (g.to .ev, 9)
    else if p = 0 then (if c = 58 then (g.turn .bv 1, 3) else (g.fail y, 11))
    else if p = 1 then (if c = 44 then (g.turn .bs 0, 4) else if c = 125 then (g.pop, 5) else (g.fail y, 11))
    else if p = 2 then (if c = 44 then (g.to .bv, 7) else if c = 93 then (g.pop, 8) else (g.fail y, 11))
    else (g.fail y, 11) := by
  have e : g.ps.getLast? = some p := by rw [h]; simp
  unfold stepEv
  rw [e]

theorem last_cases (l : List Nat) : l = [] ∨ ∃ i p, l = i ++ [p] := by
  rcases List.eq_nil_or_concat l with h | ⟨i, p, h⟩
  · exact .inl h
  · exact .inr ⟨i, p, by rw [h, List.concat_eq_append]⟩

theorem did_ev {g : Cfg} (htop : g.top ≠ true) (hn : g.er = none) (y : Int) (c : Nat) : Did g (stepEv g y c) := by
  have ht : g.top = true → g.ps = [] := fun e => absurd e htop
  rcases last_cases g.ps with hps | ⟨i, p, hps⟩
  · rw [evP_none hps]
    exact (did_et (g := { g with st := .et, top := true }) ⟨fun e => (by cases e), fun _ => ⟨hps, .inl rfl⟩, fun e => absurd hn e, fun e => (by cases e)⟩ y c).of rfl rfl rfl
  · rw [evP_some hps]
    split
    · exact Did.to htop hn _ (by simp) (by simp) 9 (by omega)
    split
    · rename_i hp
      split
      · exact did_turn htop hn i p 1 hps (by omega) (by omega) _ (by simp) (by simp) 3 (by omega)
      · exact Did.fail ht y 11 (by omega)
    split
    · rename_i hp
      split
      · exact did_turn htop hn i p 0 hps (by omega) (by omega) _ (by simp) (by simp) 4 (by omega)
      split
      · exact did_pop htop hn i p hps 5 (.inl ⟨by omega, rfl⟩)
      · exact Did.fail ht y 11 (by omega)
    split
    · rename_i hp
      split
      · exact Did.to htop hn _ (by simp) (by simp) 7 (by omega)
      split
      · exact did_pop htop hn i p hps 8 (.inr ⟨hp, rfl⟩)
      · exact Did.fail ht y 11 (by omega)
    · exact Did.fail ht y 11 (by omega)

theorem did_push {g : Cfg} (htop : g.top ≠ true) (hn : g.er = none) (s : St) (p k : Nat) (hk : (s = .bse ∧ p = 0 ∧ k = 2) ∨ (s = .bve ∧ p = 2 ∧ k = 6)) : Did g (g.push s p, k) := by
  refine ⟨⟨fun e => ?_, fun e => absurd e htop, fun e => absurd hn e, fun e => ?_⟩, by simp [Cfg.push], ?_, ?_, fun e => ?_⟩
  · rcases hk with ⟨_, rfl, _⟩ | ⟨rfl, _, _⟩
    · exact ⟨g.ps, rfl⟩
    · cases e
  · rcases hk with ⟨rfl, _, _⟩ | ⟨rfl, _, _⟩ <;> cases e
  · rcases hk with ⟨_, rfl, rfl⟩ | ⟨_, rfl, rfl⟩ <;> simp [Cfg.push, nObj] <;> omega
  · rcases hk with ⟨_, rfl, rfl⟩ | ⟨_, rfl, rfl⟩ <;> simp [Cfg.push, nArr] <;> omega
  · rcases hk with ⟨_, _, rfl⟩ | ⟨_, _, rfl⟩ <;> simp at e

theorem did_hex {g : Cfg} (htop : g.top ≠ true) (hn : g.er = none) (y : Int) (c : Nat) (s : St) (hs : s ≠ .bse) (hs2 : s ≠ .err) : Did g (stepHex g y c s) := by
  unfold stepHex
  split
  · exact Did.to htop hn _ hs hs2 0 (by omega)
  · exact Did.fail (fun e => absurd e htop) y 11 (by omega)

theorem did_want {g : Cfg} (htop : g.top ≠ true) (hn : g.er = none) (y : Int) (c v : Nat) (s : St) (hs : s ≠ .bse) (hs2 : s ≠ .err) : Did g (stepWant g y c v s) := by
  unfold stepWant
  split
  · exact Did.to htop hn _ hs hs2 0 (by omega)
  · exact Did.fail (fun e => absurd e htop) y 11 (by omega)

set_option maxHeartbeats 2000000 in
theorem did_step {g : Cfg} (h : WF g) (y : Int) (c : Nat) : Did g (stepC g y c) := by
  have hn : g.st ≠ .err → g.er = none := fun e => Classical.byContradiction fun k => e (h.err k)
  have htop : g.st ≠ .et → g.st ≠ .err → g.top ≠ true := fun e1 e2 k => (h.top k).2.elim e1 e2
  unfold stepC
  cases hs : g.st
  case et => exact did_et h y c
  case err => exact Did.stuck h hs
  all_goals
    have n : g.er = none := hn (by rw [hs]; simp)
    have t : g.top ≠ true := htop (by rw [hs]; simp) (by rw [hs]; simp)
    clear hn htop
  case bv => dsimp only; unfold stepBv; (repeat' split) <;> (first
    | exact Did.same h 9 (by omega) | exact Did.same h 0 (by omega)
    | exact Did.to t n _ (by simp) (by simp) 0 (by omega) | exact Did.to t n _ (by simp) (by simp) 1 (by omega)
    | exact Did.fail (fun e => absurd e t) _ 11 (by omega)
    | exact did_push t n _ _ _ (.inl ⟨rfl, rfl, rfl⟩) | exact did_push t n _ _ _ (.inr ⟨rfl, rfl, rfl⟩)
    | exact did_ev t n _ _)
  case bve => dsimp only; unfold stepBve stepBv; (repeat' split) <;> (first
    | exact Did.same h 9 (by omega) | exact Did.same h 0 (by omega)
    | exact Did.to t n _ (by simp) (by simp) 0 (by omega) | exact Did.to t n _ (by simp) (by simp) 1 (by omega)
    | exact Did.fail (fun e => absurd e t) _ 11 (by omega)
    | exact did_push t n _ _ _ (.inl ⟨rfl, rfl, rfl⟩) | exact did_push t n _ _ _ (.inr ⟨rfl, rfl, rfl⟩)
    | exact did_ev t n _ _)
  case bs => dsimp only; unfold stepBs; (repeat' split) <;> (first
    | exact Did.same h 9 (by omega) | exact Did.same h 0 (by omega)
    | exact Did.to t n _ (by simp) (by simp) 0 (by omega) | exact Did.to t n _ (by simp) (by simp) 1 (by omega)
    | exact Did.fail (fun e => absurd e t) _ 11 (by omega)
    | exact did_push t n _ _ _ (.inl ⟨rfl, rfl, rfl⟩) | exact did_push t n _ _ _ (.inr ⟨rfl, rfl, rfl⟩)
    | exact did_ev t n _ _)
  case ev => exact did_ev t n y c
  case bse =>
    dsimp only
    obtain ⟨i, hps⟩ := h.bse hs
    unfold stepBse
    split
    · exact Did.same h 9 (by omega)
    split
    · have hdl : g.ps.dropLast = i := by rw [hps, List.dropLast_concat]
      rw [hdl]
      exact (did_ev (g := { g with ps := i ++ [1] }) t n y c).of (by rw [hps]; simp) (by rw [hps]; simp [nObj]) (by rw [hps]; simp [nArr])
    · unfold stepBs; (repeat' split) <;> (first
    | exact Did.same h 9 (by omega) | exact Did.same h 0 (by omega)
    | exact Did.to t n _ (by simp) (by simp) 0 (by omega) | exact Did.to t n _ (by simp) (by simp) 1 (by omega)
    | exact Did.fail (fun e => absurd e t) _ 11 (by omega)
    | exact did_push t n _ _ _ (.inl ⟨rfl, rfl, rfl⟩) | exact did_push t n _ _ _ (.inr ⟨rfl, rfl, rfl⟩)
    | exact did_ev t n _ _)
  case str => dsimp only; unfold stepStr; (repeat' split) <;> (first
    | exact Did.same h 9 (by omega) | exact Did.same h 0 (by omega)
    | exact Did.to t n _ (by simp) (by simp) 0 (by omega) | exact Did.to t n _ (by simp) (by simp) 1 (by omega)
    | exact Did.fail (fun e => absurd e t) _ 11 (by omega)
    | exact did_push t n _ _ _ (.inl ⟨rfl, rfl, rfl⟩) | exact did_push t n _ _ _ (.inr ⟨rfl, rfl, rfl⟩)
    | exact did_ev t n _ _)
  case esc => dsimp only; unfold stepEsc; (repeat' split) <;> (first
    | exact Did.same h 9 (by omega) | exact Did.same h 0 (by omega)
    | exact Did.to t n _ (by simp) (by simp) 0 (by omega) | exact Did.to t n _ (by simp) (by simp) 1 (by omega)
    | exact Did.fail (fun e => absurd e t) _ 11 (by omega)
    | exact did_push t n _ _ _ (.inl ⟨rfl, rfl, rfl⟩) | exact did_push t n _ _ _ (.inr ⟨rfl, rfl, rfl⟩)
    | exact did_ev t n _ _)
  case neg => dsimp only; unfold stepNeg; (repeat' split) <;> (first
    | exact Did.same h 9 (by omega) | exact Did.same h 0 (by omega)
    | exact Did.to t n _ (by simp) (by simp) 0 (by omega) | exact Did.to t n _ (by simp) (by simp) 1 (by omega)
    | exact Did.fail (fun e => absurd e t) _ 11 (by omega)
    | exact did_push t n _ _ _ (.inl ⟨rfl, rfl, rfl⟩) | exact did_push t n _ _ _ (.inr ⟨rfl, rfl, rfl⟩)
    | exact did_ev t n _ _)
  case s0 => dsimp only; unfold stepS0; (repeat' split) <;> (first
    | exact Did.same h 9 (by omega) | exact Did.same h 0 (by omega)
    | exact Did.to t n _ (by simp) (by simp) 0 (by omega) | exact Did.to t n _ (by simp) (by simp) 1 (by omega)
    | exact Did.fail (fun e => absurd e t) _ 11 (by omega)
    | exact did_push t n _ _ _ (.inl ⟨rfl, rfl, rfl⟩) | exact did_push t n _ _ _ (.inr ⟨rfl, rfl, rfl⟩)
    | exact did_ev t n _ _)
  case s1 => dsimp only; unfold stepS1 stepS0; (repeat' split) <;> (first
    | exact Did.same h 9 (by omega) | exact Did.same h 0 (by omega)
    | exact Did.to t n _ (by simp) (by simp) 0 (by omega) | exact Did.to t n _ (by simp) (by simp) 1 (by omega)
    | exact Did.fail (fun e => absurd e t) _ 11 (by omega)
    | exact did_push t n _ _ _ (.inl ⟨rfl, rfl, rfl⟩) | exact did_push t n _ _ _ (.inr ⟨rfl, rfl, rfl⟩)
    | exact did_ev t n _ _)
  case dot => dsimp only; unfold stepDot; (repeat' split) <;> (first
    | exact Did.same h 9 (by omega) | exact Did.same h 0 (by omega)
    | exact Did.to t n _ (by simp) (by simp) 0 (by omega) | exact Did.to t n _ (by simp) (by simp) 1 (by omega)
    | exact Did.fail (fun e => absurd e t) _ 11 (by omega)
    | exact did_push t n _ _ _ (.inl ⟨rfl, rfl, rfl⟩) | exact did_push t n _ _ _ (.inr ⟨rfl, rfl, rfl⟩)
    | exact did_ev t n _ _)
  case dot0 => dsimp only; unfold stepDot0; (repeat' split) <;> (first
    | exact Did.same h 9 (by omega) | exact Did.same h 0 (by omega)
    | exact Did.to t n _ (by simp) (by simp) 0 (by omega) | exact Did.to t n _ (by simp) (by simp) 1 (by omega)
    | exact Did.fail (fun e => absurd e t) _ 11 (by omega)
    | exact did_push t n _ _ _ (.inl ⟨rfl, rfl, rfl⟩) | exact did_push t n _ _ _ (.inr ⟨rfl, rfl, rfl⟩)
    | exact did_ev t n _ _)
  case e => dsimp only; unfold stepE stepESign; (repeat' split) <;> (first
    | exact Did.same h 9 (by omega) | exact Did.same h 0 (by omega)
    | exact Did.to t n _ (by simp) (by simp) 0 (by omega) | exact Did.to t n _ (by simp) (by simp) 1 (by omega)
    | exact Did.fail (fun e => absurd e t) _ 11 (by omega)
    | exact did_push t n _ _ _ (.inl ⟨rfl, rfl, rfl⟩) | exact did_push t n _ _ _ (.inr ⟨rfl, rfl, rfl⟩)
    | exact did_ev t n _ _)
  case esign => dsimp only; unfold stepESign; (repeat' split) <;> (first
    | exact Did.same h 9 (by omega) | exact Did.same h 0 (by omega)
    | exact Did.to t n _ (by simp) (by simp) 0 (by omega) | exact Did.to t n _ (by simp) (by simp) 1 (by omega)
    | exact Did.fail (fun e => absurd e t) _ 11 (by omega)
    | exact did_push t n _ _ _ (.inl ⟨rfl, rfl, rfl⟩) | exact did_push t n _ _ _ (.inr ⟨rfl, rfl, rfl⟩)
    | exact did_ev t n _ _)
  case e0 => dsimp only; unfold stepE0; (repeat' split) <;> (first
    | exact Did.same h 9 (by omega) | exact Did.same h 0 (by omega)
    | exact Did.to t n _ (by simp) (by simp) 0 (by omega) | exact Did.to t n _ (by simp) (by simp) 1 (by omega)
    | exact Did.fail (fun e => absurd e t) _ 11 (by omega)
    | exact did_push t n _ _ _ (.inl ⟨rfl, rfl, rfl⟩) | exact did_push t n _ _ _ (.inr ⟨rfl, rfl, rfl⟩)
    | exact did_ev t n _ _)
  all_goals
    first
    | exact did_hex t n y c _ (by simp) (by simp)
    | exact did_want t n y c _ _ (by simp) (by simp)

/-- A space opens and ends nothing, and where it tells the end there is no fault. -/
theorem sp_step {g : Cfg} (h : WF g) (he : g.er = none) (y : Int) : ((stepC g y 32).2 ≠ 2 ∧ (stepC g y 32).2 ≠ 5 ∧ (stepC g y 32).2 ≠ 6 ∧ (stepC g y 32).2 ≠ 8) ∧ (g.top ≠ true → (stepC g y 32).1.top = true → (stepC g y 32).1.er = none) := by
  have hsp : isSp 32 := by decide
  have ev : ((stepEv g y 32).2 ≠ 2 ∧ (stepEv g y 32).2 ≠ 5 ∧ (stepEv g y 32).2 ≠ 6 ∧ (stepEv g y 32).2 ≠ 8) ∧ (g.top ≠ true → (stepEv g y 32).1.top = true → (stepEv g y 32).1.er = none) := by
    rcases last_cases g.ps with hps | ⟨i, p, hps⟩
    · rw [evP_none hps]
      unfold stepEt
      rw [if_pos hsp]
      exact ⟨⟨by simp, by simp, by simp, by simp⟩, fun _ _ => he⟩
    · rw [evP_some hps, if_pos hsp]
      exact ⟨⟨by simp, by simp, by simp, by simp⟩, fun _ _ => he⟩
  unfold stepC
  cases hs : g.st
  case err => exact absurd he (h.er2 hs)
  all_goals
    simp [stepBve, stepBv, stepBse, stepBs, stepEt, stepStr, stepEsc, stepHex, stepNeg, stepS1, stepS0, stepDot, stepDot0, stepE, stepESign, stepE0, stepWant, hsp, isDig, isHex, isEsc, Cfg.fail, he]
  all_goals simpa using ev

def cnt (k : Nat) (L : List Nat) : Nat := L.countP (fun x => x == k)
theorem cnt_cons (k x : Nat) (L : List Nat) : cnt k (x :: L) = (if x = k then 1 else 0) + cnt k L := by
  unfold cnt
  rw [List.countP_cons]
  by_cases h : x = k <;> simp [h]; omega
theorem cnt_nil (k : Nat) : cnt k [] = 0 := rfl

theorem eof_facts {g : Cfg} (h : WF g) (y : Int) : ((eofP g y).2 = 10 ∧ (eofP g y).1.er = none ∧ nObj g.ps = 0 ∧ nArr g.ps = 0) ∨ ((eofP g y).2 = 11 ∧ (eofP g y).1.er ≠ none) := by
  unfold eofP
  split
  · rename_i e
    exact .inr ⟨rfl, e⟩
  rename_i e
  have e : g.er = none := Classical.byContradiction e
  split
  · rename_i e2
    exact .inl ⟨rfl, e, by rw [(h.top e2).1]; rfl, by rw [(h.top e2).1]; rfl⟩
  rename_i e2
  have hd := did_step h y 32
  obtain ⟨⟨s1, s2, s3, s4⟩, s5⟩ := sp_step h e y
  split
  · rename_i e3
    have hps := (hd.wf.top e3).1
    have ho := hd.obj
    have ha := hd.arr
    rw [if_neg s1, if_neg s2, hps] at ho
    rw [if_neg s3, if_neg s4, hps] at ha
    refine .inl ⟨rfl, s5 e2 e3, ?_, ?_⟩
    · simpa [nObj] using ho
    · simpa [nArr] using ha
  split
  · exact .inr ⟨rfl, by simp⟩
  · rename_i e4
    exact .inr ⟨rfl, e4⟩

/-- What the codes of a text tell. -/
structure Told (a b n : Nat) (L : List Nat) (er : Option Int) : Prop where
  pre : ∀ i ≤ L.length, cnt 5 (L.take i) ≤ a + cnt 2 (L.take i) ∧ cnt 8 (L.take i) ≤ b + cnt 6 (L.take i)
  len : L ≠ [] ∧ L.length ≤ n + 1
  bad : er ≠ none → cnt 11 L = 1 ∧ L.getLast? = some 11
  good : er = none → cnt 11 L = 0 ∧ a + cnt 2 L = cnt 5 L ∧ b + cnt 6 L = cnt 8 L ∧ L.length = n + 1 ∧ L.getLast? = some 10

theorem told : (l : List UInt8) → (g : Cfg) → WF g → (n : Nat) → Told (nObj g.ps) (nArr g.ps) l.length (scanAll g n l).1 (scanAll g n l).2.er
  | [], g, h, n => by
    unfold scanAll
    rcases eof_facts h (n : Int) with ⟨e1, e2, e3, e4⟩ | ⟨e1, e2⟩
    · rw [e1]
      refine ⟨fun i hi => ?_, ⟨by simp, by simp⟩, fun e => absurd e2 e, fun _ => ⟨rfl, by rw [e3]; rfl, by rw [e4]; rfl, rfl, rfl⟩⟩
      cases i <;> simp [cnt]
    · rw [e1]
      refine ⟨fun i hi => ?_, ⟨by simp, by simp⟩, fun _ => ⟨rfl, rfl⟩, fun e => absurd e e2⟩
      cases i <;> simp [cnt]
  | c :: t, g, h, n => by
    have hd := did_step h ((n + 1 : Nat) : Int) c.toNat
    unfold scanAll
    split
    · rename_i e
      have he := hd.bad e
      refine ⟨fun i hi => ?_, ⟨by simp, by simp⟩, fun _ => ⟨rfl, rfl⟩, fun e => absurd e he⟩
      cases i <;> simp [cnt]
    · rename_i e
      have ih := told t _ hd.wf (n + 1)
      have ho := hd.obj
      have ha := hd.arr
      generalize (scanAll (stepC g ((n + 1 : Nat) : Int) c.toNat).1 (n + 1) t).1 = L at ih ⊢
      generalize (scanAll (stepC g ((n + 1 : Nat) : Int) c.toNat).1 (n + 1) t).2.er = er at ih ⊢
      generalize (stepC g ((n + 1 : Nat) : Int) c.toNat).2 = k at e ho ha ⊢
      have hl : ∀ x, (k :: L).getLast? = some x ↔ L.getLast? = some x := fun x => by
        rcases List.eq_nil_or_concat L with q | ⟨i, p, q⟩
        · exact absurd q ih.len.1
        · rw [q, List.concat_eq_append, ← List.cons_append, List.getLast?_concat, List.getLast?_concat]
      refine ⟨fun i hi => ?_, ⟨by simp, ?_⟩, fun q => ?_, fun q => ?_⟩
      · cases i with
        | zero => simp [cnt]
        | succ i =>
          have := ih.pre i (by simpa using hi)
          rw [List.take_succ_cons, cnt_cons, cnt_cons, cnt_cons, cnt_cons]
          omega
      · have := ih.len.2
        simp only [List.length_cons]
        omega
      · have := ih.bad q
        rw [cnt_cons, if_neg e, hl]
        exact ⟨by omega, this.2⟩
      · have := ih.good q
        rw [cnt_cons, cnt_cons, cnt_cons, cnt_cons, cnt_cons, if_neg e, hl]
        refine ⟨by omega, by omega, by omega, by simp only [List.length_cons]; omega, this.2.2.2.2⟩

end Go.Proofs.YtlgmdcaoogiooaaGreatDoor

namespace Go.Proofs.YtlgmdcaoogiooaaGreatDoor
open Go.RowKit

/-- The scanner after the bytes; behind a fault it stays. -/
def runC (g : Cfg) (n : Nat) : List UInt8 → Cfg
  | [] => g
  | c :: t => runC (stepC g ((n + 1 : Nat) : Int) c.toNat).1 (n + 1) t

theorem runC_app (a b : List UInt8) : ∀ (g : Cfg) (n : Nat), runC g n (a ++ b) = runC (runC g n a) (n + a.length) b := by
  induction a with
  | nil => intro g n; rfl
  | cons c t ih =>
    intro g n
    show runC _ (n + 1) (t ++ b) = runC (runC _ (n + 1) t) _ b
    rw [ih, List.length_cons, show n + 1 + t.length = n + (t.length + 1) by omega]

theorem step_stuck {g : Cfg} (h : g.st = .err) (y : Int) (c : Nat) : stepC g y c = (g, 11) := by
  unfold stepC
  rw [h]

theorem runC_stuck {g : Cfg} (h : g.st = .err) : ∀ (l : List UInt8) (n : Nat), runC g n l = g
  | [], _ => rfl
  | c :: t, n => by
    show runC (stepC g _ c.toNat).1 (n + 1) t = g
    rw [step_stuck h]
    exact runC_stuck h t (n + 1)

theorem runC_wf : ∀ (l : List UInt8) {g : Cfg} (n : Nat), WF g → WF (runC g n l)
  | [], _, _, h => h
  | c :: t, _, n, h => runC_wf t (n + 1) (did_step h _ c.toNat).wf

/-- A fault stays. -/
theorem runC_fault {g : Cfg} (h : WF g) (he : g.er ≠ none) (l : List UInt8) (n : Nat) : runC g n l = g := runC_stuck (h.err he) l n

/-- The fault of a whole text. -/
theorem scan_er : ∀ (l : List UInt8) (g : Cfg) (n : Nat), WF g → (scanAll g n l).2.er = if (runC g n l).er = none then (eofP (runC g n l) ((n + l.length : Nat) : Int)).1.er else (runC g n l).er
  | [], g, n, h => by
    show (eofP g (n : Int)).1.er = if g.er = none then (eofP g ((n + 0 : Nat) : Int)).1.er else g.er
    rw [Nat.add_zero]
    by_cases e : g.er = none
    · rw [if_pos e]
    · rw [if_neg e]
      unfold eofP
      rw [if_pos e]
  | c :: t, g, n, h => by
    have hd := did_step h ((n + 1 : Nat) : Int) c.toNat
    show (scanAll g n (c :: t)).2.er = if (runC (stepC g ((n + 1 : Nat) : Int) c.toNat).1 (n + 1) t).er = none then (eofP (runC (stepC g ((n + 1 : Nat) : Int) c.toNat).1 (n + 1) t) ((n + (t.length + 1) : Nat) : Int)).1.er else (runC (stepC g ((n + 1 : Nat) : Int) c.toNat).1 (n + 1) t).er
    unfold scanAll
    split
    · rename_i e
      have he := hd.bad e
      rw [runC_fault hd.wf he, if_neg he]
    · have ih := scan_er t _ (n + 1) hd.wf
      rw [show n + (t.length + 1) = n + 1 + t.length by omega]
      exact ih

/-- A wrong byte: the scanner took what stands ahead of it, and not this one. -/
theorem scan_wrong {g : Cfg} (h : WF g) (n : Nat) (a : List UInt8) (c : UInt8) (t : List UInt8) (o : Int) (h2 : (stepC (runC g n a) ((n + a.length + 1 : Nat) : Int) c.toNat).1.er = some o) : (scanAll g n (a ++ c :: t)).2.er = some o := by
  have hw := did_step (runC_wf a n h) ((n + a.length + 1 : Nat) : Int) c.toNat
  rw [scan_er _ _ _ h, runC_app]
  have e : runC (runC g n a) (n + a.length) (c :: t) = (stepC (runC g n a) ((n + a.length + 1 : Nat) : Int) c.toNat).1 := by
    show runC (stepC (runC g n a) _ c.toNat).1 _ t = _
    exact runC_fault hw.wf (by rw [h2]; simp) t _
  rw [e, if_neg (by rw [h2]; simp), h2]

/-- The fault of what is left of a text. -/
def fin (g : Cfg) (n : Nat) (l : List UInt8) : Option Int := (scanAll g n l).2.er

theorem fin_err {g : Cfg} (h : WF g) {o : Int} (he : g.er = some o) (n : Nat) (l : List UInt8) : fin g n l = some o := by
  unfold fin
  rw [scan_er _ _ _ h, runC_fault h (by rw [he]; simp), if_neg (by rw [he]; simp), he]

theorem fin_cons {g : Cfg} (h : WF g) (n : Nat) (c : UInt8) (t : List UInt8) : fin g n (c :: t) = fin (stepC g ((n + 1 : Nat) : Int) c.toNat).1 (n + 1) t := by
  unfold fin
  rw [scan_er _ _ _ h, scan_er _ _ _ (did_step h _ c.toNat).wf, List.length_cons, show n + (t.length + 1) = n + 1 + t.length by omega]
  rfl

/-- A step that goes on. -/
theorem fin_step {g g1 : Cfg} (h : WF g) {n : Nat} {c : UInt8} {t : List UInt8} (h1 : (stepC g ((n + 1 : Nat) : Int) c.toNat).1 = g1) : fin g n (c :: t) = fin g1 (n + 1) t := by rw [fin_cons h, h1]

/-- A wrong byte. -/
theorem fin_bad {g g1 : Cfg} (h : WF g) {n : Nat} {c : UInt8} {t : List UInt8} (h1 : (stepC g ((n + 1 : Nat) : Int) c.toNat).1 = g1.fail ((n + 1 : Nat) : Int)) : fin g n (c :: t) = some ((n + 1 : Nat) : Int) := by
  have hw := (did_step h ((n + 1 : Nat) : Int) c.toNat).wf
  rw [fin_cons h]
  exact fin_err hw (by rw [h1]; rfl) _ _

/-- The end of a text that ends too early. -/
theorem fin_short {g g1 : Cfg} (he : g.er = none) (ht : g.top ≠ true) (n : Nat) (h1 : (stepC g (n : Int) 32).1 = g1) (h2 : g1.top ≠ true) (h3 : g1.er = none ∨ g1.er = some (n : Int)) : fin g n [] = some (n : Int) := by
  show (eofP g (n : Int)).1.er = _
  unfold eofP
  rw [if_neg (by rw [he]; simp), if_neg ht, h1, if_neg h2]
  rcases h3 with e | e
  · rw [if_pos e]
  · rw [if_neg (by rw [e]; simp), e]

/-- Where the scanner stands behind a value. -/
def after (g : Cfg) : Cfg := if g.ps = [] then { g with st := .et, top := true } else { g with st := .ev }

/-- Behind a value that a number or a word ends, the scanner goes on as behind any value. -/
theorem fin_after {g : Cfg} (h : WF g) (he : g.er = none) (ht : g.top ≠ true) (hs : g.st = .ev) (n : Nat) (l : List UInt8) : fin g n l = fin (after g) n l := by
  unfold after
  split
  · rename_i hps
    have hw : WF { g with st := .et, top := true } := ⟨fun e => (by cases e), fun _ => ⟨hps, .inl rfl⟩, fun e => absurd he e, fun e => (by cases e)⟩
    have hstep : ∀ y c, stepC g y c = stepC { g with st := .et, top := true } y c := fun y c => by
      unfold stepC
      rw [hs]
      exact evP_none hps
    cases l with
    | nil =>
      show (eofP g (n : Int)).1.er = (eofP { g with st := .et, top := true } (n : Int)).1.er
      have e32 : (stepC g (n : Int) 32).1 = { g with st := .et, top := true } := by
        rw [hstep]
        show (stepEt { g with st := .et, top := true } (n : Int) 32).1 = _
        unfold stepEt
        rw [if_pos (by decide)]
      unfold eofP
      rw [if_neg (by rw [he]; simp), if_neg ht, e32, if_pos rfl, if_neg (by show ¬ g.er ≠ none; rw [he]; simp), if_pos rfl]
    | cons c t =>
      rw [fin_cons h, fin_cons hw, hstep]
  · rw [← hs]

end Go.Proofs.YtlgmdcaoogiooaaGreatDoor
