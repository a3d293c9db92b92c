/- The walk of encoding/json's check of a whole text: the error that it returns, with its offset. -/
import Derived.Test.YtebiendmngmjcaaZzW
namespace Go.Proofs.Ytebiendmngmjcaa
open Go.RowKit

/-- The error that a fault of the scanner stands for, in memory. -/
def EvAt (w : World) (B b : Nat) (pv ev : Value) (er : Option Int) : Prop :=
  (er = none → ev = .nilIface) ∧ ∀ y, er = some y → ∃ q t, ev = .iface 65 (.pointer (some ⟨q, 0, none⟩)) ∧ B ≤ q ∧ q ≠ b ∧ pv.ownBlock ≠ some q ∧ w.heap[q]? = some (.cells #[.string t, .int .i64 y] 69 (0, 0))

theorem EvAt.is {w : World} {B b : Nat} {pv ev : Value} {er : Option Int} (h : EvAt w B b pv ev er) : EvIs er ev :=
  ⟨h.1, fun e => by
    obtain ⟨y, hy⟩ := Option.ne_none_iff_exists'.1 e
    obtain ⟨q, t, hq, _⟩ := h.2 y hy
    exact ⟨_, _, hq⟩⟩

theorem EvAt.bytes {w : World} {B b : Nat} {pv ev : Value} {er : Option Int} (h : EvAt w B b pv ev er) (v : Value) : EvAt (w.setCell ⟨b, 4, none⟩ v) B b pv ev er :=
  ⟨h.1, fun y hy => by
    obtain ⟨q, t, h1, h2, h3, h4, h5⟩ := h.2 y hy
    exact ⟨q, t, h1, h2, h3, h4, (Below.heap_setCell w _ _ q h3).trans h5⟩⟩

theorem EvAt.step {w w' : World} {B b : Nat} {g : Cfg} {r : Cfg × Nat} {pv ev pv' ev' : Value} {y : Int} (h : EvAt w B b pv ev g.er) (hb : b < w.heap.size) (hB : B ≤ w.heap.size) (hk : SK w w' b pv) (ha : PAt w pv pv') (k : (ev' = ev ∧ r.1.er = g.er) ∨ (r.1.er = some y ∧ ErrAt w w' pv' ev' y)) : EvAt w' B b pv' ev' r.1.er := by
  rcases k with ⟨rfl, e⟩ | ⟨e, ⟨q, t, h1, h2, h3, h4⟩⟩
  · rw [e]
    refine ⟨h.1, fun z hz => ?_⟩
    obtain ⟨q, t, h1, h2, h3, h4, h5⟩ := h.2 z hz
    have hq : q < w.heap.size := (Array.getElem?_eq_some_iff.1 h5).1
    refine ⟨q, t, h1, h2, h3, fun hp => ?_, (hk.block q hq h3 (fun x => h4 x.symm)).trans h5⟩
    rcases ha with p | p
    · exact h4 (p ▸ hp)
    · have := p q hp
      omega
  · rw [e]
    refine ⟨fun x => (by cases x), fun z hz => ?_⟩
    cases hz
    exact ⟨q, t, h1, by omega, by omega, h4, h3⟩

/-- What the check leaves. -/
structure KRes (w : World) (b : Nat) (l : List UInt8) (e : Ending) (w' : World) : Prop where
  what : ∃ ev, e = .returned ev ∧ Below b w w' ∧ (∃ b' pv, EvAt w' b b' pv ev (scanAll newCfg 0 l).2.er)

/-- Between two bytes. -/
structure KI (w d : World) (b : Nat) (l : List UInt8) (k : Nat) (g : Cfg) (pv ev : Value) : Prop where
  scn : Scn d b b g (k : Int) pv ev
  wf : WF g
  ev : EvAt d b b pv ev g.er
  ps : g.ps.length ≤ k
  below : Below b w d
  size : b ≤ d.heap.size
  all : (scanAll newCfg 0 l).2 = (scanAll g k (l.drop k)).2

theorem KI.bse {w d : World} {b : Nat} {l : List UInt8} {k : Nat} {g : Cfg} {pv ev : Value} (h : KI w d b l k g pv ev) : g.st = .bse → g.ps ≠ [] := fun e q => by
  obtain ⟨i, hi⟩ := h.wf.bse e
  rw [q] at hi
  simp at hi

theorem KI.next {w d d' : World} {b : Nat} {l : List UInt8} {k : Nat} {g g1 : Cfg} {pv ev pv1 ev1 : Value} {kk : Nat} (h : KI w d b l k g pv ev) (hk : k < l.length) (hr : stepC g ((k : Int) + 1) (l[k]'hk).toNat = (g1, kk)) (h11 : kk ≠ 11)
    (hs : Scn d' b b g1 ((k : Int) + 1) pv1 ev1) (hev : EvAt d' b b pv1 ev1 g1.er) (hb : Below b w d') (hz : b ≤ d'.heap.size) : KI w d' b l (k + 1) g1 pv1 ev1 := by
  have hd := did_step h.wf ((k : Int) + 1) (l[k]'hk).toNat
  rw [hr] at hd
  refine ⟨?_, hd.wf, hev, ?_, hb, hz, ?_⟩
  · have e : (((k + 1 : Nat)) : Int) = (k : Int) + 1 := by omega
    rw [e]; exact hs
  · have := hd.len
    have := h.ps
    simp only at *
    omega
  · rw [h.all, List.drop_eq_getElem_cons hk, scanAll_on hr h11]

set_option maxRecDepth 100000 in
set_option maxHeartbeats 4000000 in
theorem check_any (l : List UInt8) (b0 n cap b : Nat) (w : World) (hn : n = l.length) (hb0 : b0 < b) (hb : w.heap[b]? = some (.cells (newRow 0) 57 (0, 0))) (hbytes : Bytes w b0 0 l) (hl : l.length ≤ 1000) :
    Calls Try.prog 23 #[.slice (some ⟨b0, 0, none⟩) n cap, .pointer (some ⟨b, 0, none⟩)] w (KRes w b l) := by
  have hlt := (Array.getElem?_eq_some_iff.1 hb).1
  have HN := Lib.hid hn
  have HB := Lib.hid hbytes
  have hn1 : n ≤ 1000 := by omega
  have H0 := Lib.hid hb
  clear hn hbytes hl hb
  go_enter Try.func23, Try.ntmps23
  go_wp2_with fail
  refine (reset_any b 0 _ _ _ w H0.out).mono ?_
  rintro e w1 ⟨rfl, hrow, hk⟩
  have HR := Lib.hid hrow
  have HBe := Lib.hid (hk.below (n := b) (Nat.le_refl _) (by omega) (fun k h => by simp [Value.ownBlock] at h))
  have HSz := Lib.hid hk.size
  clear hrow hk
  go_wp2_with fail
  go_loopw [11] (fun i wr => ∃ (k : Nat) (g : Cfg) (pv ev : Value), k ≤ n ∧ i = .int .i64 k ∧ KI w wr b l k g pv ev) (fun i _ => n - (intOf i).toNat)
  case atStart =>
    exact ⟨0, newCfg, .slice none 0 0, .nilIface, Nat.zero_le _, rfl, ⟨Scn.new b HR.out, newCfg_wf, ⟨fun _ => rfl, fun y hy => (by cases hy)⟩, by simp [newCfg], HBe.out, by have := HSz.out; omega, by simp⟩⟩
  case round =>
    clear HR HBe HSz
    obtain ⟨k, g, pv, ev, hk, rfl, hz⟩ := hrel
    have HZ := Lib.hid hz
    obtain ⟨c0, c1, c2, c3, c4, f0, f1, f2, f3, f4⟩ := hz.scn.cells
    unfold stV at c0
    have hlt2 := hz.scn.lt
    have hps : g.ps.length < 10000 := by have := hz.ps; omega
    have HPs := Lib.hid hps
    clear hz hps
    by_cases hkn : k < n
    · have hkl : k < l.length := HN.out ▸ hkn
      have hc0 := (HB.out.below HZ.out.below hb0).at0 k hkl
      have hk1 : (k : Int) + 1 ≤ 1001 := by omega
      obtain ⟨c, hc⟩ : ∃ c : Nat, c = (l[k]'hkl).toNat := ⟨_, rfl⟩
      obtain ⟨⟨g1, kk⟩, hr⟩ : ∃ r, stepC g ((k : Int) + 1) c = r := ⟨_, rfl⟩
      rw [← hc] at hc0
      have hr2 : stepC g ((k : Int) + 1) (l[k]'hkl).toNat = (g1, kk) := by rw [← hc]; exact hr
      have HRR := Lib.hid hr
      have HR2 := Lib.hid hr2
      have hrun := run_st g.st
      clear hc hr hr2
      go_wp2_with fail
      refine (step_any b b g _ pv ev c _ (HZ.out.scn.bytes _) (by have := HZ.out.size; simp [World.setCell]; exact this) HPs.out HZ.out.bse).mono ?_
      rw [HRR.out]
      rintro e w2 ⟨pv1, ev1, rfl, hs, hk2, ha, hx⟩
      have hsk : SK wr w2 b pv := SK.trans ((SK.refl _ _ _).set 4 _) (PAt.refl _ _) hk2
      have E1 := Lib.hid ((HZ.out.ev.bytes _).step (r := (g1, kk)) (by simp [World.setCell]; exact hlt2) (by have := HZ.out.size; simp [World.setCell]; exact this) hk2 ha hx)
      have B1 := Lib.hid (HZ.out.below.trans (hsk.below (n := b) (Nat.le_refl _) HZ.out.size (fun k e => (HZ.out.scn.own.lt _ e).1)))
      have Z1 := Lib.hid (Nat.le_trans HZ.out.size hsk.size)
      have HS := Lib.hid hs
      clear hsk hk2 ha hx c0 c1 c2 c3 c4 f0 f1 f2 f3 f4 hrun
      obtain ⟨c0, c1, c2, c3, c4, f0, f1, f2, f3, f4⟩ := hs.cells
      have hlt3 := hs.lt
      clear hs
      by_cases h11 : kk = 11
      · subst h11
        go_wp2_with fail
        go_ret
        have hall := HZ.out.all
        rw [List.drop_eq_getElem_cons hkl, scanAll_bad HR2.out] at hall
        exact ⟨_, rfl, B1.out, b, pv1, by rw [hall]; exact E1.out⟩
      · have x11 : ((kk : Int) == 11) = false := by rw [beq_eq_false_iff_ne]; omega
        have H11 := Lib.hid h11
        clear h11
        go_wp2_with fail
        go_roundw
        case rel => exact ⟨k + 1, g1, pv1, ev1, by omega, by go_num, HZ.out.next hkl HR2.out H11.out HS.out E1.out B1.out Z1.out⟩
        case measure => simp [intOf]; omega
    · have hkl : k = n := by omega
      have hd : l.drop k = [] := List.drop_eq_nil_of_le (by rw [hkl, HN.out]; exact Nat.le_refl _)
      obtain ⟨⟨g1, r2⟩, hr⟩ : ∃ r, eofP g (k : Int) = r := ⟨_, rfl⟩
      have hall := HZ.out.all
      rw [hd] at hall
      have hall2 : (scanAll newCfg 0 l).2 = g1 := by
        rw [hall]
        show (eofP g (k : Int)).1 = _
        rw [hr]
      have hf := eof_facts HZ.out.wf (k : Int)
      rw [hr] at hf
      have HF := Lib.hid hf
      have HA := Lib.hid hall2
      have HRR := Lib.hid ((eofC_eofP g (k : Int)).trans hr)
      clear hd hr hall hall2 hf
      go_wp2_with fail
      refine (eof_any b b g _ pv ev _ HZ.out.scn HZ.out.size HPs.out HZ.out.bse HZ.out.ev.is).mono ?_
      rw [HRR.out]
      rintro e w2 ⟨pv1, ev1, rfl, hs, hk2, ha, hx⟩
      have E1 := Lib.hid (HZ.out.ev.step (r := (g1, r2)) hlt2 HZ.out.size hk2 ha hx)
      have B1 := Lib.hid (HZ.out.below.trans (hk2.below (n := b) (Nat.le_refl _) HZ.out.size (fun k e => (HZ.out.scn.own.lt _ e).1)))
      clear hk2 ha hx c0 c1 c2 c3 c4 f0 f1 f2 f3 f4
      obtain ⟨c0, c1, c2, c3, c4, f0, f1, f2, f3, f4⟩ := hs.cells
      have hlt3 := hs.lt
      clear hs
      rcases HF.out with ⟨e1, e2, _, _⟩ | ⟨e1, e2⟩
      · subst e1
        have H2 := Lib.hid e2
        clear e2
        go_wp2_with fail
        go_ret
        exact ⟨_, rfl, B1.out, b, pv1, by rw [HA.out, H2.out]; exact ⟨fun _ => rfl, fun y hy => (by cases hy)⟩⟩
      · subst e1
        clear e2
        go_wp2_with fail
        go_ret
        exact ⟨_, rfl, B1.out, b, pv1, by rw [HA.out]; exact E1.out⟩

end Go.Proofs.Ytebiendmngmjcaa
