/- The walk of the scan of a whole text. -/
import Derived.Test.YtebiendmngmjcaaZzS
namespace Go.Proofs.Ytebiendmngmjcaa
open Go.RowKit

/-- What the scan leaves. -/
structure ZRes (w : World) (l : List UInt8) (e : Ending) (w' : World) : Prop where
  what : ∃ cv ev, e = .returned (.tuple #[cv, ev]) ∧ w'.ownsRow w.heap.size 3 1 cv (scanAll newCfg 0 l).1.length ((scanAll newCfg 0 l).1.map I64) ∧ Below w.heap.size w w' ∧ EvIs (scanAll newCfg 0 l).2.er ev

/-- Between two bytes. -/
structure ZI (w d : World) (l : List UInt8) (k : Nat) (g : Cfg) (L : List Nat) (pv ev cv : Value) : Prop where
  sc : SC d w.heap.size w.heap.size g (k : Int) pv ev cv L
  wf : WF g
  ev : EvIs g.er ev
  ps : g.ps.length ≤ k
  len : L.length = k
  below : Below w.heap.size w d
  all : scanAll newCfg 0 l = (L ++ (scanAll g k (l.drop k)).1, (scanAll g k (l.drop k)).2)

theorem below_drewN {n : Nat} {w w' : World} (h : Below n w w') (k : Nat) : Below n w (w'.drewN k) := ⟨h.os, h.tape, h.output, h.size, h.block⟩

theorem newCfg_wf : WF newCfg := ⟨fun e => (by cases e), fun e => (by cases e), fun e => absurd rfl e, fun e => (by cases e)⟩

theorem ZI.start {w d : World} {l : List UInt8} (h : d.heap[w.heap.size]? = some (.cells (newRow 0) 57 (0, 0))) (hb : Below w.heap.size w d) : ZI w d l 0 newCfg [] (.slice none 0 0) .nilIface (.slice none 0 0) :=
  ⟨⟨Scn.new w.heap.size h, World.ownsRow_nil d w.heap.size 3 1, by simp [Value.ownBlock], fun x e => (by simp [Value.ownBlock] at e)⟩, newCfg_wf, ⟨fun _ => rfl, fun e => absurd rfl e⟩, by simp [newCfg], rfl, hb, by simp⟩

theorem ZI.bse {w d : World} {l : List UInt8} {k : Nat} {g : Cfg} {L : List Nat} {pv ev cv : Value} (h : ZI w d l k g L pv ev cv) : g.st = .bse → g.ps ≠ [] := fun e q => by
  obtain ⟨i, hi⟩ := h.wf.bse e
  rw [q] at hi
  simp at hi

theorem scanAll_bad {g : Cfg} {n : Nat} {c : UInt8} {t : List UInt8} {g1 : Cfg} (h : stepC g ((n : Int) + 1) c.toNat = (g1, 11)) : scanAll g n (c :: t) = ([11], g1) := by
  have e : (((n + 1 : Nat)) : Int) = (n : Int) + 1 := by omega
  show (if (stepC g ((n + 1 : Nat) : Int) c.toNat).2 = 11 then _ else _) = _
  rw [e, h]
  rfl

theorem scanAll_on {g : Cfg} {n : Nat} {c : UInt8} {t : List UInt8} {g1 : Cfg} {k : Nat} (h : stepC g ((n : Int) + 1) c.toNat = (g1, k)) (hk : k ≠ 11) : scanAll g n (c :: t) = (k :: (scanAll g1 (n + 1) t).1, (scanAll g1 (n + 1) t).2) := by
  have e : (((n + 1 : Nat)) : Int) = (n : Int) + 1 := by omega
  show (if (stepC g ((n + 1 : Nat) : Int) c.toNat).2 = 11 then _ else _) = _
  rw [e, h]
  exact if_neg hk

/-- A byte further. -/
theorem ZI.next {w d d' : World} {l : List UInt8} {k : Nat} {g g1 : Cfg} {L : List Nat} {pv ev cv pv1 ev1 cv1 : Value} {kk : Nat} (h : ZI w d l k g L pv ev cv) (hk : k < l.length) (hr : stepC g ((k : Int) + 1) (l[k]'hk).toNat = (g1, kk)) (h11 : kk ≠ 11)
    (hs : SC d' w.heap.size w.heap.size g1 ((k : Int) + 1) pv1 ev1 cv1 (L ++ [kk])) (hev : EvIs g1.er ev1) (hb : Below w.heap.size w d') : ZI w d' l (k + 1) g1 (L ++ [kk]) pv1 ev1 cv1 := by
  have hd := did_step h.wf ((k : Int) + 1) (l[k]'hk).toNat
  rw [hr] at hd
  refine ⟨?_, hd.wf, hev, ?_, ?_, hb, ?_⟩
  · have e : (((k + 1 : Nat)) : Int) = (k : Int) + 1 := by omega
    rw [e]; exact hs
  · have := hd.len
    have := h.ps
    simp only at *
    omega
  · rw [List.length_append, h.len]; rfl
  · rw [h.all, List.drop_eq_getElem_cons hk, scanAll_on hr h11, List.append_assoc]
    rfl

set_option maxRecDepth 100000 in
set_option maxHeartbeats 4000000 in
theorem zzScan_any (l : List UInt8) (b0 n cap : Nat) (w : World) (hn : n = l.length) (hb : b0 < w.heap.size) (hbytes : Bytes w b0 0 l) (hl : l.length ≤ 1000) :
    Calls Try.prog 10 #[.slice (some ⟨b0, 0, none⟩) n cap] w (ZRes w l) := by
  have HN := Lib.hid hn
  have HB := Lib.hid hbytes
  have HL := Lib.hid hl
  have hn1 : n ≤ 1000 := by omega
  clear hn hbytes hl
  go_enter Try.func10, Try.ntmps10
  go_wp2_with fail
  refine (newScanner_any w).mono ?_
  rintro e w1 ⟨rfl, hrow, hbel⟩
  have HR := Lib.hid hrow
  have HBe := Lib.hid hbel
  clear hrow hbel
  go_wp2_with fail
  go_loopw [5, 12] (fun s i wr => ∃ (k : Nat) (g : Cfg) (L : List Nat) (pv ev cv : Value), k ≤ n ∧ i = .int .i64 k ∧ s = cv ∧ ZI w wr l k g L pv ev cv) (fun _ i _ => n - (intOf i).toNat)
  case atStart => exact ⟨0, newCfg, [], _, _, _, Nat.zero_le _, rfl, rfl, ZI.start HR.out HBe.out⟩
  case round =>
    clear HR HBe
    obtain ⟨k, g, L, pv, ev, cv, hk, rfl, rfl, hz⟩ := hrel
    have HZ := Lib.hid hz
    obtain ⟨c0, c1, c2, c3, c4, f0, f1, f2, f3, f4⟩ := hz.sc.scn.cells
    unfold stV at c0
    have hlt := hz.sc.scn.lt
    have hL : L.length < 1000000 := by have := hz.len; omega
    have hps : g.ps.length < 10000 := by have := hz.ps; omega
    have HLn := Lib.hid hL
    have HPs := Lib.hid hps
    clear hz hL hps
    by_cases hkn : k < n
    · have hkl : k < l.length := HN.out ▸ hkn
      have hc0 := (HB.out.below HZ.out.below hb).at0 k hkl
      have hk1 : (k : Int) + 1 ≤ 1001 := by omega
      obtain ⟨c, hc⟩ : ∃ c : Nat, c = (l[k]'hkl).toNat := ⟨_, rfl⟩
      obtain ⟨⟨g1, kk⟩, hr⟩ : ∃ r, stepC g ((k : Int) + 1) c = r := ⟨_, rfl⟩
      rw [← hc] at hc0
      have hr2 : stepC g ((k : Int) + 1) (l[k]'hkl).toNat = (g1, kk) := by rw [← hc]; exact hr
      have HRR := Lib.hid hr
      have HR2 := Lib.hid hr2
      have hrun := run_st g.st
      clear hc hr hr2
      go_wp2_with fail
      refine (step_any w.heap.size w.heap.size g _ pv ev c _ (HZ.out.sc.bytes _).scn (by have := HZ.out.below.size; simp [World.setCell]; exact this) HPs.out HZ.out.bse).mono ?_
      rw [HRR.out]
      rintro e w2 ⟨pv1, ev1, rfl, hs, hk2, ha, hx⟩
      have S1 := (HZ.out.sc.bytes ((k : Int) + 1)).stepped hs hk2 ha
      have E1 := Lib.hid (HZ.out.ev.step hx)
      have B1 := Lib.hid (HZ.out.below.trans (HZ.out.sc.below (Nat.le_refl _) HZ.out.below.size (SK.trans ((SK.refl _ _ _).set 4 _) (PAt.refl _ _) hk2)))
      have HS1 := Lib.hid S1
      clear hs hk2 ha hx S1 c0 c1 c2 c3 c4 f0 f1 f2 f3 f4 hrun
      by_cases h11 : kk = 11
      · subst h11
        go_wp2_with (first
        | (at_builtin
           refine wpList_push el_int rfl (.tmp 30) (.tmp 32) rfl w.heap.size L.length (L.map I64) (HS1.out.alloc _).row (by rfl) ⟨w2.heap.size, 0, none⟩ 1 (I64 11) (by rfl) (one_new w2 _ _) (by intro u hu; simp at hu; subst hu; rfl) HLn.out (by have := B1.out.size; simp; omega) ?_
           intro q cap3 w3 own3 grow3 at3
           have S3 := (HS1.out.alloc _).pushed _ own3 grow3 at3
           obtain ⟨c0, c1, c2, c3, c4, f0, f1, f2, f3, f4⟩ := S3.scn.cells
           have hlt3 := S3.scn.lt
           have B3 := Lib.hid ((B1.out.alloc B1.out.size _).trans ((HS1.out.alloc _).grown (by have := B1.out.size; simp; omega) grow3))
           have O3 := Lib.hid own3
           have HS3 := Lib.hid S3
           clear own3 grow3 at3 S3))
        go_big_quiet (fail)
        go_wp2_with fail
        go_ret2
        have hall := HZ.out.all
        rw [List.drop_eq_getElem_cons hkl, scanAll_bad HR2.out] at hall
        refine ⟨_, _, rfl, ?_, ?_, ?_⟩
        · rw [hall]
          simp only [List.length_append, List.length_singleton, List.map_append, List.map_cons, List.map_nil]
          exact own_heap O3.out (fun _ _ => rfl)
        · exact below_drewN B3.out _
        · rw [hall]; exact E1.out
      · have x11 : ((kk : Int) == 11) = false := by rw [beq_eq_false_iff_ne]; omega
        have H11 := Lib.hid h11
        clear h11
        go_wp2_with (first
        | (at_builtin
           refine wpList_push el_int rfl (.tmp 30) (.tmp 32) rfl w.heap.size L.length (L.map I64) (HS1.out.alloc _).row (by rfl) ⟨w2.heap.size, 0, none⟩ 1 (I64 kk) (by rfl) (one_new w2 _ _) (by intro u hu; simp at hu; subst hu; rfl) HLn.out (by have := B1.out.size; simp; omega) ?_
           intro q cap3 w3 own3 grow3 at3
           have S3 := (HS1.out.alloc _).pushed _ own3 grow3 at3
           obtain ⟨c0, c1, c2, c3, c4, f0, f1, f2, f3, f4⟩ := S3.scn.cells
           have hlt3 := S3.scn.lt
           have B3 := Lib.hid ((B1.out.alloc B1.out.size _).trans ((HS1.out.alloc _).grown (by have := B1.out.size; simp; omega) grow3))
           have O3 := Lib.hid own3
           have HS3 := Lib.hid S3
           clear own3 grow3 at3 S3))
        go_roundw
        case rel => exact ⟨k + 1, g1, L ++ [kk], pv1, ev1, _, by omega, by go_num, rfl, HZ.out.next hkl HR2.out H11.out HS3.out E1.out B3.out⟩
        case measure => simp [intOf]; omega
    · have hkl : k = n := by omega
      have hd : l.drop k = [] := List.drop_eq_nil_of_le (by rw [hkl, HN.out]; exact Nat.le_refl _)
      obtain ⟨⟨g1, r2⟩, hr⟩ : ∃ r, eofP g (k : Int) = r := ⟨_, rfl⟩
      have hall := HZ.out.all
      rw [hd] at hall
      have hall2 : scanAll newCfg 0 l = (L ++ [r2], g1) := by
        rw [hall]
        show (L ++ [(eofP g (k : Int)).2], (eofP g (k : Int)).1) = _
        rw [hr]
      have HA := Lib.hid hall2
      have HRR := Lib.hid ((eofC_eofP g (k : Int)).trans hr)
      clear hd hr hall hall2
      go_wp2_with fail
      refine (eof_any w.heap.size w.heap.size g _ pv ev _ HZ.out.sc.scn HZ.out.below.size HPs.out HZ.out.bse HZ.out.ev).mono ?_
      rw [HRR.out]
      rintro e w2 ⟨pv1, ev1, rfl, hs, hk2, ha, hx⟩
      have S1 := HZ.out.sc.stepped hs hk2 ha
      have E1 := Lib.hid (HZ.out.ev.step hx)
      have B1 := Lib.hid (HZ.out.below.trans (HZ.out.sc.below (Nat.le_refl _) HZ.out.below.size hk2))
      have HS1 := Lib.hid S1
      clear hs hk2 ha hx S1 c0 c1 c2 c3 c4 f0 f1 f2 f3 f4
      go_wp2_with (first
      | (at_builtin
         refine wpList_push el_int rfl (.tmp 42) (.tmp 45) rfl w.heap.size L.length (L.map I64) (HS1.out.alloc _).row (by rfl) ⟨w2.heap.size, 0, none⟩ 1 (I64 r2) (by rfl) (one_new w2 _ _) (by intro u hu; simp at hu; subst hu; rfl) HLn.out (by have := B1.out.size; simp; omega) ?_
         intro q cap3 w3 own3 grow3 at3
         have S3 := (HS1.out.alloc _).pushed _ own3 grow3 at3
         obtain ⟨c0, c1, c2, c3, c4, f0, f1, f2, f3, f4⟩ := S3.scn.cells
         have hlt3 := S3.scn.lt
         have B3 := Lib.hid ((B1.out.alloc B1.out.size _).trans ((HS1.out.alloc _).grown (by have := B1.out.size; simp; omega) grow3))
         have O3 := Lib.hid own3
         have HS3 := Lib.hid S3
         clear own3 grow3 at3 S3))
      go_big_quiet (fail)
      go_wp2_with fail
      go_ret2
      refine ⟨_, _, rfl, ?_, ?_, ?_⟩
      · rw [HA.out]
        simp only [List.length_append, List.length_singleton, List.map_append, List.map_cons, List.map_nil]
        exact own_heap O3.out (fun _ _ => rfl)
      · exact below_drewN B3.out _
      · rw [HA.out]; exact E1.out
end Go.Proofs.Ytebiendmngmjcaa
