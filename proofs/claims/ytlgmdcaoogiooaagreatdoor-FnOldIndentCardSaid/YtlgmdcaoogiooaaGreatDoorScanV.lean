/- The scanner of encoding/json: its states at the ends of values. -/
import Derived.Test.YtlgmdcaoogiooaaGreatDoorScanE
namespace Go.Proofs.YtlgmdcaoogiooaaGreatDoor
open Go.RowKit

/-- A step behind others. -/
theorem SRes.from {w w1 w' : World} {B b : Nat} {g g1 : Cfg} {y : Int} {pv pv1 ev : Value} {r : Cfg × Nat} {e : Ending} (h : SK w w1 b pv) (ha : PAt w pv pv1) (he : g1.er = g.er) (k : SRes w1 B b g1 y pv1 ev r e w') : SRes w B b g y pv ev r e w' := by
  obtain ⟨pv', ev', he', hs, hk, hp, hx⟩ := k
  refine ⟨pv', ev', he', hs, h.trans ha hk, ha.trans h.size hp, ?_⟩
  rcases hx with ⟨e1, e2⟩ | ⟨e1, q, t, e2, e3, e4, e5⟩
  · exact .inl ⟨e1, e2.trans he⟩
  · exact .inr ⟨e1, q, t, e2, Nat.le_trans h.size e3, e4, e5⟩

theorem SK.setP {w w' : World} {b q : Nat} {pv : Value} (h : SK w w' b pv) (hq : pv.ownBlock = some q) (o : Nat) (v : Value) : SK w (w'.setCell ⟨q, o, none⟩ v) b pv :=
  ⟨h.os, h.tape, h.output, by simp [World.setCell]; exact h.size, fun k hk hb hp => (Below.heap_setCell w' ⟨q, o, none⟩ v k (fun e => hp (by rw [hq, e]))).trans (h.block k hk hb hp)⟩

set_option maxRecDepth 100000 in
set_option maxHeartbeats 2000000 in
theorem st_ev_none (B b : Nat) (g : Cfg) (y : Int) (pv ev : Value) (c : Nat) (w : World) (h : Scn w B b g y pv ev) (hps : g.ps = []) :
    Calls Tryz.prog 110 #[.pointer (some ⟨b, 0, none⟩), .int .u8 (c : Int)] w (SRes w B b g y pv ev (stepEt { g with st := .et, top := true } y c)) := by
  have hform : (pv = .slice none 0 0) ∨ ∃ q cap, pv = .slice (some ⟨q, 0, none⟩) 0 cap := by
    rcases h.own.2 with h | ⟨q, cap, cur, h1, _⟩
    · exact .inl h.1
    · rw [hps] at h1
      exact .inr ⟨q, cap, h1⟩
  clear hps
  obtain ⟨c0, c1, c2, c3, c4, f0, f1, f2, f3, f4⟩ := h.cells
  have hlt := h.lt
  have H := Lib.hid h
  clear h
  have H1 := Lib.hid ((H.out.to .et).topped)
  rcases hform with rfl | ⟨q0, cap0, rfl⟩
  all_goals
    go_enter Tryz.func110, Tryz.ntmps110
    go_wp2_with fail
    refine (st_et B b { g with st := .et, top := true } y _ ev c _ H1.out).mono ?_
    intro e w' hr
    obtain ⟨k, rfl, hr2⟩ := (SRes.from (g := g) (g1 := { g with st := .et, top := true }) (((SK.refl w b _).set 0 (stV .et)).set 1 (.bool true)) (PAt.refl _ _) rfl hr).handed
    have HR := Lib.hid hr2
    clear hr hr2
    go_wp2_with fail
    go_ret
    exact HR.out

theorem stepEv_none {g : Cfg} {y : Int} {c : Nat} (h : g.ps = []) : stepEv g y c = stepEt { g with st := .et, top := true } y c := by
  unfold stepEv
  rw [h]
  rfl

theorem stepEv_some {g : Cfg} {y : Int} {c p : Nat} {i : List Nat} (h : g.ps = i ++ [p]) : stepEv g y c =
    if isSp c then (g.to .ev, 9)
    else if p = 0 then (if c = 58 then (g.turn .bv 1, 3) else (g.fail y, 11))
    else if p = 1 then (if c = 44 then (g.turn .bs 0, 4) else if c = 125 then (g.pop, 5) else (g.fail y, 11))
    else if p = 2 then (if c = 44 then (g.to .bv, 7) else if c = 93 then (g.pop, 8) else (g.fail y, 11))
    else (g.fail y, 11) := by
  have e : g.ps.getLast? = some p := by rw [h]; simp
  unfold stepEv
  rw [e]

theorem turn_eq {g : Cfg} {i : List Nat} {p x : Nat} {s : St} (h : g.ps = i ++ [p]) : g.turn s x = ({ g with ps := i ++ [x] } : Cfg).to s := by
  unfold Cfg.turn Cfg.to
  rw [h, List.dropLast_concat]

set_option maxRecDepth 100000 in
set_option maxHeartbeats 2000000 in
theorem st_ev_sp (B b : Nat) (g : Cfg) (y : Int) (pv ev : Value) (c : Nat) (w : World) (h : Scn w B b g y pv ev) (i : List Nat) (p : Nat) (hps : g.ps = i ++ [p]) (hsp : isSp c) :
    Calls Tryz.prog 110 #[.pointer (some ⟨b, 0, none⟩), .int .u8 (c : Int)] w (SRes w B b g y pv ev (g.to .ev, 9)) := by
  obtain ⟨q, cap, cur, rfl, h1, h2, h3, h4, h5, h6, h7, h8, h9⟩ := h.form hps
  unfold maxLen at h2
  have h8' : w.cell? ⟨q, i.length, none⟩ = some (.int .i64 (p : Int)) := h8
  have hqlt : q < w.heap.size := (Array.getElem?_eq_some_iff.1 h5).1
  have hil : (i.length : Int) < (i.length : Int) + 1 := by omega
  have hcap : (i.length : Int) < (cap : Int) := by omega
  have HPS := Lib.hid hps
  clear h5 h6 h7 h8 hps
  obtain ⟨c0, c1, c2, c3, c4, f0, f1, f2, f3, f4⟩ := h.cells
  have hlt := h.lt
  have H := Lib.hid h
  clear h
  have HSP := Lib.hid hsp
  clear hsp
  go_enter Tryz.func110, Tryz.ntmps110
  go_wp2_with fail
  refine (space_yes c HSP.out _).mono ?_
  rintro e w' ⟨rfl, rfl⟩
  go_wp2_with fail
  go_ret
  exact SRes.went H.out .ev

set_option maxRecDepth 100000 in
set_option maxHeartbeats 2000000 in
theorem st_ev_err0 (B b : Nat) (g : Cfg) (y : Int) (pv ev : Value) (c : Nat) (w : World) (h : Scn w B b g y pv ev) (i : List Nat) (p : Nat) (hps : g.ps = i ++ [p]) (hsp : ¬ isSp c) (hp : p = 0) (hc : c ≠ 58) :
    Calls Tryz.prog 110 #[.pointer (some ⟨b, 0, none⟩), .int .u8 (c : Int)] w (SRes w B b g y pv ev (g.fail y, 11)) := by
  obtain ⟨q, cap, cur, rfl, h1, h2, h3, h4, h5, h6, h7, h8, h9⟩ := h.form hps
  unfold maxLen at h2
  have h8' : w.cell? ⟨q, i.length, none⟩ = some (.int .i64 (p : Int)) := h8
  have hqlt : q < w.heap.size := (Array.getElem?_eq_some_iff.1 h5).1
  have hil : (i.length : Int) < (i.length : Int) + 1 := by omega
  have hcap : (i.length : Int) < (cap : Int) := by omega
  have HPS := Lib.hid hps
  clear h5 h6 h7 h8 hps
  obtain ⟨c0, c1, c2, c3, c4, f0, f1, f2, f3, f4⟩ := h.cells
  have hlt := h.lt
  have H := Lib.hid h
  clear h
  have HSP := Lib.hid hsp
  clear hsp
  subst hp
  have n58 : ((c : Int) == 58) = false := by rw [beq_eq_false_iff_ne]; omega
  clear hc
  go_enter Tryz.func110, Tryz.ntmps110
  go_wp2_with fail
  refine (space_no c HSP.out _).mono ?_
  rintro e w' ⟨rfl, rfl⟩
  go_wp2_with fail
  refine (error_any B b g y _ ev _ _ (by decide) _ H.out).mono ?_
  intro e w' hr
  obtain ⟨k, rfl, hr⟩ := hr.handed
  have HR := Lib.hid hr
  clear hr
  go_wp2_with fail
  go_ret
  exact HR.out

set_option maxRecDepth 100000 in
set_option maxHeartbeats 2000000 in
theorem st_ev_err1 (B b : Nat) (g : Cfg) (y : Int) (pv ev : Value) (c : Nat) (w : World) (h : Scn w B b g y pv ev) (i : List Nat) (p : Nat) (hps : g.ps = i ++ [p]) (hsp : ¬ isSp c) (hp : p = 1) (hc : c ≠ 44) (hd : c ≠ 125) :
    Calls Tryz.prog 110 #[.pointer (some ⟨b, 0, none⟩), .int .u8 (c : Int)] w (SRes w B b g y pv ev (g.fail y, 11)) := by
  obtain ⟨q, cap, cur, rfl, h1, h2, h3, h4, h5, h6, h7, h8, h9⟩ := h.form hps
  unfold maxLen at h2
  have h8' : w.cell? ⟨q, i.length, none⟩ = some (.int .i64 (p : Int)) := h8
  have hqlt : q < w.heap.size := (Array.getElem?_eq_some_iff.1 h5).1
  have hil : (i.length : Int) < (i.length : Int) + 1 := by omega
  have hcap : (i.length : Int) < (cap : Int) := by omega
  have HPS := Lib.hid hps
  clear h5 h6 h7 h8 hps
  obtain ⟨c0, c1, c2, c3, c4, f0, f1, f2, f3, f4⟩ := h.cells
  have hlt := h.lt
  have H := Lib.hid h
  clear h
  have HSP := Lib.hid hsp
  clear hsp
  subst hp
  have n44 : ((c : Int) == 44) = false := by rw [beq_eq_false_iff_ne]; omega
  have n125 : ((c : Int) == 125) = false := by rw [beq_eq_false_iff_ne]; omega
  clear hc hd
  go_enter Tryz.func110, Tryz.ntmps110
  go_wp2_with fail
  refine (space_no c HSP.out _).mono ?_
  rintro e w' ⟨rfl, rfl⟩
  go_wp2_with fail
  refine (error_any B b g y _ ev _ _ (by decide) _ H.out).mono ?_
  intro e w' hr
  obtain ⟨k, rfl, hr⟩ := hr.handed
  have HR := Lib.hid hr
  clear hr
  go_wp2_with fail
  go_ret
  exact HR.out

set_option maxRecDepth 100000 in
set_option maxHeartbeats 2000000 in
theorem st_ev_err2 (B b : Nat) (g : Cfg) (y : Int) (pv ev : Value) (c : Nat) (w : World) (h : Scn w B b g y pv ev) (i : List Nat) (p : Nat) (hps : g.ps = i ++ [p]) (hsp : ¬ isSp c) (hp : p = 2) (hc : c ≠ 44) (hd : c ≠ 93) :
    Calls Tryz.prog 110 #[.pointer (some ⟨b, 0, none⟩), .int .u8 (c : Int)] w (SRes w B b g y pv ev (g.fail y, 11)) := by
  obtain ⟨q, cap, cur, rfl, h1, h2, h3, h4, h5, h6, h7, h8, h9⟩ := h.form hps
  unfold maxLen at h2
  have h8' : w.cell? ⟨q, i.length, none⟩ = some (.int .i64 (p : Int)) := h8
  have hqlt : q < w.heap.size := (Array.getElem?_eq_some_iff.1 h5).1
  have hil : (i.length : Int) < (i.length : Int) + 1 := by omega
  have hcap : (i.length : Int) < (cap : Int) := by omega
  have HPS := Lib.hid hps
  clear h5 h6 h7 h8 hps
  obtain ⟨c0, c1, c2, c3, c4, f0, f1, f2, f3, f4⟩ := h.cells
  have hlt := h.lt
  have H := Lib.hid h
  clear h
  have HSP := Lib.hid hsp
  clear hsp
  subst hp
  have n44 : ((c : Int) == 44) = false := by rw [beq_eq_false_iff_ne]; omega
  have n93 : ((c : Int) == 93) = false := by rw [beq_eq_false_iff_ne]; omega
  clear hc hd
  go_enter Tryz.func110, Tryz.ntmps110
  go_wp2_with fail
  refine (space_no c HSP.out _).mono ?_
  rintro e w' ⟨rfl, rfl⟩
  go_wp2_with fail
  refine (error_any B b g y _ ev _ _ (by decide) _ H.out).mono ?_
  intro e w' hr
  obtain ⟨k, rfl, hr⟩ := hr.handed
  have HR := Lib.hid hr
  clear hr
  go_wp2_with fail
  go_ret
  exact HR.out

set_option maxRecDepth 100000 in
set_option maxHeartbeats 2000000 in
theorem st_ev_err3 (B b : Nat) (g : Cfg) (y : Int) (pv ev : Value) (c : Nat) (w : World) (h : Scn w B b g y pv ev) (i : List Nat) (p : Nat) (hps : g.ps = i ++ [p]) (hsp : ¬ isSp c) (hp0 : p ≠ 0) (hp1 : p ≠ 1) (hp2 : p ≠ 2) :
    Calls Tryz.prog 110 #[.pointer (some ⟨b, 0, none⟩), .int .u8 (c : Int)] w (SRes w B b g y pv ev (g.fail y, 11)) := by
  obtain ⟨q, cap, cur, rfl, h1, h2, h3, h4, h5, h6, h7, h8, h9⟩ := h.form hps
  unfold maxLen at h2
  have h8' : w.cell? ⟨q, i.length, none⟩ = some (.int .i64 (p : Int)) := h8
  have hqlt : q < w.heap.size := (Array.getElem?_eq_some_iff.1 h5).1
  have hil : (i.length : Int) < (i.length : Int) + 1 := by omega
  have hcap : (i.length : Int) < (cap : Int) := by omega
  have HPS := Lib.hid hps
  clear h5 h6 h7 h8 hps
  obtain ⟨c0, c1, c2, c3, c4, f0, f1, f2, f3, f4⟩ := h.cells
  have hlt := h.lt
  have H := Lib.hid h
  clear h
  have HSP := Lib.hid hsp
  clear hsp
  have z0 : ((p : Int) == 0) = false := by rw [beq_eq_false_iff_ne]; omega
  have z1 : ((p : Int) == 1) = false := by rw [beq_eq_false_iff_ne]; omega
  have z2 : ((p : Int) == 2) = false := by rw [beq_eq_false_iff_ne]; omega
  clear hp0 hp1 hp2
  go_enter Tryz.func110, Tryz.ntmps110
  go_wp2_with fail
  refine (space_no c HSP.out _).mono ?_
  rintro e w' ⟨rfl, rfl⟩
  go_wp2_with fail
  refine (error_any B b g y _ ev _ _ (by decide) _ H.out).mono ?_
  intro e w' hr
  obtain ⟨k, rfl, hr⟩ := hr.handed
  have HR := Lib.hid hr
  clear hr
  go_wp2_with fail
  go_ret
  exact HR.out

set_option maxRecDepth 100000 in
set_option maxHeartbeats 2000000 in
theorem st_ev_key (B b : Nat) (g : Cfg) (y : Int) (pv ev : Value) (c : Nat) (w : World) (h : Scn w B b g y pv ev) (i : List Nat) (p : Nat) (hps : g.ps = i ++ [p]) (hsp : ¬ isSp c) (hp : p = 0) (hc : c = 58) :
    Calls Tryz.prog 110 #[.pointer (some ⟨b, 0, none⟩), .int .u8 (c : Int)] w (SRes w B b g y pv ev (g.turn .bv 1, 3)) := by
  obtain ⟨q, cap, cur, rfl, h1, h2, h3, h4, h5, h6, h7, h8, h9⟩ := h.form hps
  unfold maxLen at h2
  have h8' : w.cell? ⟨q, i.length, none⟩ = some (.int .i64 (p : Int)) := h8
  have hqlt : q < w.heap.size := (Array.getElem?_eq_some_iff.1 h5).1
  have hil : (i.length : Int) < (i.length : Int) + 1 := by omega
  have hcap : (i.length : Int) < (cap : Int) := by omega
  have HPS := Lib.hid hps
  clear h5 h6 h7 h8 hps
  obtain ⟨c0, c1, c2, c3, c4, f0, f1, f2, f3, f4⟩ := h.cells
  have hlt := h.lt
  have H := Lib.hid h
  clear h
  subst hp hc
  have HT := Lib.hid ((H.out.turned HPS.out rfl 1).to .bv)
  have HSP := Lib.hid hsp
  clear hsp
  rw [turn_eq HPS.out]
  go_enter Tryz.func110, Tryz.ntmps110
  go_wp2_with fail
  refine (space_no 58 HSP.out _).mono ?_
  rintro e w' ⟨rfl, rfl⟩
  go_wp2_with fail
  go_ret
  exact ⟨_, ev, rfl, HT.out, (((SK.refl _ _ _).setP rfl _ _).set _ _), PAt.refl _ _, .inl ⟨rfl, rfl⟩⟩

set_option maxRecDepth 100000 in
set_option maxHeartbeats 2000000 in
theorem st_ev_val (B b : Nat) (g : Cfg) (y : Int) (pv ev : Value) (c : Nat) (w : World) (h : Scn w B b g y pv ev) (i : List Nat) (p : Nat) (hps : g.ps = i ++ [p]) (hsp : ¬ isSp c) (hp : p = 1) (hc : c = 44) :
    Calls Tryz.prog 110 #[.pointer (some ⟨b, 0, none⟩), .int .u8 (c : Int)] w (SRes w B b g y pv ev (g.turn .bs 0, 4)) := by
  obtain ⟨q, cap, cur, rfl, h1, h2, h3, h4, h5, h6, h7, h8, h9⟩ := h.form hps
  unfold maxLen at h2
  have h8' : w.cell? ⟨q, i.length, none⟩ = some (.int .i64 (p : Int)) := h8
  have hqlt : q < w.heap.size := (Array.getElem?_eq_some_iff.1 h5).1
  have hil : (i.length : Int) < (i.length : Int) + 1 := by omega
  have hcap : (i.length : Int) < (cap : Int) := by omega
  have HPS := Lib.hid hps
  clear h5 h6 h7 h8 hps
  obtain ⟨c0, c1, c2, c3, c4, f0, f1, f2, f3, f4⟩ := h.cells
  have hlt := h.lt
  have H := Lib.hid h
  clear h
  subst hp hc
  have HT := Lib.hid ((H.out.turned HPS.out rfl 0).to .bs)
  have HSP := Lib.hid hsp
  clear hsp
  rw [turn_eq HPS.out]
  go_enter Tryz.func110, Tryz.ntmps110
  go_wp2_with fail
  refine (space_no 44 HSP.out _).mono ?_
  rintro e w' ⟨rfl, rfl⟩
  go_wp2_with fail
  go_ret
  exact ⟨_, ev, rfl, HT.out, (((SK.refl _ _ _).setP rfl _ _).set _ _), PAt.refl _ _, .inl ⟨rfl, rfl⟩⟩

set_option maxRecDepth 100000 in
set_option maxHeartbeats 2000000 in
theorem st_ev_elem (B b : Nat) (g : Cfg) (y : Int) (pv ev : Value) (c : Nat) (w : World) (h : Scn w B b g y pv ev) (i : List Nat) (p : Nat) (hps : g.ps = i ++ [p]) (hsp : ¬ isSp c) (hp : p = 2) (hc : c = 44) :
    Calls Tryz.prog 110 #[.pointer (some ⟨b, 0, none⟩), .int .u8 (c : Int)] w (SRes w B b g y pv ev (g.to .bv, 7)) := by
  obtain ⟨q, cap, cur, rfl, h1, h2, h3, h4, h5, h6, h7, h8, h9⟩ := h.form hps
  unfold maxLen at h2
  have h8' : w.cell? ⟨q, i.length, none⟩ = some (.int .i64 (p : Int)) := h8
  have hqlt : q < w.heap.size := (Array.getElem?_eq_some_iff.1 h5).1
  have hil : (i.length : Int) < (i.length : Int) + 1 := by omega
  have hcap : (i.length : Int) < (cap : Int) := by omega
  have HPS := Lib.hid hps
  clear h5 h6 h7 h8 hps
  obtain ⟨c0, c1, c2, c3, c4, f0, f1, f2, f3, f4⟩ := h.cells
  have hlt := h.lt
  have H := Lib.hid h
  clear h
  subst hp hc
  have HSP := Lib.hid hsp
  clear hsp
  go_enter Tryz.func110, Tryz.ntmps110
  go_wp2_with fail
  refine (space_no 44 HSP.out _).mono ?_
  rintro e w' ⟨rfl, rfl⟩
  go_wp2_with fail
  go_ret
  exact SRes.went H.out .bv

set_option maxRecDepth 100000 in
set_option maxHeartbeats 2000000 in
theorem st_ev_obj (B b : Nat) (g : Cfg) (y : Int) (pv ev : Value) (c : Nat) (w : World) (h : Scn w B b g y pv ev) (i : List Nat) (p : Nat) (hps : g.ps = i ++ [p]) (hsp : ¬ isSp c) (hp : p = 1) (hc : c = 125) :
    Calls Tryz.prog 110 #[.pointer (some ⟨b, 0, none⟩), .int .u8 (c : Int)] w (SRes w B b g y pv ev (g.pop, 5)) := by
  obtain ⟨q, cap, cur, rfl, h1, h2, h3, h4, h5, h6, h7, h8, h9⟩ := h.form hps
  unfold maxLen at h2
  have h8' : w.cell? ⟨q, i.length, none⟩ = some (.int .i64 (p : Int)) := h8
  have hqlt : q < w.heap.size := (Array.getElem?_eq_some_iff.1 h5).1
  have hil : (i.length : Int) < (i.length : Int) + 1 := by omega
  have hcap : (i.length : Int) < (cap : Int) := by omega
  have HPS := Lib.hid hps
  clear h5 h6 h7 h8 hps
  obtain ⟨c0, c1, c2, c3, c4, f0, f1, f2, f3, f4⟩ := h.cells
  have hlt := h.lt
  have H := Lib.hid h
  clear h
  subst hp hc
  have HSP := Lib.hid hsp
  clear hsp
  go_enter Tryz.func110, Tryz.ntmps110
  go_wp2_with fail
  refine (space_no 125 HSP.out _).mono ?_
  rintro e w' ⟨rfl, rfl⟩
  go_wp2_with fail
  refine (pop_any B b g y _ ev _ H.out i _ HPS.out).mono ?_
  rintro e w' ⟨pv', rfl, hs, hk, ha⟩
  have HS := Lib.hid hs
  have HK := Lib.hid hk
  have HA := Lib.hid ha
  clear hs hk ha
  go_wp2_with fail
  go_ret
  exact ⟨pv', ev, rfl, HS.out, HK.out, HA.out, .inl ⟨rfl, by unfold Cfg.pop; split <;> rfl⟩⟩

set_option maxRecDepth 100000 in
set_option maxHeartbeats 2000000 in
theorem st_ev_arr (B b : Nat) (g : Cfg) (y : Int) (pv ev : Value) (c : Nat) (w : World) (h : Scn w B b g y pv ev) (i : List Nat) (p : Nat) (hps : g.ps = i ++ [p]) (hsp : ¬ isSp c) (hp : p = 2) (hc : c = 93) :
    Calls Tryz.prog 110 #[.pointer (some ⟨b, 0, none⟩), .int .u8 (c : Int)] w (SRes w B b g y pv ev (g.pop, 8)) := by
  obtain ⟨q, cap, cur, rfl, h1, h2, h3, h4, h5, h6, h7, h8, h9⟩ := h.form hps
  unfold maxLen at h2
  have h8' : w.cell? ⟨q, i.length, none⟩ = some (.int .i64 (p : Int)) := h8
  have hqlt : q < w.heap.size := (Array.getElem?_eq_some_iff.1 h5).1
  have hil : (i.length : Int) < (i.length : Int) + 1 := by omega
  have hcap : (i.length : Int) < (cap : Int) := by omega
  have HPS := Lib.hid hps
  clear h5 h6 h7 h8 hps
  obtain ⟨c0, c1, c2, c3, c4, f0, f1, f2, f3, f4⟩ := h.cells
  have hlt := h.lt
  have H := Lib.hid h
  clear h
  subst hp hc
  have HSP := Lib.hid hsp
  clear hsp
  go_enter Tryz.func110, Tryz.ntmps110
  go_wp2_with fail
  refine (space_no 93 HSP.out _).mono ?_
  rintro e w' ⟨rfl, rfl⟩
  go_wp2_with fail
  refine (pop_any B b g y _ ev _ H.out i _ HPS.out).mono ?_
  rintro e w' ⟨pv', rfl, hs, hk, ha⟩
  have HS := Lib.hid hs
  have HK := Lib.hid hk
  have HA := Lib.hid ha
  clear hs hk ha
  go_wp2_with fail
  go_ret
  exact ⟨pv', ev, rfl, HS.out, HK.out, HA.out, .inl ⟨rfl, by unfold Cfg.pop; split <;> rfl⟩⟩

theorem st_ev (B b : Nat) (g : Cfg) (y : Int) (pv ev : Value) (c : Nat) (w : World) (h : Scn w B b g y pv ev) :
    Calls Tryz.prog 110 #[.pointer (some ⟨b, 0, none⟩), .int .u8 (c : Int)] w (SRes w B b g y pv ev (stepEv g y c)) := by
  rcases List.eq_nil_or_concat g.ps with hps | ⟨i, p, hps⟩
  · rw [stepEv_none hps]
    exact st_ev_none B b g y pv ev c w h hps
  rw [List.concat_eq_append] at hps
  rw [stepEv_some hps]
  by_cases hsp : isSp c
  · rw [if_pos hsp]
    exact st_ev_sp B b g y pv ev c w h i p hps hsp
  rw [if_neg hsp]
  by_cases p0 : p = 0
  · rw [if_pos p0]
    by_cases hc : c = 58
    · rw [if_pos hc]
      exact st_ev_key B b g y pv ev c w h i p hps hsp p0 hc
    · rw [if_neg hc]
      exact st_ev_err0 B b g y pv ev c w h i p hps hsp p0 hc
  rw [if_neg p0]
  by_cases p1 : p = 1
  · rw [if_pos p1]
    by_cases hc : c = 44
    · rw [if_pos hc]
      exact st_ev_val B b g y pv ev c w h i p hps hsp p1 hc
    rw [if_neg hc]
    by_cases hd : c = 125
    · rw [if_pos hd]
      exact st_ev_obj B b g y pv ev c w h i p hps hsp p1 hd
    · rw [if_neg hd]
      exact st_ev_err1 B b g y pv ev c w h i p hps hsp p1 hc hd
  rw [if_neg p1]
  by_cases p2 : p = 2
  · rw [if_pos p2]
    by_cases hc : c = 44
    · rw [if_pos hc]
      exact st_ev_elem B b g y pv ev c w h i p hps hsp p2 hc
    rw [if_neg hc]
    by_cases hd : c = 93
    · rw [if_pos hd]
      exact st_ev_arr B b g y pv ev c w h i p hps hsp p2 hd
    · rw [if_neg hd]
      exact st_ev_err2 B b g y pv ev c w h i p hps hsp p2 hc hd
  rw [if_neg p2]
  exact st_ev_err3 B b g y pv ev c w h i p hps hsp p0 p1 p2

set_option maxRecDepth 100000 in
set_option maxHeartbeats 1000000 in
theorem st_s0 (B b : Nat) (g : Cfg) (y : Int) (pv ev : Value) (c : Nat) (w : World) (h : Scn w B b g y pv ev) :
    Calls Tryz.prog 103 #[.pointer (some ⟨b, 0, none⟩), .int .u8 (c : Int)] w (SRes w B b g y pv ev (stepS0 g y c)) := by
  obtain ⟨c0, c1, c2, c3, c4, f0, f1, f2, f3, f4⟩ := h.cells
  have hlt := h.lt
  have H := Lib.hid h
  clear h
  by_cases q46 : c = 46
  · have hs : stepS0 g y c = (g.to .dot, 0) := if_pos q46
    rw [hs]
    clear hs
    subst q46
    go_enter Tryz.func103, Tryz.ntmps103
    go_wp2_with fail
    go_ret
    exact SRes.went H.out .dot
  have n46 : ((c : Int) == 46) = false := by rw [beq_eq_false_iff_ne]; omega
  by_cases hq : c = 101 ∨ c = 69
  · have hs : stepS0 g y c = (g.to .e, 0) := by unfold stepS0; rw [if_neg q46]; exact if_pos hq
    rw [hs]
    clear hs q46
    rcases hq with rfl | rfl
    all_goals
      go_enter Tryz.func103, Tryz.ntmps103
      go_wp2_with fail
      go_ret
      exact SRes.went H.out .e
  · have hs : stepS0 g y c = stepEv g y c := by unfold stepS0; rw [if_neg q46]; exact if_neg hq
    rw [hs]
    clear hs
    have n101 : ((c : Int) == 101) = false := by rw [beq_eq_false_iff_ne]; omega
    have n69 : ((c : Int) == 69) = false := by rw [beq_eq_false_iff_ne]; omega
    go_enter Tryz.func103, Tryz.ntmps103
    go_wp2_with fail
    refine (st_ev B b g y _ ev c _ H.out).mono ?_
    intro e w' hr
    obtain ⟨k, rfl, hr⟩ := hr.handed
    have HR := Lib.hid hr
    clear hr
    go_wp2_with fail
    go_ret
    exact HR.out

set_option maxRecDepth 100000 in
set_option maxHeartbeats 1000000 in
theorem st_s1 (B b : Nat) (g : Cfg) (y : Int) (pv ev : Value) (c : Nat) (w : World) (h : Scn w B b g y pv ev) :
    Calls Tryz.prog 107 #[.pointer (some ⟨b, 0, none⟩), .int .u8 (c : Int)] w (SRes w B b g y pv ev (stepS1 g y c)) := by
  obtain ⟨c0, c1, c2, c3, c4, f0, f1, f2, f3, f4⟩ := h.cells
  have hlt := h.lt
  have H := Lib.hid h
  clear h
  by_cases hq : isDig c
  · have hs : stepS1 g y c = (g.to .s1, 0) := if_pos hq
    rw [hs]
    clear hs
    have q1 : (48 : Int) ≤ c := by unfold isDig at hq; omega
    have q2 : (c : Int) ≤ 57 := by unfold isDig at hq; omega
    clear hq
    go_enter Tryz.func107, Tryz.ntmps107
    go_wp2_with fail
    go_ret
    exact SRes.went H.out .s1
  · have q : ¬ (48 : Int) ≤ c ∨ ((48 : Int) ≤ c ∧ ¬ (c : Int) ≤ 57) := by unfold isDig at hq; omega
    have hs : stepS1 g y c = stepS0 g y c := if_neg hq
    rw [hs]
    clear hs hq
    rcases q with q | ⟨q, q'⟩
    all_goals
      go_enter Tryz.func107, Tryz.ntmps107
      go_wp2_with fail
      refine (st_s0 B b g y _ ev c _ H.out).mono ?_
      intro e w' hr
      obtain ⟨k, rfl, hr⟩ := hr.handed
      have HR := Lib.hid hr
      clear hr
      go_wp2_with fail
      go_ret
      exact HR.out

set_option maxRecDepth 100000 in
set_option maxHeartbeats 1000000 in
theorem st_e0 (B b : Nat) (g : Cfg) (y : Int) (pv ev : Value) (c : Nat) (w : World) (h : Scn w B b g y pv ev) :
    Calls Tryz.prog 128 #[.pointer (some ⟨b, 0, none⟩), .int .u8 (c : Int)] w (SRes w B b g y pv ev (stepE0 g y c)) := by
  obtain ⟨c0, c1, c2, c3, c4, f0, f1, f2, f3, f4⟩ := h.cells
  have hlt := h.lt
  have H := Lib.hid h
  clear h
  by_cases hq : isDig c
  · have hs : stepE0 g y c = (g, 0) := if_pos hq
    rw [hs]
    clear hs
    have q1 : (48 : Int) ≤ c := by unfold isDig at hq; omega
    have q2 : (c : Int) ≤ 57 := by unfold isDig at hq; omega
    clear hq
    go_enter Tryz.func128, Tryz.ntmps128
    go_wp2_with fail
    go_ret
    exact SRes.same H.out
  · have q : ¬ (48 : Int) ≤ c ∨ ((48 : Int) ≤ c ∧ ¬ (c : Int) ≤ 57) := by unfold isDig at hq; omega
    have hs : stepE0 g y c = stepEv g y c := if_neg hq
    rw [hs]
    clear hs hq
    rcases q with q | ⟨q, q'⟩
    all_goals
      go_enter Tryz.func128, Tryz.ntmps128
      go_wp2_with fail
      refine (st_ev B b g y _ ev c _ H.out).mono ?_
      intro e w' hr
      obtain ⟨k, rfl, hr⟩ := hr.handed
      have HR := Lib.hid hr
      clear hr
      go_wp2_with fail
      go_ret
      exact HR.out

set_option maxRecDepth 100000 in
set_option maxHeartbeats 1000000 in
theorem st_dot0 (B b : Nat) (g : Cfg) (y : Int) (pv ev : Value) (c : Nat) (w : World) (h : Scn w B b g y pv ev) :
    Calls Tryz.prog 122 #[.pointer (some ⟨b, 0, none⟩), .int .u8 (c : Int)] w (SRes w B b g y pv ev (stepDot0 g y c)) := by
  obtain ⟨c0, c1, c2, c3, c4, f0, f1, f2, f3, f4⟩ := h.cells
  have hlt := h.lt
  have H := Lib.hid h
  clear h
  by_cases hq : isDig c
  · have hs : stepDot0 g y c = (g, 0) := if_pos hq
    rw [hs]
    clear hs
    have q1 : (48 : Int) ≤ c := by unfold isDig at hq; omega
    have q2 : (c : Int) ≤ 57 := by unfold isDig at hq; omega
    clear hq
    go_enter Tryz.func122, Tryz.ntmps122
    go_wp2_with fail
    go_ret
    exact SRes.same H.out
  · have q : ¬ (48 : Int) ≤ c ∨ ((48 : Int) ≤ c ∧ ¬ (c : Int) ≤ 57) := by unfold isDig at hq; omega
    by_cases he : c = 101 ∨ c = 69
    · have hs : stepDot0 g y c = (g.to .e, 0) := by unfold stepDot0; rw [if_neg hq]; exact if_pos he
      rw [hs]
      clear hs hq
      rcases q with q | ⟨q, q'⟩ <;> rcases he with rfl | rfl
      all_goals first
        | (exfalso; omega)
        | (go_enter Tryz.func122, Tryz.ntmps122
           go_wp2_with fail
           go_ret
           exact SRes.went H.out .e)
    · have hs : stepDot0 g y c = stepEv g y c := by unfold stepDot0; rw [if_neg hq]; exact if_neg he
      rw [hs]
      have n101 : ((c : Int) == 101) = false := by rw [beq_eq_false_iff_ne]; omega
      have n69 : ((c : Int) == 69) = false := by rw [beq_eq_false_iff_ne]; omega
      clear hs hq he
      rcases q with q | ⟨q, q'⟩
      all_goals
        go_enter Tryz.func122, Tryz.ntmps122
        go_wp2_with fail
        refine (st_ev B b g y _ ev c _ H.out).mono ?_
        intro e w' hr
        obtain ⟨k, rfl, hr⟩ := hr.handed
        have HR := Lib.hid hr
        clear hr
        go_wp2_with fail
        go_ret
        exact HR.out

set_option maxRecDepth 100000 in
set_option maxHeartbeats 2000000 in
theorem st_bse (B b : Nat) (g : Cfg) (y : Int) (pv ev : Value) (c : Nat) (w : World) (h : Scn w B b g y pv ev) (hps0 : g.ps ≠ []) :
    Calls Tryz.prog 98 #[.pointer (some ⟨b, 0, none⟩), .int .u8 (c : Int)] w (SRes w B b g y pv ev (stepBse g y c)) := by
  obtain ⟨i, p, hps⟩ : ∃ i p, g.ps = i ++ [p] := by
    rcases List.eq_nil_or_concat g.ps with h | h
    · exact absurd h hps0
    · obtain ⟨i, p, h⟩ := h
      rw [List.concat_eq_append] at h
      exact ⟨i, p, h⟩
  obtain ⟨q, cap, cur, rfl, h1, h2, h3, h4, h5, h6, h7, h8, h9⟩ := h.form hps
  unfold maxLen at h2
  have hqlt : q < w.heap.size := (Array.getElem?_eq_some_iff.1 h5).1
  have hil : (i.length : Int) < (i.length : Int) + 1 := by omega
  have h8' : w.cell? ⟨q, i.length, none⟩ = some (.int .i64 (p : Int)) := h8
  have HPS := Lib.hid hps
  clear h5 h6 h7 h8 hps hps0
  obtain ⟨c0, c1, c2, c3, c4, f0, f1, f2, f3, f4⟩ := h.cells
  have hlt := h.lt
  have H := Lib.hid h
  clear h
  by_cases hsp : isSp c
  · have hs : stepBse g y c = (g, 9) := if_pos hsp
    rw [hs]
    clear hs
    go_enter Tryz.func98, Tryz.ntmps98
    go_wp2_with fail
    refine (space_yes c hsp _).mono ?_
    rintro e w' ⟨rfl, rfl⟩
    go_wp2_with fail
    go_ret
    exact SRes.same H.out
  by_cases hq : c = 125
  · have hs : stepBse g y c = stepEv { g with ps := i ++ [1] } y c := by unfold stepBse; rw [if_neg hsp, if_pos hq, HPS.out, List.dropLast_concat]
    rw [hs]
    have HSP := Lib.hid hsp
    have HT := Lib.hid (H.out.turned HPS.out rfl 1)
    clear hs hsp
    subst hq
    go_enter Tryz.func98, Tryz.ntmps98
    go_wp2_with fail
    refine (space_no 125 HSP.out _).mono ?_
    rintro e w' ⟨rfl, rfl⟩
    go_wp2_with fail
    refine (st_ev B b { g with ps := i ++ [1] } y _ ev 125 _ HT.out).mono ?_
    intro e w1 hr
    obtain ⟨k, rfl, hr2⟩ := (SRes.from (g := g) (g1 := { g with ps := i ++ [1] }) ((SK.refl w' b _).setP rfl _ _) (PAt.refl _ _) rfl hr).handed
    have HR := Lib.hid hr2
    clear hr hr2
    go_wp2_with fail
    go_ret
    exact HR.out
  · have hs : stepBse g y c = stepBs g y c := by unfold stepBse; rw [if_neg hsp]; exact if_neg hq
    rw [hs]
    have HSP := Lib.hid hsp
    clear hs hsp
    have n125 : ((c : Int) == 125) = false := by rw [beq_eq_false_iff_ne]; omega
    go_enter Tryz.func98, Tryz.ntmps98
    go_wp2_with fail
    refine (space_no c HSP.out _).mono ?_
    rintro e w' ⟨rfl, rfl⟩
    go_wp2_with fail
    refine (st_bs B b g y _ ev c _ H.out).mono ?_
    intro e w' hr
    obtain ⟨k, rfl, hr⟩ := hr.handed
    have HR := Lib.hid hr
    clear hr
    go_wp2_with fail
    go_ret
    exact HR.out

set_option maxRecDepth 100000 in
set_option maxHeartbeats 2000000 in
theorem st_bv_obj (B b : Nat) (g : Cfg) (y : Int) (pv ev : Value) (w : World) (h : Scn w B b g y pv ev) (hB : B ≤ w.heap.size) (hl : g.ps.length < 10000) :
    Calls Tryz.prog 81 #[.pointer (some ⟨b, 0, none⟩), .int .u8 123] w (SRes w B b g y pv ev (g.push .bse 0, 2)) := by
  obtain ⟨c0, c1, c2, c3, c4, f0, f1, f2, f3, f4⟩ := h.cells
  have hlt := h.lt
  have H := Lib.hid h
  clear h
  have HT := Lib.hid (H.out.to .bse)
  go_enter Tryz.func81, Tryz.ntmps81
  go_wp2_with fail
  refine (space_no 123 (by decide) _).mono ?_
  rintro e w' ⟨rfl, rfl⟩
  go_wp2_with fail
  refine (push_any B b (g.to .bse) y pv ev _ 2 0 _ HT.out (by simp [World.setCell]; omega) hl).mono ?_
  rintro e w1 ⟨pv', rfl, hs, hk, ha⟩
  have HS := Lib.hid hs
  have HK := Lib.hid (((SK.refl w' b pv).set 0 (stV .bse)).trans (PAt.refl _ _) hk)
  have HA := Lib.hid ((PAt.refl w' pv).trans (by simp [World.setCell]) ha)
  clear hs hk ha
  go_wp2_with fail
  go_ret
  exact ⟨pv', ev, rfl, HS.out, HK.out, HA.out, .inl ⟨rfl, rfl⟩⟩

set_option maxRecDepth 100000 in
set_option maxHeartbeats 2000000 in
theorem st_bv_arr (B b : Nat) (g : Cfg) (y : Int) (pv ev : Value) (w : World) (h : Scn w B b g y pv ev) (hB : B ≤ w.heap.size) (hl : g.ps.length < 10000) :
    Calls Tryz.prog 81 #[.pointer (some ⟨b, 0, none⟩), .int .u8 91] w (SRes w B b g y pv ev (g.push .bve 2, 6)) := by
  obtain ⟨c0, c1, c2, c3, c4, f0, f1, f2, f3, f4⟩ := h.cells
  have hlt := h.lt
  have H := Lib.hid h
  clear h
  have HT := Lib.hid (H.out.to .bve)
  go_enter Tryz.func81, Tryz.ntmps81
  go_wp2_with fail
  refine (space_no 91 (by decide) _).mono ?_
  rintro e w' ⟨rfl, rfl⟩
  go_wp2_with fail
  refine (push_any B b (g.to .bve) y pv ev _ 6 2 _ HT.out (by simp [World.setCell]; omega) hl).mono ?_
  rintro e w1 ⟨pv', rfl, hs, hk, ha⟩
  have HS := Lib.hid hs
  have HK := Lib.hid (((SK.refl w' b pv).set 0 (stV .bve)).trans (PAt.refl _ _) hk)
  have HA := Lib.hid ((PAt.refl w' pv).trans (by simp [World.setCell]) ha)
  clear hs hk ha
  go_wp2_with fail
  go_ret
  exact ⟨pv', ev, rfl, HS.out, HK.out, HA.out, .inl ⟨rfl, rfl⟩⟩

set_option maxRecDepth 100000 in
set_option maxHeartbeats 2000000 in
theorem st_bv_str (B b : Nat) (g : Cfg) (y : Int) (pv ev : Value) (w : World) (h : Scn w B b g y pv ev) :
    Calls Tryz.prog 81 #[.pointer (some ⟨b, 0, none⟩), .int .u8 34] w (SRes w B b g y pv ev (g.to .str, 1)) := by
  obtain ⟨c0, c1, c2, c3, c4, f0, f1, f2, f3, f4⟩ := h.cells
  have hlt := h.lt
  have H := Lib.hid h
  clear h
  go_enter Tryz.func81, Tryz.ntmps81
  go_wp2_with fail
  refine (space_no 34 (by decide) _).mono ?_
  rintro e w' ⟨rfl, rfl⟩
  go_wp2_with fail
  go_ret
  exact SRes.went H.out .str

set_option maxRecDepth 100000 in
set_option maxHeartbeats 2000000 in
theorem st_bv_neg (B b : Nat) (g : Cfg) (y : Int) (pv ev : Value) (w : World) (h : Scn w B b g y pv ev) :
    Calls Tryz.prog 81 #[.pointer (some ⟨b, 0, none⟩), .int .u8 45] w (SRes w B b g y pv ev (g.to .neg, 1)) := by
  obtain ⟨c0, c1, c2, c3, c4, f0, f1, f2, f3, f4⟩ := h.cells
  have hlt := h.lt
  have H := Lib.hid h
  clear h
  go_enter Tryz.func81, Tryz.ntmps81
  go_wp2_with fail
  refine (space_no 45 (by decide) _).mono ?_
  rintro e w' ⟨rfl, rfl⟩
  go_wp2_with fail
  go_ret
  exact SRes.went H.out .neg

set_option maxRecDepth 100000 in
set_option maxHeartbeats 2000000 in
theorem st_bv_s0 (B b : Nat) (g : Cfg) (y : Int) (pv ev : Value) (w : World) (h : Scn w B b g y pv ev) :
    Calls Tryz.prog 81 #[.pointer (some ⟨b, 0, none⟩), .int .u8 48] w (SRes w B b g y pv ev (g.to .s0, 1)) := by
  obtain ⟨c0, c1, c2, c3, c4, f0, f1, f2, f3, f4⟩ := h.cells
  have hlt := h.lt
  have H := Lib.hid h
  clear h
  go_enter Tryz.func81, Tryz.ntmps81
  go_wp2_with fail
  refine (space_no 48 (by decide) _).mono ?_
  rintro e w' ⟨rfl, rfl⟩
  go_wp2_with fail
  go_ret
  exact SRes.went H.out .s0

set_option maxRecDepth 100000 in
set_option maxHeartbeats 2000000 in
theorem st_bv_t (B b : Nat) (g : Cfg) (y : Int) (pv ev : Value) (w : World) (h : Scn w B b g y pv ev) :
    Calls Tryz.prog 81 #[.pointer (some ⟨b, 0, none⟩), .int .u8 116] w (SRes w B b g y pv ev (g.to .t, 1)) := by
  obtain ⟨c0, c1, c2, c3, c4, f0, f1, f2, f3, f4⟩ := h.cells
  have hlt := h.lt
  have H := Lib.hid h
  clear h
  go_enter Tryz.func81, Tryz.ntmps81
  go_wp2_with fail
  refine (space_no 116 (by decide) _).mono ?_
  rintro e w' ⟨rfl, rfl⟩
  go_wp2_with fail
  go_ret
  exact SRes.went H.out .t

set_option maxRecDepth 100000 in
set_option maxHeartbeats 2000000 in
theorem st_bv_f (B b : Nat) (g : Cfg) (y : Int) (pv ev : Value) (w : World) (h : Scn w B b g y pv ev) :
    Calls Tryz.prog 81 #[.pointer (some ⟨b, 0, none⟩), .int .u8 102] w (SRes w B b g y pv ev (g.to .f, 1)) := by
  obtain ⟨c0, c1, c2, c3, c4, f0, f1, f2, f3, f4⟩ := h.cells
  have hlt := h.lt
  have H := Lib.hid h
  clear h
  go_enter Tryz.func81, Tryz.ntmps81
  go_wp2_with fail
  refine (space_no 102 (by decide) _).mono ?_
  rintro e w' ⟨rfl, rfl⟩
  go_wp2_with fail
  go_ret
  exact SRes.went H.out .f

set_option maxRecDepth 100000 in
set_option maxHeartbeats 2000000 in
theorem st_bv_n (B b : Nat) (g : Cfg) (y : Int) (pv ev : Value) (w : World) (h : Scn w B b g y pv ev) :
    Calls Tryz.prog 81 #[.pointer (some ⟨b, 0, none⟩), .int .u8 110] w (SRes w B b g y pv ev (g.to .n, 1)) := by
  obtain ⟨c0, c1, c2, c3, c4, f0, f1, f2, f3, f4⟩ := h.cells
  have hlt := h.lt
  have H := Lib.hid h
  clear h
  go_enter Tryz.func81, Tryz.ntmps81
  go_wp2_with fail
  refine (space_no 110 (by decide) _).mono ?_
  rintro e w' ⟨rfl, rfl⟩
  go_wp2_with fail
  go_ret
  exact SRes.went H.out .n

set_option maxRecDepth 100000 in
set_option maxHeartbeats 2000000 in
theorem st_bv (B b : Nat) (g : Cfg) (y : Int) (pv ev : Value) (c : Nat) (w : World) (h : Scn w B b g y pv ev) (hB : B ≤ w.heap.size) (hl : g.ps.length < 10000) :
    Calls Tryz.prog 81 #[.pointer (some ⟨b, 0, none⟩), .int .u8 (c : Int)] w (SRes w B b g y pv ev (stepBv g y c)) := by
  unfold stepBv
  by_cases hsp : isSp c
  · rw [if_pos hsp]
    have H := Lib.hid h
    have hlt := h.lt
    clear h
    go_enter Tryz.func81, Tryz.ntmps81
    go_wp2_with fail
    refine (space_yes c hsp _).mono ?_
    rintro e w' ⟨rfl, rfl⟩
    go_wp2_with fail
    go_ret
    exact SRes.same H.out
  rw [if_neg hsp]
  by_cases q123 : c = 123
  · rw [if_pos q123]
    subst q123
    exact st_bv_obj B b g y pv ev w h hB hl
  rw [if_neg q123]
  by_cases q91 : c = 91
  · rw [if_pos q91]
    subst q91
    exact st_bv_arr B b g y pv ev w h hB hl
  rw [if_neg q91]
  by_cases q34 : c = 34
  · rw [if_pos q34]
    subst q34
    exact st_bv_str B b g y pv ev w h
  rw [if_neg q34]
  by_cases q45 : c = 45
  · rw [if_pos q45]
    subst q45
    exact st_bv_neg B b g y pv ev w h
  rw [if_neg q45]
  by_cases q48 : c = 48
  · rw [if_pos q48]
    subst q48
    exact st_bv_s0 B b g y pv ev w h
  rw [if_neg q48]
  by_cases q116 : c = 116
  · rw [if_pos q116]
    subst q116
    exact st_bv_t B b g y pv ev w h
  rw [if_neg q116]
  by_cases q102 : c = 102
  · rw [if_pos q102]
    subst q102
    exact st_bv_f B b g y pv ev w h
  rw [if_neg q102]
  by_cases q110 : c = 110
  · rw [if_pos q110]
    subst q110
    exact st_bv_n B b g y pv ev w h
  rw [if_neg q110]
  have n123 : ((c : Int) == 123) = false := by rw [beq_eq_false_iff_ne]; omega
  have n91 : ((c : Int) == 91) = false := by rw [beq_eq_false_iff_ne]; omega
  have n34 : ((c : Int) == 34) = false := by rw [beq_eq_false_iff_ne]; omega
  have n45 : ((c : Int) == 45) = false := by rw [beq_eq_false_iff_ne]; omega
  have n48 : ((c : Int) == 48) = false := by rw [beq_eq_false_iff_ne]; omega
  have n116 : ((c : Int) == 116) = false := by rw [beq_eq_false_iff_ne]; omega
  have n102 : ((c : Int) == 102) = false := by rw [beq_eq_false_iff_ne]; omega
  have n110 : ((c : Int) == 110) = false := by rw [beq_eq_false_iff_ne]; omega
  have HSP := Lib.hid hsp
  clear hsp hB hl q123 q91 q34 q45 q48 q116 q102 q110
  obtain ⟨c0, c1, c2, c3, c4, f0, f1, f2, f3, f4⟩ := h.cells
  have hlt := h.lt
  have H := Lib.hid h
  clear h
  by_cases hq : 49 ≤ c ∧ c ≤ 57
  · rw [if_pos hq]
    have q1 : (49 : Int) ≤ c := by omega
    have q2 : (c : Int) ≤ 57 := by omega
    clear hq
    go_enter Tryz.func81, Tryz.ntmps81
    go_wp2_with fail
    refine (space_no c HSP.out _).mono ?_
    rintro e w' ⟨rfl, rfl⟩
    go_wp2_with fail
    go_ret
    exact SRes.went H.out .s1
  · rw [if_neg hq]
    have q : ¬ (49 : Int) ≤ c ∨ ((49 : Int) ≤ c ∧ ¬ (c : Int) ≤ 57) := by omega
    clear hq
    rcases q with q | ⟨q, q'⟩
    all_goals
      go_enter Tryz.func81, Tryz.ntmps81
      go_wp2_with fail
      refine (space_no c HSP.out _).mono ?_
      rintro e w' ⟨rfl, rfl⟩
      go_wp2_with fail
      refine (error_any B b g y _ ev _ _ (by decide) _ H.out).mono ?_
      intro e w' hr
      obtain ⟨k, rfl, hr⟩ := hr.handed
      have HR := Lib.hid hr
      clear hr
      go_wp2_with fail
      go_ret
      exact HR.out

set_option maxRecDepth 100000 in
set_option maxHeartbeats 2000000 in
theorem st_bve (B b : Nat) (g : Cfg) (y : Int) (pv ev : Value) (c : Nat) (w : World) (h : Scn w B b g y pv ev) (hB : B ≤ w.heap.size) (hl : g.ps.length < 10000) :
    Calls Tryz.prog 100 #[.pointer (some ⟨b, 0, none⟩), .int .u8 (c : Int)] w (SRes w B b g y pv ev (stepBve g y c)) := by
  obtain ⟨c0, c1, c2, c3, c4, f0, f1, f2, f3, f4⟩ := h.cells
  have hlt := h.lt
  have H := Lib.hid h
  clear h
  by_cases hsp : isSp c
  · have hs : stepBve g y c = (g, 9) := if_pos hsp
    rw [hs]
    clear hs
    go_enter Tryz.func100, Tryz.ntmps100
    go_wp2_with fail
    refine (space_yes c hsp _).mono ?_
    rintro e w' ⟨rfl, rfl⟩
    go_wp2_with fail
    go_ret
    exact SRes.same H.out
  by_cases hq : c = 93
  · have hs : stepBve g y c = stepEv g y c := by unfold stepBve; rw [if_neg hsp]; exact if_pos hq
    rw [hs]
    have HSP := Lib.hid hsp
    clear hs hsp
    subst hq
    go_enter Tryz.func100, Tryz.ntmps100
    go_wp2_with fail
    refine (space_no 93 HSP.out _).mono ?_
    rintro e w' ⟨rfl, rfl⟩
    go_wp2_with fail
    refine (st_ev B b g y pv ev 93 _ H.out).mono ?_
    intro e w' hr
    obtain ⟨k, rfl, hr⟩ := hr.handed
    have HR := Lib.hid hr
    clear hr
    go_wp2_with fail
    go_ret
    exact HR.out
  · have hs : stepBve g y c = stepBv g y c := by unfold stepBve; rw [if_neg hsp]; exact if_neg hq
    rw [hs]
    have HSP := Lib.hid hsp
    have HL := Lib.hid hl
    clear hs hsp hl
    have n93 : ((c : Int) == 93) = false := by rw [beq_eq_false_iff_ne]; omega
    go_enter Tryz.func100, Tryz.ntmps100
    go_wp2_with fail
    refine (space_no c HSP.out _).mono ?_
    rintro e w' ⟨rfl, rfl⟩
    go_wp2_with fail
    refine (st_bv B b g y pv ev c _ H.out hB HL.out).mono ?_
    intro e w' hr
    obtain ⟨k, rfl, hr⟩ := hr.handed
    have HR := Lib.hid hr
    clear hr
    go_wp2_with fail
    go_ret
    exact HR.out

/-- A step of the scanner, whatever its state. -/
theorem step_any (B b : Nat) (g : Cfg) (y : Int) (pv ev : Value) (c : Nat) (w : World) (h : Scn w B b g y pv ev) (hB : B ≤ w.heap.size) (hl : g.ps.length < 10000) (hw : g.st = .bse → g.ps ≠ []) :
    Calls Tryz.prog (stN g.st) #[.pointer (some ⟨b, 0, none⟩), .int .u8 (c : Int)] w (SRes w B b g y pv ev (stepC g y c)) := by
  unfold stepC
  cases hs : g.st with
  | bve => exact st_bve B b g y pv ev c w h hB hl
  | bv => exact st_bv B b g y pv ev c w h hB hl
  | bse => exact st_bse B b g y pv ev c w h (hw hs)
  | bs => exact st_bs B b g y pv ev c w h
  | ev => exact st_ev B b g y pv ev c w h
  | et => exact st_et B b g y pv ev c w h
  | str => exact st_str B b g y pv ev c w h
  | esc => exact st_esc B b g y pv ev c w h
  | u0 => exact st_u0 B b g y pv ev c w h
  | u1 => exact st_u1 B b g y pv ev c w h
  | u2 => exact st_u2 B b g y pv ev c w h
  | u3 => exact st_u3 B b g y pv ev c w h
  | neg => exact st_neg B b g y pv ev c w h
  | s1 => exact st_s1 B b g y pv ev c w h
  | s0 => exact st_s0 B b g y pv ev c w h
  | dot => exact st_dot B b g y pv ev c w h
  | dot0 => exact st_dot0 B b g y pv ev c w h
  | e => exact st_e B b g y pv ev c w h
  | esign => exact st_esign B b g y pv ev c w h
  | e0 => exact st_e0 B b g y pv ev c w h
  | t => exact st_t B b g y pv ev c w h
  | tr => exact st_tr B b g y pv ev c w h
  | tru => exact st_tru B b g y pv ev c w h
  | f => exact st_f B b g y pv ev c w h
  | fa => exact st_fa B b g y pv ev c w h
  | fal => exact st_fal B b g y pv ev c w h
  | fals => exact st_fals B b g y pv ev c w h
  | n => exact st_n B b g y pv ev c w h
  | nu => exact st_nu B b g y pv ev c w h
  | nul => exact st_nul B b g y pv ev c w h
  | err => exact st_err B b g y pv ev c w h

/-- A call of a function that has a body. -/
theorem enter_of {P : Program} {f : FuncId} {fn : Func} (hf : P.funcs[f]? = some fn) (hname : (fn.name == "runtime.NumGoroutine") = false) (hb : fn.body.isSome = true) (args : Array Value) (w : World) :
    (callFunc f args).run P w = .ok (.enter f args) w := by
  have h1 : fn.name ≠ "runtime.NumGoroutine" := by simpa using hname
  obtain ⟨c, hc⟩ := Option.isSome_iff_exists.1 hb
  simp [callFunc, hf, h1, hc]

/-- The call of a state's function. -/
theorem run_st (s : St) (args : Array Value) (w : World) : (callFunc (stN s) args).run Tryz.prog w = .ok (.enter (stN s) args) w := by
  cases s with
  | bve => exact enter_of Tryz.func100 (by kernel_rfl) (by kernel_rfl) args w
  | bv => exact enter_of Tryz.func81 (by kernel_rfl) (by kernel_rfl) args w
  | bse => exact enter_of Tryz.func98 (by kernel_rfl) (by kernel_rfl) args w
  | bs => exact enter_of Tryz.func111 (by kernel_rfl) (by kernel_rfl) args w
  | ev => exact enter_of Tryz.func110 (by kernel_rfl) (by kernel_rfl) args w
  | et => exact enter_of Tryz.func119 (by kernel_rfl) (by kernel_rfl) args w
  | str => exact enter_of Tryz.func101 (by kernel_rfl) (by kernel_rfl) args w
  | esc => exact enter_of Tryz.func112 (by kernel_rfl) (by kernel_rfl) args w
  | u0 => exact enter_of Tryz.func121 (by kernel_rfl) (by kernel_rfl) args w
  | u1 => exact enter_of Tryz.func127 (by kernel_rfl) (by kernel_rfl) args w
  | u2 => exact enter_of Tryz.func130 (by kernel_rfl) (by kernel_rfl) args w
  | u3 => exact enter_of Tryz.func131 (by kernel_rfl) (by kernel_rfl) args w
  | neg => exact enter_of Tryz.func102 (by kernel_rfl) (by kernel_rfl) args w
  | s1 => exact enter_of Tryz.func107 (by kernel_rfl) (by kernel_rfl) args w
  | s0 => exact enter_of Tryz.func103 (by kernel_rfl) (by kernel_rfl) args w
  | dot => exact enter_of Tryz.func113 (by kernel_rfl) (by kernel_rfl) args w
  | dot0 => exact enter_of Tryz.func122 (by kernel_rfl) (by kernel_rfl) args w
  | e => exact enter_of Tryz.func114 (by kernel_rfl) (by kernel_rfl) args w
  | esign => exact enter_of Tryz.func123 (by kernel_rfl) (by kernel_rfl) args w
  | e0 => exact enter_of Tryz.func128 (by kernel_rfl) (by kernel_rfl) args w
  | t => exact enter_of Tryz.func104 (by kernel_rfl) (by kernel_rfl) args w
  | tr => exact enter_of Tryz.func115 (by kernel_rfl) (by kernel_rfl) args w
  | tru => exact enter_of Tryz.func124 (by kernel_rfl) (by kernel_rfl) args w
  | f => exact enter_of Tryz.func105 (by kernel_rfl) (by kernel_rfl) args w
  | fa => exact enter_of Tryz.func116 (by kernel_rfl) (by kernel_rfl) args w
  | fal => exact enter_of Tryz.func125 (by kernel_rfl) (by kernel_rfl) args w
  | fals => exact enter_of Tryz.func129 (by kernel_rfl) (by kernel_rfl) args w
  | n => exact enter_of Tryz.func106 (by kernel_rfl) (by kernel_rfl) args w
  | nu => exact enter_of Tryz.func117 (by kernel_rfl) (by kernel_rfl) args w
  | nul => exact enter_of Tryz.func126 (by kernel_rfl) (by kernel_rfl) args w
  | err => exact enter_of Tryz.func118 (by kernel_rfl) (by kernel_rfl) args w

end Go.Proofs.YtlgmdcaoogiooaaGreatDoor
