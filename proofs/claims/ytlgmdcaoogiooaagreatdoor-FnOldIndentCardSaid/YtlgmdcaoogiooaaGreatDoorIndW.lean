/- The walk of encoding/json's 'appendIndent'. -/
import Derived.Test.YtlgmdcaoogiooaaGreatDoorZzS
import Derived.Test.YtlgmdcaoogiooaaGreatDoorNlW
import Derived.Defers
import Derived.Shelf.Abstract
import Derived.Deep.CutBlock
import Derived.Deep.CutRange
namespace Go.Proofs.YtlgmdcaoogiooaaGreatDoor.Ind
open Go.RowKit Go.Proofs.YtlgmdcaoogiooaaGreatDoor

/-- The scanner's error, apart from the row that is written. -/
def ErB (w : World) (b : Nat) (pv v ev : Value) (er : Option Int) : Prop :=
  (er = none → ev = .nilIface) ∧ ∀ y, er = some y → ∃ q t z, ev = .iface 74 (.pointer (some ⟨q, 0, none⟩)) ∧ b ≤ q ∧ q ≠ b ∧ pv.ownBlock ≠ some q ∧ (∀ a, baseOf v = some a → a.block ≠ q) ∧ w.heap[q]? = some (.cells #[.string t, .int .i64 z] 78 (0, 0))

theorem ErB.is {w : World} {b : Nat} {pv v ev : Value} {er : Option Int} (h : ErB w b pv v ev er) : EvIs er ev :=
  ⟨h.1, fun e => by
    obtain ⟨y, hy⟩ := Option.ne_none_iff_exists'.1 e
    obtain ⟨q, t, z, hq, _⟩ := h.2 y hy
    exact ⟨_, _, hq⟩⟩

theorem ErB.bytes {w : World} {b : Nat} {pv v ev : Value} {er : Option Int} (h : ErB w b pv v ev er) (x : Value) : ErB (w.setCell ⟨b, 4, none⟩ x) b pv v ev er :=
  ⟨h.1, fun y hy => by
    obtain ⟨q, t, z, h1, h2, h3, h4, h5, h6⟩ := h.2 y hy
    exact ⟨q, t, z, h1, h2, h3, h4, h5, (Below.heap_setCell w _ _ q h3).trans h6⟩⟩

theorem ErB.alloc {w : World} {b : Nat} {pv v ev : Value} {er : Option Int} (h : ErB w b pv v ev er) (o : Obj) : ErB (w.alloc o) b pv v ev er :=
  ⟨h.1, fun y hy => by
    obtain ⟨q, t, z, h1, h2, h3, h4, h5, h6⟩ := h.2 y hy
    exact ⟨q, t, z, h1, h2, h3, h4, h5, (Below.heap_alloc w o q (Array.getElem?_eq_some_iff.1 h6).1).trans h6⟩⟩

theorem ErB.step {w w' : World} {b : Nat} {er er' : Option Int} {pv v ev pv' ev' : Value} {y : Int} (h : ErB w b pv v ev er) (hb : b < w.heap.size) (hv : ∀ a, baseOf v = some a → a.block < w.heap.size) (hk : SK w w' b pv) (ha : PAt w pv pv') (k : (ev' = ev ∧ er' = er) ∨ (er' = some y ∧ ErrAt w w' pv' ev' y)) : ErB w' b pv' v ev' er' := by
  rcases k with ⟨rfl, e⟩ | ⟨e, ⟨q, t, h1, h2, h3, h4⟩⟩
  · rw [e]
    refine ⟨h.1, fun z hz => ?_⟩
    obtain ⟨q, t, z, h1, h2, h3, h4, h5, h6⟩ := h.2 z hz
    have hq : q < w.heap.size := (Array.getElem?_eq_some_iff.1 h6).1
    refine ⟨q, t, z, h1, h2, h3, fun hp => ?_, h5, (hk.block q hq h3 (fun x => h4 x.symm)).trans h6⟩
    rcases ha with p | p
    · exact h4 (p ▸ hp)
    · have := p q hp
      omega
  · rw [e]
    refine ⟨fun x => (by cases x), fun z hz => ?_⟩
    cases hz
    exact ⟨q, t, y, h1, by omega, by omega, h4, fun a ha => by have := hv a ha; omega, h3⟩

theorem ErB.wrote {w w' : World} {b : Nat} {er : Option Int} {pv v ev v' : Value} {l : List UInt8} (h : ErB w b pv v ev er) (k : AppL w v w' v' l) : ErB w' b pv v' ev er :=
  ⟨h.1, fun y hy => by
    obtain ⟨q, t, z, h1, h2, h3, h4, h5, h6⟩ := h.2 y hy
    have hq : q < w.heap.size := (Array.getElem?_eq_some_iff.1 h6).1
    refine ⟨q, t, z, h1, h2, h3, h4, fun a ha => ?_, (k.kept.block q hq h5).trans h6⟩
    rcases k.pos with p | p
    · exact h5 a (p ▸ ha)
    · have := p a ha
      omega⟩

/-- The scanner and the row that is written. -/
structure IC (w0 w : World) (b : Nat) (g : Cfg) (y : Int) (pv ev v0 v : Value) (out : List UInt8) : Prop where
  scn : Scn w b b g y pv ev
  app : AppL w0 v0 w v out
  big : w0.heap.size ≤ b
  nb : ∀ a, baseOf v = some a → a.block ≠ b ∧ pv.ownBlock ≠ some a.block
  er : ErB w b pv v ev g.er

theorem IC.bytes {w0 w : World} {b : Nat} {g : Cfg} {y : Int} {pv ev v0 v : Value} {out : List UInt8} (h : IC w0 w b g y pv ev v0 v out) (y' : Int) : IC w0 (w.setCell ⟨b, 4, none⟩ (.int .i64 y')) b g y' pv ev v0 v out := by
  have hh : ∀ k, k ≠ b → (w.setCell ⟨b, 4, none⟩ (.int .i64 y')).heap[k]? = w.heap[k]? := fun k hk => Below.heap_setCell w ⟨b, 4, none⟩ _ k hk
  have hz : (w.setCell ⟨b, 4, none⟩ (.int .i64 y')).heap.size = w.heap.size := by simp [World.setCell]
  have hb := h.big
  refine ⟨h.scn.bytes y', ⟨⟨h.app.own.of_heap (by rw [hz]; exact Nat.le_refl _) (fun k _ hk => hh k ?_), ⟨h.app.kept.os, h.app.kept.tape, h.app.kept.output, by rw [hz]; exact h.app.kept.size, fun k hk hne => (hh k (by omega)).trans (h.app.kept.block k hk hne), fun a ha hlt o ho => (cell_of_heap (hh a.block (by omega)) o).trans (h.app.kept.low a ha hlt o ho)⟩, h.app.pos⟩, fun a ha hlt o => by have h1 := h.app.live a ha hlt o; have h2 := live_heap (hh a.block (by omega)) o; exact ⟨fun e => h2.1 (h1.1 e), h2.2.trans h1.2⟩⟩, h.big, h.nb, h.er.bytes _⟩
  rcases hk with hk | ⟨o, hk⟩
  · exact (h.nb _ hk).1
  · exact (h.nb _ hk).1

/-- A step of the scanner leaves the row. -/
theorem IC.stepped {w0 w w' : World} {b : Nat} {g g' : Cfg} {y y' : Int} {pv ev pv' ev' v0 v : Value} {out : List UInt8} (h : IC w0 w b g y pv ev v0 v out) {ye : Int} (hs : Scn w' b b g' y' pv' ev') (hk : SK w w' b pv) (ha : PAt w pv pv') (hx : (ev' = ev ∧ g'.er = g.er) ∨ (g'.er = some ye ∧ ErrAt w w' pv' ev' ye)) : IC w0 w' b g' y' pv' ev' v0 v out := by
  have hb := h.big
  have hp : ∀ k, pv.ownBlock = some k → b ≤ k ∧ k < w.heap.size := fun k e => h.scn.own.lt _ e
  refine ⟨hs, ⟨⟨h.app.own.of_heap hk.size (fun k hk1 hk2 => hk.block k hk1 ?_ (fun e => ?_)), ⟨hk.os.trans h.app.kept.os, hk.tape.trans h.app.kept.tape, hk.output.trans h.app.kept.output, Nat.le_trans h.app.kept.size hk.size, fun k hk1 hne => (hk.block k (Nat.lt_of_lt_of_le hk1 h.app.kept.size) (by omega) (fun e => by have := (hp k e.symm).1; omega)).trans (h.app.kept.block k hk1 hne), fun a ha2 hlt o ho => (cell_of_heap (hk.block a.block (Nat.lt_of_lt_of_le hlt h.app.kept.size) (by omega) (fun e => by have := (hp _ e.symm).1; omega)) o).trans (h.app.kept.low a ha2 hlt o ho)⟩, h.app.pos⟩, fun a ha hlt o => by have h1 := h.app.live a ha hlt o; have h2 := live_heap (hk.block a.block (Nat.lt_of_lt_of_le hlt h.app.kept.size) (by omega) (fun e => by have := (hp _ e.symm).1; omega)) o; exact ⟨fun e => h2.1 (h1.1 e), h2.2.trans h1.2⟩⟩, h.big, fun a ha2 => ⟨(h.nb a ha2).1, fun e => ?_⟩, h.er.step h.scn.lt h.app.own.lt hk ha hx⟩
  · rcases hk2 with hk2 | ⟨o, hk2⟩
    · exact (h.nb _ hk2).1
    · exact (h.nb _ hk2).1
  · rcases hk2 with hk2 | ⟨o, hk2⟩
    · exact (h.nb _ hk2).2 e.symm
    · exact (h.nb _ hk2).2 e.symm
  · rcases ha with q | q
    · exact (h.nb a ha2).2 (q ▸ e)
    · have := q _ e
      have := h.app.own.lt a ha2
      omega

/-- Appending leaves the scanner. -/
theorem IC.wrote {w0 w w' : World} {b : Nat} {g : Cfg} {y : Int} {pv ev v0 v v' : Value} {out out' : List UInt8} (h : IC w0 w b g y pv ev v0 v out) (k : AppL w v w' v' out') : IC w0 w' b g y pv ev v0 v' out' := by
  have hp : ∀ k, pv.ownBlock = some k → b ≤ k ∧ k < w.heap.size := fun k e => h.scn.own.lt _ e
  refine ⟨⟨(k.kept.block b h.scn.lt (fun a ha => (h.nb a ha).1)).trans h.scn.row, own_heap h.scn.own (fun q hq => k.kept.block q (hp q hq).2 (fun a ha e => (h.nb a ha).2 (by rw [hq, e]))), h.scn.ne⟩, h.app.trans k, h.big, fun a ha => ?_, h.er.wrote k⟩
  rcases k.pos with q | q
  · exact h.nb a (q ▸ ha)
  · have h1 := q a ha
    have := h.scn.lt
    exact ⟨by omega, fun e => by have := (hp _ e).2; omega⟩

theorem IC.alloc {w0 w : World} {b : Nat} {g : Cfg} {y : Int} {pv ev v0 v : Value} {out : List UInt8} (h : IC w0 w b g y pv ev v0 v out) (o : Obj) : IC w0 (w.alloc o) b g y pv ev v0 v out :=
  ⟨h.scn.alloc o, h.app.alloc o, h.big, h.nb, h.er.alloc o⟩

/-- Between two bytes. -/
structure II (w0 w : World) (b : Nat) (p i l : List UInt8) (k : Nat) (g : Cfg) (pv ev v0 v : Value) (s : IS) : Prop where
  ic : IC w0 w b g (k : Int) pv ev v0 v s.out
  wf : WF g
  ps : g.ps.length ≤ k
  bnd : Bnd k s
  zero : k = 0 → Below w0.heap.size w0 w
  er : (scanAll newCfg 0 l).2 = (scanAll g k (l.drop k)).2
  all : indAll p i newCfg 0 ⟨false, 0, []⟩ l = indAll p i g k s (l.drop k)

theorem II.bse {w0 w : World} {b : Nat} {p i l : List UInt8} {k : Nat} {g : Cfg} {pv ev v0 v : Value} {s : IS} (h : II w0 w b p i l k g pv ev v0 v s) : g.st = .bse → g.ps ≠ [] := fun e q => by
  obtain ⟨i, hi⟩ := h.wf.bse e
  rw [q] at hi
  simp at hi

theorem scanAll_bad2 {g : Cfg} {n : Nat} {c : UInt8} {t : List UInt8} {g1 : Cfg} (h : stepC g ((n : Int) + 1) c.toNat = (g1, 11)) : scanAll g n (c :: t) = ([11], g1) := by
  have e : (((n + 1 : Nat)) : Int) = (n : Int) + 1 := by omega
  show (if (stepC g ((n + 1 : Nat) : Int) c.toNat).2 = 11 then _ else _) = _
  rw [e, h]
  rfl

theorem scanAll_on2 {g : Cfg} {n : Nat} {c : UInt8} {t : List UInt8} {g1 : Cfg} {k : Nat} (h : stepC g ((n : Int) + 1) c.toNat = (g1, k)) (hk : k ≠ 11) : (scanAll g n (c :: t)).2 = (scanAll g1 (n + 1) t).2 := by
  have e : (((n + 1 : Nat)) : Int) = (n : Int) + 1 := by omega
  show (if (stepC g ((n + 1 : Nat) : Int) c.toNat).2 = 11 then _ else _ : List Nat × Cfg).2 = _
  rw [e, h]
  rw [if_neg hk]

/-- A byte further. -/
theorem II.next {w0 w w' : World} {b : Nat} {p i l : List UInt8} {k : Nat} {g g1 : Cfg} {pv ev pv1 ev1 v0 v v1 : Value} {s s1 : IS} {kk : Nat} (h : II w0 w b p i l k g pv ev v0 v s) (hp : p.length ≤ 16) (hi : i.length ≤ 16) (hl : l.length ≤ 1000) (hk : k < l.length) (hr : stepC g ((k : Int) + 1) (l[k]'hk).toNat = (g1, kk)) (h11 : kk ≠ 11)
    (hs1 : indStep p i s (l[k]'hk).toNat kk = s1) (hs : IC w0 w' b g1 ((k : Int) + 1) pv1 ev1 v0 v1 s1.out) : II w0 w' b p i l (k + 1) g1 pv1 ev1 v0 v1 s1 := by
  subst hs1
  have hd := did_step h.wf ((k : Int) + 1) (l[k]'hk).toNat
  rw [hr] at hd
  refine ⟨?_, hd.wf, ?_, indStep_bnd hp hi (by omega) h.bnd, fun e => absurd e (Nat.succ_ne_zero k), ?_, ?_⟩
  · have e : (((k + 1 : Nat)) : Int) = (k : Int) + 1 := by omega
    rw [e]; exact hs
  · have := hd.len
    have := h.ps
    simp only at *
    omega
  · rw [h.er, List.drop_eq_getElem_cons hk, scanAll_on2 hr h11]
  · rw [h.all, List.drop_eq_getElem_cons hk, indAll_on hr h11]

/-- What 'appendIndent' leaves. -/
structure IRes (w : World) (v0 : Value) (p i l : List UInt8) (e : Ending) (w' : World) : Prop where
  what : ∃ v' ev, e = .returned (.tuple #[v', ev]) ∧ ErB w' w.heap.size (.slice none 0 0) v' ev (scanAll newCfg 0 l).2.er ∧ (l = [] → Below w.heap.size w w') ∧ ∃ out, AppL w v0 w' v' out ∧ out.length ≤ 40050000 ∧ ((scanAll newCfg 0 l).2.er = none → out = (indAll p i newCfg 0 ⟨false, 0, []⟩ l).out)

theorem eofP_len {g : Cfg} (h : WF g) (y : Int) : (eofP g y).1.ps.length ≤ g.ps.length + 1 := by
  have hd := (did_step h y 32).len
  unfold eofP
  split
  · exact Nat.le_succ _
  split
  · exact Nat.le_succ _
  split
  · exact hd
  split
  · exact hd
  · exact hd

theorem AppL.drewN' {w0 w : World} {v0 v : Value} {l : List UInt8} (h : AppL w0 v0 w v l) (k : Nat) : AppL w0 v0 (w.drewN k) v l :=
  ⟨⟨h.own.of_heap (Nat.le_refl _) (fun _ _ _ => rfl), ⟨h.kept.os, h.kept.tape, h.kept.output, h.kept.size, h.kept.block, h.kept.low⟩, h.pos⟩, h.live⟩

theorem IC.drewN {w0 w : World} {b : Nat} {g : Cfg} {y : Int} {pv ev v0 v : Value} {out : List UInt8} (h : IC w0 w b g y pv ev v0 v out) (k : Nat) : IC w0 (w.drewN k) b g y pv ev v0 v out :=
  ⟨⟨h.scn.row, own_heap h.scn.own (fun _ _ => rfl), h.scn.ne⟩, AppL.drewN' h.app k, h.big, h.nb, h.er⟩

theorem Own.none' {w : World} {a : Option Addr} {n cap : Nat} {l : List UInt8} (h : Own w (.slice a n cap) l) : Own w (.slice a 0 cap) [] := by
  rcases h with ⟨h1, _⟩ | ⟨g, off, c, h1, h2, h3, h4, h5, h6⟩
  · cases h1
    exact .inl ⟨rfl, rfl⟩
  · cases h1
    exact .inr ⟨g, off, cap, rfl, Nat.zero_le _, h3, h4, fun j hj => (by simp at hj), h6⟩

theorem ErB.free {w : World} {b : Nat} {pv v v' ev : Value} {er : Option Int} (h : ErB w b pv v ev er) (hv : baseOf v' = baseOf v) : ErB w b (.slice none 0 0) v' ev er :=
  ⟨h.1, fun y hy => by
    obtain ⟨q, t, z, h1, h2, h3, h4, h5, h6⟩ := h.2 y hy
    exact ⟨q, t, z, h1, h2, h3, by simp [Value.ownBlock], fun a ha => h5 a (hv ▸ ha), h6⟩⟩

theorem IRes.bad {w w3 : World} {p i l : List UInt8} {g2 : Cfg} {y : Int} {pv2 ev2 v0 : Value} {va : Option Addr} {n vc : Nat} {out : List UInt8} (h : IC w w3 w.heap.size g2 y pv2 ev2 v0 (.slice va n vc) out) (hs : (scanAll newCfg 0 l).2 = g2) (he : g2.er ≠ none) (hz : l = [] → Below w.heap.size w w3) (k : Nat) :
    IRes w v0 p i l (.returned (.tuple #[.slice va 0 vc, ev2])) (w3.drewN k) := by
  have h := h.drewN k
  exact ⟨_, ev2, rfl, by rw [hs]; exact h.er.free rfl, fun e => ⟨(hz e).os, (hz e).tape, (hz e).output, (hz e).size, (hz e).block⟩, [], ⟨⟨Own.none' h.app.own, h.app.kept, h.app.pos⟩, h.app.live⟩, Nat.zero_le _, fun e => absurd (by rw [← hs]; exact e) he⟩

theorem IRes.good {w w3 : World} {p i l : List UInt8} {g2 : Cfg} {y : Int} {pv2 ev2 v0 v : Value} {out : List UInt8} (h : IC w w3 w.heap.size g2 y pv2 ev2 v0 v out) (hs : (scanAll newCfg 0 l).2 = g2) (he : g2.er = none) (ho : out = (indAll p i newCfg 0 ⟨false, 0, []⟩ l).out) (hz : l = [] → Below w.heap.size w w3) (hlen : out.length ≤ 40050000) :
    IRes w v0 p i l (.returned (.tuple #[v, .nilIface])) w3 :=
  ⟨v, .nilIface, rfl, by rw [hs, he]; exact ⟨fun _ => rfl, fun y hy => (by cases hy)⟩, hz, out, h.app, hlen, fun _ => ho⟩

theorem small40 {k x : Nat} (hk : k ≤ 1000) (h : x ≤ k * 40000 + 17700) : x ≤ 40050000 := by omega

theorem nl_room {p i : List UInt8} {d : Int} {x : List UInt8} (hp : p.length ≤ 16) (hi : i.length ≤ 16) (h : x.length ≤ 40050000) (hd : d ≤ 1100) : (x ++ nlB p i d).length ≤ 40070000 := by
  have := nlB_len (d := d) hp hi hd
  rw [List.length_append]
  omega

theorem byteB (a : Nat) (h : a < 256) : Value.int .u8 (a : Int) = B (UInt8.ofNat a) := by
  unfold B
  rw [UInt8.toNat_ofNat_of_lt' h]

theorem src_one (w : World) (a : Int) (x : UInt8) (h : Value.int .u8 a = B x) : Src Tryz.prog 1 51 (.slice (some ⟨w.heap.size, 0, none⟩) 1 1) [x].length ([x].map B) (w.alloc (.cells #[.int .u8 a] 5)) :=
  src_block u8m (heap_alloc_new w _) [x] (by rw [h]; rfl) 1

theorem src_two (w : World) (a : Int) (x : UInt8) (h : Value.int .u8 a = B x) : Src Tryz.prog 1 51 (.slice (some ⟨w.heap.size, 0, none⟩) 2 2) [x, 32].length ([x, 32].map B) (w.alloc (.cells #[.int .u8 a, .int .u8 32] 5)) :=
  src_block u8m (heap_alloc_new w _) [x, 32] (by rw [h]; rfl) 2

theorem ownsRow_sl {w : World} {B : Nat} {e : TypeId} {size : Nat} {v : Value} {n : Nat} {xs : List Value} (h : w.ownsRow B e size v n xs) : ∃ a c, v = .slice a n c := by
  rcases h.2 with ⟨rfl, rfl⟩ | ⟨g', cap, cur, rfl, hb, hg', _⟩
  · exact ⟨_, _, rfl⟩
  · exact ⟨_, _, rfl⟩

theorem free_deferred (b : Nat) (g : Cfg) (y : Int) (pv ev : Value) (u : FrameMode) (w : World) (h : Scn w b b g y pv ev) (hl : g.ps.length ≤ 1024) :
    CallsD Tryz.prog 43 #[.pointer (some ⟨b, 0, none⟩)] u w fun e u' w' => u' = u ∧ (e = .returned (.tuple #[]) ∧ w' = w) := by
  obtain ⟨c0, c1, c2, c3, c4, f0, f1, f2, f3, f4⟩ := h.cells
  obtain ⟨a, n, hpv⟩ := ownsRow_sl h.own
  subst hpv
  have hlt := h.lt
  clear c0 c1 c3 c4 f0 f1 f3 f4 h
  go_enter_d Tryz.func43, Tryz.ntmps43
  go_wp2
  go_end0
  exact ⟨rfl, rfl⟩

set_option maxRecDepth 100000 in
set_option maxHeartbeats 8000000 in
theorem appendIndent_any (ao : Option Addr) (c0v : Nat) (p i : ByteArray) (l : List UInt8) (b0 n cap : Nat) (w : World) (hn : n = l.length) (hown : Own w (.slice ao 0 c0v) []) (hb : b0 < w.heap.size) (hne : ∀ a, ao = some a → a.block ≠ b0) (hbytes : Bytes w b0 0 l) (hl : l.length ≤ 1000) (hlen : n ≤ cap)
    (hp : p.size ≤ 16) (hi : i.size ≤ 16) :
    Calls Tryz.prog 27 #[.slice ao 0 c0v, .slice (some ⟨b0, 0, none⟩) n cap, .string p, .string i] w (IRes w (.slice ao 0 c0v) p.data.toList i.data.toList l) := by
  obtain ⟨P, hP⟩ : ∃ P, p.data.toList = P := ⟨_, rfl⟩
  obtain ⟨I, hI⟩ : ∃ I, i.data.toList = I := ⟨_, rfl⟩
  have hpl : P.length ≤ 16 := by rw [← hP, size_eq]; exact hp
  have hil : I.length ≤ 16 := by rw [← hI, size_eq]; exact hi
  rw [hP, hI]
  have HP := Lib.hid hP
  have HI := Lib.hid hI
  have HPL := Lib.hid hpl
  have HIL := Lib.hid hil
  have HN := Lib.hid hn
  have HB := Lib.hid hbytes
  have HL := Lib.hid hl
  have HNE := Lib.hid hne
  have H0 := Lib.hid hown
  have hn1 : n ≤ 1000 := by omega
  clear hP hI hpl hil hn hbytes hl hne hown
  go_enter_defers Tryz.func27, Tryz.ntmps27
  go_wp2_with fail
  refine (newScanner_any w).mono ?_
  rintro e w1 ⟨rfl, hrow, hbel⟩
  have HR := Lib.hid hrow
  have HBe := Lib.hid hbel
  clear hrow hbel
  go_wp2_with fail
  go_loopw [0, 12, 13, 23] (fun v ne d j wr => ∃ (k : Nat) (g : Cfg) (pv ev vv : Value) (s : IS), k ≤ n ∧ j = .int .i64 (k : Int) ∧ ne = .bool s.need ∧ d = .int .i64 s.dep ∧ vv = v ∧ II w wr w.heap.size P I l k g pv ev (.slice ao 0 c0v) vv s) (fun _ _ _ j _ => n - (intOf j).toNat)
  case atStart =>
    exact ⟨0, newCfg, .slice none 0 0, .nilIface, _, ⟨false, 0, []⟩, Nat.zero_le _, rfl, rfl, rfl, rfl,
      ⟨⟨Scn.new w.heap.size HR.out, ⟨⟨H0.out.below HBe.out H0.out.lt, ⟨HBe.out.os, HBe.out.tape, HBe.out.output, HBe.out.size, fun q hq _ => HBe.out.block q hq, fun a _ hq o _ => cell_of_heap (HBe.out.block _ hq) o⟩, At.refl _ _⟩, fun a ha hlt o => live_heap (HBe.out.block _ hlt) o⟩, Nat.le_refl _, fun a ha => ⟨by have := H0.out.lt a ha; omega, by simp [Value.ownBlock]⟩, ⟨fun _ => rfl, fun y hy => (by cases hy)⟩⟩,
        ⟨fun e => (by cases e), fun e => (by cases e), fun e => absurd rfl e, fun e => (by cases e)⟩, by simp [newCfg], Bnd.start, fun _ => HBe.out, by simp, by simp⟩⟩
  case round =>
    clear HR HBe
    obtain ⟨k, g, pv, ev, v, s, hk, rfl, rfl, rfl, rfl, hz⟩ := hrel
    have HZ := Lib.hid hz
    obtain ⟨c0, c1, c2, c3, c4, f0, f1, f2, f3, f4⟩ := hz.ic.scn.cells
    unfold stV at c0
    have hlt := hz.ic.scn.lt
    have hps : g.ps.length < 10000 := by have := hz.ps; omega
    have HPs := Lib.hid hps
    clear hz hps
    by_cases hkn : k < n
    · have hkl : k < l.length := HN.out ▸ hkn
      have hc0 := (HB.out.kept HZ.out.ic.app.kept hb (fun a ha => HNE.out a ha)).at0 k hkl
      have hk1 : (k : Int) + 1 ≤ 1001 := by omega
      have hkc : k < cap := by omega
      obtain ⟨a, ha⟩ : ∃ a : Nat, a = (l[k]'hkl).toNat := ⟨_, rfl⟩
      have ha256 : a < 256 := by rw [ha]; exact UInt8.toNat_lt _
      obtain ⟨⟨g1, kk⟩, hr⟩ : ∃ r, stepC g ((k : Int) + 1) a = r := ⟨_, rfl⟩
      rw [← ha] at hc0
      have hr2 : stepC g ((k : Int) + 1) (l[k]'hkl).toNat = (g1, kk) := by rw [← ha]; exact hr
      have HAA := Lib.hid ha
      have HBY := Lib.hid (byteB a ha256)
      have HRR := Lib.hid hr
      have HR2 := Lib.hid hr2
      have hrun := run_st g.st
      clear ha hr hr2
      go_wp2_with fail
      refine (step_any w.heap.size w.heap.size g _ pv ev a _ (HZ.out.ic.bytes _).scn (by have := HZ.out.ic.app.kept.size; simp [World.setCell]; exact this) HPs.out HZ.out.bse).mono ?_
      rw [HRR.out]
      rintro e w2 ⟨pv1, ev1, rfl, hs, hk2, hat, hx⟩
      have HC := Lib.hid ((HZ.out.ic.bytes ((k : Int) + 1)).stepped hs hk2 hat hx)
      have HNX := Lib.hid (fun (v1 : Value) (s1 : IS) (wx : World) (h11 : kk ≠ 11) (hs1 : indStep P I s a kk = s1) (hc : IC w wx w.heap.size g1 ((k : Int) + 1) pv1 ev1 (.slice ao 0 c0v) v1 s1.out) => HZ.out.next HPL.out HIL.out HL.out hkl HR2.out h11 (by rw [← HAA.out]; exact hs1) hc)
      have HDid := Lib.hid (did_step HZ.out.wf ((k : Int) + 1) a)
      clear hs hk2 hat hx c0 c1 c2 c3 c4 f0 f1 f2 f3 f4 hrun
      by_cases h11 : kk = 11
      · subst h11
        have her : g1.er ≠ none := HDid.out.bad (by rw [HRR.out]) ∘ (by rw [HRR.out]; exact id)
        have hall := HZ.out.er
        rw [List.drop_eq_getElem_cons hkl, scanAll_bad2 HR2.out] at hall
        have HA := Lib.hid (show (scanAll newCfg 0 l).2 = g1 from hall)
        have HER := Lib.hid her
        have HEO := Lib.hid (show eofC g1 ((k : Int) + 1) = (g1, 11) from if_pos her)
        have hd := HDid.out
        rw [HRR.out] at hd
        have HPsN := Lib.hid (show g1.ps.length < 10000 by have := hd.len; have := HZ.out.ps; simp only at *; omega)
        have HPL2 := Lib.hid (show g1.ps.length ≤ 1024 by have := hd.len; have := HZ.out.ps; simp only at *; omega)
        have HBse := Lib.hid (show g1.st = .bse → g1.ps ≠ [] from fun e q => by
          obtain ⟨i, hi⟩ := hd.wf.bse e
          simp only at hi
          rw [q] at hi
          simp at hi)
        clear her hall hd
        rcases HC.out.app.own.bytes with ⟨rfl, _⟩ | ⟨vg, voff, vcap, rfl, hvc, _⟩
        · as_aux_lemma =>
            go_wp2_with fail
            refine (eof_any w.heap.size w.heap.size g1 _ pv1 ev1 _ HC.out.scn HC.out.app.kept.size HPsN.out HBse.out HC.out.er.is).mono ?_
            rw [HEO.out]
            rintro e w3 ⟨pv2, ev2, rfl, hs, hk3, ha3, hx3⟩
            have HC3 := Lib.hid (HC.out.stepped hs hk3 ha3 hx3)
            obtain ⟨c0, c1, c2, c3, c4, f0, f1, f2, f3, f4⟩ := hs.cells
            have hlt3 := hs.lt
            clear hs hk3 ha3 hx3
            go_wp2_with fail
            go_big_quiet (fail)
            go_wp2_with fail
            refine leaves_cons (f := 43) (args := #[.pointer (some ⟨w.heap.size, 0, none⟩)]) (by simp) (Go.Proofs.enters_of Tryz.func43 (by kernel_rfl) rfl _ _) ?_
            refine (free_deferred w.heap.size _ _ pv2 ev2 _ _ (HC3.out.drewN _).scn HPL2.out).mono ?_
            rintro e u' w'' ⟨rfl, rfl, rfl⟩
            refine ⟨_, results_tmp2 (t := 8) (u := 9) rfl _ _ _, ?_⟩
            exact IRes.bad HC3.out HA.out HER.out (fun e => absurd hkl (by rw [e]; exact Nat.not_lt_zero _)) _
        · obtain ⟨vl, hvl⟩ : ∃ vl, s.out.length = vl := ⟨_, rfl⟩
          rw [hvl] at hvc HC ⊢
          as_aux_lemma =>
            go_wp2_with fail
            refine (eof_any w.heap.size w.heap.size g1 _ pv1 ev1 _ HC.out.scn HC.out.app.kept.size HPsN.out HBse.out HC.out.er.is).mono ?_
            rw [HEO.out]
            rintro e w3 ⟨pv2, ev2, rfl, hs, hk3, ha3, hx3⟩
            have HC3 := Lib.hid (HC.out.stepped hs hk3 ha3 hx3)
            obtain ⟨c0, c1, c2, c3, c4, f0, f1, f2, f3, f4⟩ := hs.cells
            have hlt3 := hs.lt
            clear hs hk3 ha3 hx3
            go_wp2_with fail
            go_big_quiet (fail)
            go_wp2_with fail
            refine leaves_cons (f := 43) (args := #[.pointer (some ⟨w.heap.size, 0, none⟩)]) (by simp) (Go.Proofs.enters_of Tryz.func43 (by kernel_rfl) rfl _ _) ?_
            refine (free_deferred w.heap.size _ _ pv2 ev2 _ _ (HC3.out.drewN _).scn HPL2.out).mono ?_
            rintro e u' w'' ⟨rfl, rfl, rfl⟩
            refine ⟨_, results_tmp2 (t := 8) (u := 9) rfl _ _ _, ?_⟩
            exact IRes.bad HC3.out HA.out HER.out (fun e => absurd hkl (by rw [e]; exact Nat.not_lt_zero _)) _
      by_cases h9 : kk = 9
      · subst h9
        go_wp2_with fail
        exact ⟨⟨k + 1, g1, pv1, ev1, v, s, by omega, by go_num, rfl, rfl, rfl, HNX.out v s w2 h11 rfl HC.out⟩, by simp only [intOf]; omega⟩
      have x11 : ((kk : Int) == 11) = false := by rw [beq_eq_false_iff_ne]; omega
      have x9 : ((kk : Int) == 9) = false := by rw [beq_eq_false_iff_ne]; omega
      have H11 := Lib.hid h11
      have H9 := Lib.hid h9
      clear h11 h9
      go_upto_region 13 with fail
      go_cut [53, 12] from 24 to 111 (fun t ne wx => t = .bool (dueB s kk) ∧ ne = .bool s.need ∧ wx = w2)
      case first =>
        obtain ⟨nd, hnd⟩ : ∃ nd, s.need = nd := ⟨_, rfl⟩
        rw [hnd]
        cases nd with
        | false =>
          go_wp2_with fail
          go_meet
          exact ⟨by simp [dueB, hnd], by rw [hnd], rfl⟩
        | true =>
          by_cases h5 : kk = 5
          · have x5 : ((kk : Int) != 5) = false := by rw [h5]; rfl
            go_wp2_with fail
            go_meet
            exact ⟨by simp [dueB, hnd, h5], by rw [hnd], rfl⟩
          have x5 : ((kk : Int) != 5) = true := by rw [bne_iff_ne]; omega
          by_cases h8 : kk = 8
          · have x8 : ((kk : Int) != 8) = false := by rw [h8]; rfl
            go_wp2_with fail
            go_meet
            exact ⟨by simp [dueB, hnd, h8], by rw [hnd], rfl⟩
          have x8 : ((kk : Int) != 8) = true := by rw [bne_iff_ne]; omega
          go_wp2_with fail
          go_meet
          exact ⟨by simp [dueB, hnd, h5, h8], by rw [hnd], rfl⟩
      case rest =>
      obtain ⟨rfl, rfl, rfl⟩ := hcut
      have hbnd := indA_bnd (v := kk) HPL.out HIL.out (by omega : k ≤ 1000) HZ.out.bnd
      have HBN := Lib.hid hbnd
      clear hbnd
      go_upto_if 53 with fail
      go_cut [0, 12, 13] from 24 to 111 (fun v' ne d wx => ∃ vv : Value, vv = v' ∧ ne = .bool (indA P I s kk).need ∧ d = .int .i64 (indA P I s kk).dep ∧ IC w wx w.heap.size g1 ((k : Int) + 1) pv1 ev1 (.slice ao 0 c0v) vv (indA P I s kk).out)
      case first =>
        cases hdue : dueB s kk with
        | false =>
          go_wp2_with fail
          go_meet
          rw [indA_not hdue]
          exact ⟨_, rfl, rfl, rfl, HC.out⟩
        | true =>
          have HO := Lib.hid (small40 (by omega : k ≤ 1000) (Nat.le_trans HZ.out.bnd.out (Nat.le_add_right _ _)))
          have hd1 : -1001 ≤ s.dep := by have := HZ.out.bnd.lo; omega
          have hd2 : s.dep ≤ 1001 := by have := HZ.out.bnd.hi; omega
          go_wp2_with fail
          refine (newline_any _ _ p i (s.dep + 1) _ HC.out.app.own (Nat.le_trans HO.out (by decide)) hp hi (by omega)).mono ?_
          rintro e w3 ⟨v3, rfl, h3⟩
          rw [HP.out, HI.out] at h3
          have H3 := Lib.hid h3
          clear h3
          go_wp2_with fail
          go_meet
          rw [indA_due hdue]
          exact ⟨_, rfl, rfl, rfl, HC.out.wrote H3.out⟩
      case rest =>
      obtain ⟨v2, rfl, rfl, rfl, hic⟩ := hcut
      have HC2 := Lib.hid hic
      have hgen : ∃ A, indA P I s kk = A := ⟨_, rfl⟩
      obtain ⟨A, hA⟩ := hgen
      rw [hA] at HBN HC2 ⊢
      have HAS := Lib.hid hA
      have HO := Lib.hid (small40 (by omega : k ≤ 1000) HBN.out.2.2.1)
      have hd1 : -1001 ≤ A.dep := by have := HBN.out.1; omega
      have hd2 : A.dep ≤ 1001 := by have := HBN.out.2.1; omega
      have HDp := Lib.hid hd2
      clear hic hA
      --R0
      by_cases h0 : kk = 0
      · have x0 : ((kk : Int) == 0) = true := by rw [beq_iff_eq]; omega
        as_aux_lemma =>
          have q1 := Lib.hid (src_one wc (a : Int) (UInt8.ofNat a) HBY.out)
          have q2 := Lib.hid ((AppL.refl HC2.out.app.own).alloc (.cells #[.int .u8 (a : Int)] 5))
          have q3 := Lib.hid (show (A.out).length + 1 ≤ 1099511627776 by have := HO.out; omega)
          go_wp2_with (at_builtin; refine wpList_appL u8m rfl (.tmp 63) (.tmp 65) 51 rfl q2.out (by rfl) [UInt8.ofNat a] (by rfl) q1.out q3.out ?_; intro v3 w3 h3; have H3 := Lib.hid h3; clear h3 q1 q2 q3)
          exact ⟨⟨k + 1, g1, pv1, ev1, _, ⟨A.need, A.dep, A.out ++ [UInt8.ofNat a]⟩, by omega, by go_num, rfl, rfl, rfl, HNX.out _ ⟨A.need, A.dep, A.out ++ [UInt8.ofNat a]⟩ _ H11.out (by rw [st_cont h0, HAS.out]) (HC2.out.wrote H3.out)⟩, by simp only [intOf]; omega⟩
      have x0 : ((kk : Int) == 0) = false := by rw [beq_eq_false_iff_ne]; omega
      have HK0 := Lib.hid h0
      clear h0
      by_cases a123 : a = 123
      · have y123 : ((a : Int) == 123) = true := by rw [beq_iff_eq]; omega
        as_aux_lemma =>
          have q1 := Lib.hid (src_one wc (123 : Int) (UInt8.ofNat a) (by rw [a123]; rfl))
          have q2 := Lib.hid ((AppL.refl HC2.out.app.own).alloc (.cells #[.int .u8 (123 : Int)] 5))
          have q3 := Lib.hid (show (A.out).length + 1 ≤ 1099511627776 by have := HO.out; omega)
          go_wp2_with (at_builtin; refine wpList_appL u8m rfl (.tmp 75) (.tmp 77) 51 rfl q2.out (by rfl) [UInt8.ofNat a] (by rfl) q1.out q3.out ?_; intro v3 w3 h3; have H3 := Lib.hid h3; clear h3 q1 q2 q3)
          exact ⟨⟨k + 1, g1, pv1, ev1, _, ⟨true, A.dep, A.out ++ [UInt8.ofNat a]⟩, by omega, by go_num, rfl, rfl, rfl, HNX.out _ ⟨true, A.dep, A.out ++ [UInt8.ofNat a]⟩ _ H11.out (by rw [st_open H9.out HK0.out (.inl a123), HAS.out]) (HC2.out.wrote H3.out)⟩, by simp only [intOf]; omega⟩
      have n123 : ((a : Int) == 123) = false := by rw [beq_eq_false_iff_ne]; omega
      by_cases a91 : a = 91
      · have y91 : ((a : Int) == 91) = true := by rw [beq_iff_eq]; omega
        as_aux_lemma =>
          have q1 := Lib.hid (src_one wc (91 : Int) (UInt8.ofNat a) (by rw [a91]; rfl))
          have q2 := Lib.hid ((AppL.refl HC2.out.app.own).alloc (.cells #[.int .u8 (91 : Int)] 5))
          have q3 := Lib.hid (show (A.out).length + 1 ≤ 1099511627776 by have := HO.out; omega)
          go_wp2_with (at_builtin; refine wpList_appL u8m rfl (.tmp 75) (.tmp 77) 51 rfl q2.out (by rfl) [UInt8.ofNat a] (by rfl) q1.out q3.out ?_; intro v3 w3 h3; have H3 := Lib.hid h3; clear h3 q1 q2 q3)
          exact ⟨⟨k + 1, g1, pv1, ev1, _, ⟨true, A.dep, A.out ++ [UInt8.ofNat a]⟩, by omega, by go_num, rfl, rfl, rfl, HNX.out _ ⟨true, A.dep, A.out ++ [UInt8.ofNat a]⟩ _ H11.out (by rw [st_open H9.out HK0.out (.inr a91), HAS.out]) (HC2.out.wrote H3.out)⟩, by simp only [intOf]; omega⟩
      have n91 : ((a : Int) == 91) = false := by rw [beq_eq_false_iff_ne]; omega
      by_cases a44 : a = 44
      · have y44 : ((a : Int) == 44) = true := by rw [beq_iff_eq]; omega
        as_aux_lemma =>
          have q1 := Lib.hid (src_one wc (44 : Int) (UInt8.ofNat a) (by rw [a44]; rfl))
          have q2 := Lib.hid ((AppL.refl HC2.out.app.own).alloc (.cells #[.int .u8 (44 : Int)] 5))
          have q3 := Lib.hid (show (A.out).length + 1 ≤ 1099511627776 by have := HO.out; omega)
          go_wp2_with (at_builtin; refine wpList_appL u8m rfl (.tmp 81) (.tmp 83) 51 rfl q2.out (by rfl) [UInt8.ofNat a] (by rfl) q1.out q3.out ?_; intro v3 w3 h3; have H3 := Lib.hid h3; clear h3 q1 q2 q3)
          refine (newline_any _ _ p i (A.dep) _ H3.out.own (by have := HO.out; rw [List.length_append]; show A.out.length + 1 ≤ _; omega) hp hi (by omega)).mono ?_
          rintro e w4 ⟨v4, rfl, h4⟩
          rw [HP.out, HI.out] at h4
          have H4 := Lib.hid h4
          clear h4
          go_wp2_with fail
          exact ⟨⟨k + 1, g1, pv1, ev1, _, ⟨A.need, A.dep, A.out ++ [UInt8.ofNat a] ++ nlB P I A.dep⟩, by omega, by go_num, rfl, rfl, rfl, HNX.out _ ⟨A.need, A.dep, A.out ++ [UInt8.ofNat a] ++ nlB P I A.dep⟩ _ H11.out (by rw [st_comma H9.out HK0.out a44, HAS.out]) ((HC2.out.wrote H3.out).wrote H4.out)⟩, by simp only [intOf]; omega⟩
      have n44 : ((a : Int) == 44) = false := by rw [beq_eq_false_iff_ne]; omega
      by_cases a58 : a = 58
      · have y58 : ((a : Int) == 58) = true := by rw [beq_iff_eq]; omega
        as_aux_lemma =>
          have q1 := Lib.hid (src_two wc (58 : Int) (UInt8.ofNat a) (by rw [a58]; rfl))
          have q2 := Lib.hid ((AppL.refl HC2.out.app.own).alloc (.cells #[.int .u8 (58 : Int), .int .u8 32] 5))
          have q3 := Lib.hid (show (A.out).length + 2 ≤ 1099511627776 by have := HO.out; omega)
          go_wp2_with (at_builtin; refine wpList_appL u8m rfl (.tmp 92) (.tmp 94) 51 rfl q2.out (by rfl) [UInt8.ofNat a, 32] (by rfl) q1.out q3.out ?_; intro v3 w3 h3; have H3 := Lib.hid h3; clear h3 q1 q2 q3)
          exact ⟨⟨k + 1, g1, pv1, ev1, _, ⟨A.need, A.dep, A.out ++ [UInt8.ofNat a, 32]⟩, by omega, by go_num, rfl, rfl, rfl, HNX.out _ ⟨A.need, A.dep, A.out ++ [UInt8.ofNat a, 32]⟩ _ H11.out (by rw [st_colon H9.out HK0.out a58, HAS.out]) (HC2.out.wrote H3.out)⟩, by simp only [intOf]; omega⟩
      have n58 : ((a : Int) == 58) = false := by rw [beq_eq_false_iff_ne]; omega
      by_cases a125 : a = 125
      · have y125 : ((a : Int) == 125) = true := by rw [beq_iff_eq]; omega
        cases hnd : A.need with
        | true =>
          as_aux_lemma =>
            have q1 := Lib.hid (src_one wc (125 : Int) (UInt8.ofNat a) (by rw [a125]; rfl))
            have q2 := Lib.hid ((AppL.refl HC2.out.app.own).alloc (.cells #[.int .u8 (125 : Int)] 5))
            have q3 := Lib.hid (show (A.out).length + 1 ≤ 1099511627776 by have := HO.out; omega)
            go_wp2_with (at_builtin; refine wpList_appL u8m rfl (.tmp 107) (.tmp 109) 51 rfl q2.out (by rfl) [UInt8.ofNat a] (by rfl) q1.out q3.out ?_; intro v3 w3 h3; have H3 := Lib.hid h3; clear h3 q1 q2 q3)
            exact ⟨⟨k + 1, g1, pv1, ev1, _, ⟨false, A.dep, A.out ++ [UInt8.ofNat a]⟩, by omega, by go_num, rfl, rfl, rfl, HNX.out _ ⟨false, A.dep, A.out ++ [UInt8.ofNat a]⟩ _ H11.out (by rw [st_shut0 H9.out HK0.out (.inl a125) (by rw [HAS.out]; exact hnd), HAS.out]) (HC2.out.wrote H3.out)⟩, by simp only [intOf]; omega⟩
        | false =>
          as_aux_lemma =>
            go_wp2_with fail
            refine (newline_any _ _ p i (A.dep - 1) _ HC2.out.app.own (Nat.le_trans HO.out (by decide)) hp hi (by omega)).mono ?_
            rintro e w4 ⟨v4, rfl, h4⟩
            rw [HP.out, HI.out] at h4
            have H4 := Lib.hid h4
            clear h4
            have HO4 := HO
            have HO := Lib.hid (nl_room (d := A.dep - 1) HPL.out HIL.out HO4.out (by omega))
            have q1 := Lib.hid (src_one w4 (125 : Int) (UInt8.ofNat a) (by rw [a125]; rfl))
            have q2 := Lib.hid ((AppL.refl H4.out.own).alloc (.cells #[.int .u8 (125 : Int)] 5))
            have q3 := Lib.hid (show (A.out ++ nlB P I (A.dep - 1)).length + 1 ≤ 1099511627776 by have := HO.out; omega)
            go_wp2_with (at_builtin; refine wpList_appL u8m rfl (.tmp 107) (.tmp 109) 51 rfl q2.out (by rfl) [UInt8.ofNat a] (by rfl) q1.out q3.out ?_; intro v3 w3 h3; have H3 := Lib.hid h3; clear h3 q1 q2 q3)
            exact ⟨⟨k + 1, g1, pv1, ev1, _, ⟨false, A.dep - 1, A.out ++ nlB P I (A.dep - 1) ++ [UInt8.ofNat a]⟩, by omega, by go_num, rfl, rfl, rfl, HNX.out _ ⟨false, A.dep - 1, A.out ++ nlB P I (A.dep - 1) ++ [UInt8.ofNat a]⟩ _ H11.out (by rw [st_shut H9.out HK0.out (.inl a125) (by rw [HAS.out]; exact hnd), HAS.out, hnd]) ((HC2.out.wrote H4.out).wrote H3.out)⟩, by simp only [intOf]; omega⟩
      have n125 : ((a : Int) == 125) = false := by rw [beq_eq_false_iff_ne]; omega
      by_cases a93 : a = 93
      · have y93 : ((a : Int) == 93) = true := by rw [beq_iff_eq]; omega
        cases hnd : A.need with
        | true =>
          as_aux_lemma =>
            have q1 := Lib.hid (src_one wc (93 : Int) (UInt8.ofNat a) (by rw [a93]; rfl))
            have q2 := Lib.hid ((AppL.refl HC2.out.app.own).alloc (.cells #[.int .u8 (93 : Int)] 5))
            have q3 := Lib.hid (show (A.out).length + 1 ≤ 1099511627776 by have := HO.out; omega)
            go_wp2_with (at_builtin; refine wpList_appL u8m rfl (.tmp 107) (.tmp 109) 51 rfl q2.out (by rfl) [UInt8.ofNat a] (by rfl) q1.out q3.out ?_; intro v3 w3 h3; have H3 := Lib.hid h3; clear h3 q1 q2 q3)
            exact ⟨⟨k + 1, g1, pv1, ev1, _, ⟨false, A.dep, A.out ++ [UInt8.ofNat a]⟩, by omega, by go_num, rfl, rfl, rfl, HNX.out _ ⟨false, A.dep, A.out ++ [UInt8.ofNat a]⟩ _ H11.out (by rw [st_shut0 H9.out HK0.out (.inr a93) (by rw [HAS.out]; exact hnd), HAS.out]) (HC2.out.wrote H3.out)⟩, by simp only [intOf]; omega⟩
        | false =>
          as_aux_lemma =>
            go_wp2_with fail
            refine (newline_any _ _ p i (A.dep - 1) _ HC2.out.app.own (Nat.le_trans HO.out (by decide)) hp hi (by omega)).mono ?_
            rintro e w4 ⟨v4, rfl, h4⟩
            rw [HP.out, HI.out] at h4
            have H4 := Lib.hid h4
            clear h4
            have HO4 := HO
            have HO := Lib.hid (nl_room (d := A.dep - 1) HPL.out HIL.out HO4.out (by omega))
            have q1 := Lib.hid (src_one w4 (93 : Int) (UInt8.ofNat a) (by rw [a93]; rfl))
            have q2 := Lib.hid ((AppL.refl H4.out.own).alloc (.cells #[.int .u8 (93 : Int)] 5))
            have q3 := Lib.hid (show (A.out ++ nlB P I (A.dep - 1)).length + 1 ≤ 1099511627776 by have := HO.out; omega)
            go_wp2_with (at_builtin; refine wpList_appL u8m rfl (.tmp 107) (.tmp 109) 51 rfl q2.out (by rfl) [UInt8.ofNat a] (by rfl) q1.out q3.out ?_; intro v3 w3 h3; have H3 := Lib.hid h3; clear h3 q1 q2 q3)
            exact ⟨⟨k + 1, g1, pv1, ev1, _, ⟨false, A.dep - 1, A.out ++ nlB P I (A.dep - 1) ++ [UInt8.ofNat a]⟩, by omega, by go_num, rfl, rfl, rfl, HNX.out _ ⟨false, A.dep - 1, A.out ++ nlB P I (A.dep - 1) ++ [UInt8.ofNat a]⟩ _ H11.out (by rw [st_shut H9.out HK0.out (.inr a93) (by rw [HAS.out]; exact hnd), HAS.out, hnd]) ((HC2.out.wrote H4.out).wrote H3.out)⟩, by simp only [intOf]; omega⟩
      have n93 : ((a : Int) == 93) = false := by rw [beq_eq_false_iff_ne]; omega
      have q1 := Lib.hid (src_one wc (a : Int) (UInt8.ofNat a) HBY.out)
      have q2 := Lib.hid ((AppL.refl HC2.out.app.own).alloc (.cells #[.int .u8 (a : Int)] 5))
      have q3 := Lib.hid (show (A.out).length + 1 ≤ 1099511627776 by have := HO.out; omega)
      go_wp2_with (at_builtin; refine wpList_appL u8m rfl (.tmp 68) (.tmp 70) 51 rfl q2.out (by rfl) [UInt8.ofNat a] (by rfl) q1.out q3.out ?_; intro v3 w3 h3; have H3 := Lib.hid h3; clear h3 q1 q2 q3)
      exact ⟨⟨k + 1, g1, pv1, ev1, _, ⟨A.need, A.dep, A.out ++ [UInt8.ofNat a]⟩, by omega, by go_num, rfl, rfl, rfl, HNX.out _ ⟨A.need, A.dep, A.out ++ [UInt8.ofNat a]⟩ _ H11.out (by rw [st_other H9.out HK0.out ⟨a123, a91, a44, a58, a125, a93⟩, HAS.out]) (HC2.out.wrote H3.out)⟩, by simp only [intOf]; omega⟩
      --R1
    · have hkl : k = n := by omega
      have hd : l.drop k = [] := List.drop_eq_nil_of_le (by rw [hkl, HN.out]; exact Nat.le_refl _)
      obtain ⟨⟨g1, r2⟩, hr⟩ : ∃ r, eofP g (k : Int) = r := ⟨_, rfl⟩
      have hall := HZ.out.er
      rw [hd] at hall
      have hall2 : (scanAll newCfg 0 l).2 = g1 := by
        rw [hall]
        show (eofP g (k : Int)).1 = _
        rw [hr]
      have hio := HZ.out.all
      rw [hd] at hio
      have HIO := Lib.hid (show s.out = (indAll P I newCfg 0 ⟨false, 0, []⟩ l).out by rw [hio]; rfl)
      have hf := eof_facts HZ.out.wf (k : Int)
      rw [hr] at hf
      have hl2 := eofP_len HZ.out.wf (k : Int)
      rw [hr] at hl2
      have HPL2 := Lib.hid (show g1.ps.length ≤ 1024 by have := HZ.out.ps; simp only at *; omega)
      have HF := Lib.hid hf
      have HA := Lib.hid hall2
      have HEO := Lib.hid ((eofC_eofP g (k : Int)).trans hr)
      clear hd hr hall hall2 hf hl2 hio c0 c1 c2 c3 c4 f0 f1 f2 f3 f4
      rcases HF.out with ⟨e1, e2, _, _⟩ | ⟨e1, e2⟩
      · obtain rfl : r2 = 10 := e1
        have HER := Lib.hid (show g1.er = none from e2)
        clear e2
        as_aux_lemma =>
          go_wp2_with fail
          refine (eof_any w.heap.size w.heap.size g _ pv ev _ HZ.out.ic.scn HZ.out.ic.app.kept.size HPs.out HZ.out.bse HZ.out.ic.er.is).mono ?_
          rw [HEO.out]
          rintro e w3 ⟨pv2, ev2, rfl, hs, hk3, ha3, hx3⟩
          have HC3 := Lib.hid (HZ.out.ic.stepped hs hk3 ha3 hx3)
          have HZ3 := Lib.hid (fun e : l = [] => (HZ.out.zero (by rw [hkl, HN.out, e]; rfl)).trans (hk3.below (n := w.heap.size) (Nat.le_refl _) HZ.out.ic.app.kept.size (fun k e => (HZ.out.ic.scn.own.lt _ e).1)))
          obtain ⟨c0, c1, c2, c3, c4, f0, f1, f2, f3, f4⟩ := hs.cells
          have hlt3 := hs.lt
          clear hs hk3 ha3 hx3
          go_wp2_with fail
          refine leaves_cons (f := 43) (args := #[.pointer (some ⟨w.heap.size, 0, none⟩)]) (by simp) (Go.Proofs.enters_of Tryz.func43 (by kernel_rfl) rfl _ _) ?_
          refine (free_deferred w.heap.size _ _ pv2 ev2 _ _ HC3.out.scn HPL2.out).mono ?_
          rintro e u' w'' ⟨rfl, rfl, rfl⟩
          refine ⟨_, results_tmp2 (t := 8) (u := 9) rfl _ _ _, ?_⟩
          exact IRes.good HC3.out HA.out HER.out HIO.out HZ3.out (Nat.le_trans HZ.out.bnd.out (by omega))
      · obtain rfl : r2 = 11 := e1
        have HER := Lib.hid (show g1.er ≠ none from e2)
        clear e2 HIO
        rcases HZ.out.ic.app.own.bytes with ⟨rfl, _⟩ | ⟨vg, voff, vcap, rfl, hvc, _⟩
        · as_aux_lemma =>
            go_wp2_with fail
            refine (eof_any w.heap.size w.heap.size g _ pv ev _ HZ.out.ic.scn HZ.out.ic.app.kept.size HPs.out HZ.out.bse HZ.out.ic.er.is).mono ?_
            rw [HEO.out]
            rintro e w3 ⟨pv2, ev2, rfl, hs, hk3, ha3, hx3⟩
            have HC3 := Lib.hid (HZ.out.ic.stepped hs hk3 ha3 hx3)
            have HZ3 := Lib.hid (fun e : l = [] => (HZ.out.zero (by rw [hkl, HN.out, e]; rfl)).trans (hk3.below (n := w.heap.size) (Nat.le_refl _) HZ.out.ic.app.kept.size (fun k e => (HZ.out.ic.scn.own.lt _ e).1)))
            obtain ⟨c0, c1, c2, c3, c4, f0, f1, f2, f3, f4⟩ := hs.cells
            have hlt3 := hs.lt
            clear hs hk3 ha3 hx3
            go_wp2_with fail
            go_big_quiet (fail)
            go_wp2_with fail
            refine leaves_cons (f := 43) (args := #[.pointer (some ⟨w.heap.size, 0, none⟩)]) (by simp) (Go.Proofs.enters_of Tryz.func43 (by kernel_rfl) rfl _ _) ?_
            refine (free_deferred w.heap.size _ _ pv2 ev2 _ _ (HC3.out.drewN _).scn HPL2.out).mono ?_
            rintro e u' w'' ⟨rfl, rfl, rfl⟩
            refine ⟨_, results_tmp2 (t := 8) (u := 9) rfl _ _ _, ?_⟩
            exact IRes.bad HC3.out HA.out HER.out HZ3.out _
        · obtain ⟨vl, hvl⟩ : ∃ vl, s.out.length = vl := ⟨_, rfl⟩
          rw [hvl] at hvc HZ ⊢
          as_aux_lemma =>
            go_wp2_with fail
            refine (eof_any w.heap.size w.heap.size g _ pv ev _ HZ.out.ic.scn HZ.out.ic.app.kept.size HPs.out HZ.out.bse HZ.out.ic.er.is).mono ?_
            rw [HEO.out]
            rintro e w3 ⟨pv2, ev2, rfl, hs, hk3, ha3, hx3⟩
            have HC3 := Lib.hid (HZ.out.ic.stepped hs hk3 ha3 hx3)
            have HZ3 := Lib.hid (fun e : l = [] => (HZ.out.zero (by rw [hkl, HN.out, e]; rfl)).trans (hk3.below (n := w.heap.size) (Nat.le_refl _) HZ.out.ic.app.kept.size (fun k e => (HZ.out.ic.scn.own.lt _ e).1)))
            obtain ⟨c0, c1, c2, c3, c4, f0, f1, f2, f3, f4⟩ := hs.cells
            have hlt3 := hs.lt
            clear hs hk3 ha3 hx3
            go_wp2_with fail
            go_big_quiet (fail)
            go_wp2_with fail
            refine leaves_cons (f := 43) (args := #[.pointer (some ⟨w.heap.size, 0, none⟩)]) (by simp) (Go.Proofs.enters_of Tryz.func43 (by kernel_rfl) rfl _ _) ?_
            refine (free_deferred w.heap.size _ _ pv2 ev2 _ _ (HC3.out.drewN _).scn HPL2.out).mono ?_
            rintro e u' w'' ⟨rfl, rfl, rfl⟩
            refine ⟨_, results_tmp2 (t := 8) (u := 9) rfl _ _ _, ?_⟩
            exact IRes.bad HC3.out HA.out HER.out HZ3.out _

end Go.Proofs.YtlgmdcaoogiooaaGreatDoor.Ind
