/- The reference's text of an object. -/
import Derived.Test.YtlgmdcaoogiooaaGreatDoorWrtA
import Derived.Deep.RegionLaw
import Derived.Deep.RegionHeld3
namespace Go.Proofs.YtlgmdcaoogiooaaGreatDoor.Sty
open Go.RowKit Go.Proofs.YtlgmdcaoogiooaaGreatDoor Go.Proofs.YtlgmdcaoogiooaaGreatDoor.Ind

/-- Appending a text, as one step of a region that draws its order. -/
theorem step_pushS {P : Program} {t e : TypeId} {z : Value} (E16 : El16 P t e z) {w : World} {ops : Array Oper} {o : Oper} {a : Act} {K : Act → World → Prop} {Q : Exit → Act → World → Prop} {E : Prop} (hgd : o.guard = none) (s x : Operand)
    (ho : o.op = .call { callee := .builtin .append, args := #[s, x], argTypes := #[t, t] })
    (B : Nat) {pv : Value} (n : Nat) (xs : List Value) (hown : w.ownsRow B e 1 pv n xs) (hv : a.eval s = pv) (ad : Addr) (c : Nat) (v : Value) (hx : a.eval x = .slice (some ad) 1 c)
    (hc : ∀ j u, ([v] : List Value)[j]? = some u → w.cell? (ad.add j) = some u) (h1 : ∀ u ∈ ([v] : List Value), u.oneCell' = true) (hn : n < 1000000) (hB : B ≤ w.heap.size)
    (hK : ∀ q cap w', w'.ownsRow B e 1 (.slice (some ⟨q, 0, none⟩) (n + 1) cap) (n + 1) (xs ++ [v]) → w.grownBy w' pv.ownBlock → PAt w pv (.slice (some ⟨q, 0, none⟩) (n + 1) cap) → K (a.put o.dst (.slice (some ⟨q, 0, none⟩) (n + 1) cap)) w') : if Region.wanted o (yielded ops a.tmps) = true then Oper.wp P o a w K Q else E := by
  have hw : Region.wanted o (yielded ops a.tmps) = true := by simp [Region.wanted, hgd]
  rw [if_pos hw]
  obtain ⟨q, cap, w', hrun, r1, r2, r3⟩ := run_pushS E16 w B pv n xs hown ad v c hc h1 hn hB o.type
  unfold Oper.wp
  simp [execOp, ho, resolve, invoke, builtin, hv, hx, hrun, Result.andThen]
  exact hK q cap w' r1 r2 r3

theorem gap_two (w : World) :
    Calls Tryz.prog 22 #[.string ⟨#[58]⟩, .bool true] w fun e w' => e = .returned (.string ⟨#[58, 32]⟩) ∧ w' = w := gap_yes ⟨#[58]⟩ (by decide) w

theorem wrM_len (p i : List UInt8) (d : Int) : ∀ (names : List ByteArray) (kids : List Tr), names.length = kids.length → (wrM p i names kids d).length = kids.length
  | [], [], _ => rfl
  | nm :: ns, T :: ts, h => by
    show ((nm.data.toList ++ [58, 32] ++ wr p i T d) :: wrM p i ns ts d).length = _
    rw [List.length_cons, wrM_len p i d ns ts (by simpa using h), List.length_cons]

theorem wrM_get (p i : List UInt8) (d : Int) : ∀ (names : List ByteArray) (kids : List Tr) (k : Nat) (nm : ByteArray) (T : Tr), names[k]? = some nm → kids[k]? = some T → (wrM p i names kids d)[k]? = some (nm.data.toList ++ [58, 32] ++ wr p i T d)
  | nm :: ns, T :: ts, 0, _, _, h1, h2 => by
    simp only [List.getElem?_cons_zero, Option.some.injEq] at h1 h2
    subst h1 h2
    rfl
  | nm :: ns, T :: ts, k + 1, nm', T', h1, h2 => by
    show (wrM p i ns ts d)[k]? = _
    exact wrM_get p i d ns ts k nm' T' (by simpa using h1) (by simpa using h2)

set_option maxRecDepth 100000 in
set_option maxHeartbeats 2000000 in
theorem wr_objs (p i : ByteArray) (hp : p.size ≤ 16) (hi : i.size ≤ 16) (h : Nat) (text : ByteArray) (names : List ByteArray) (kids : List Tr) (hk : kids.length ≤ 1000) (hnk : names.length = kids.length) (hns : ∀ nm ∈ names, NameSafe nm) (hK : ∀ (k : Nat) (T : Tr), kids[k]? = some T → WrOk p i h T) : WrOk p i (h + 1) (.mk 123 text names kids) := by
  intro w D c0 c1 c2 c3 d hrep hD hd hl
  rw [wr_obj] at hl ⊢
  cases hrep with
  | mk h1 h2 h3 h4 h5 =>
  rename_i cells
  obtain ⟨n, hn⟩ : ∃ n, n = kids.length := ⟨_, rfl⟩
  rw [hnk, ← hn] at h1
  rw [← hn] at h3 hk hnk
  obtain ⟨na, nc, rfl⟩ : ∃ a c, c2 = .slice a n c := ownsRow_slice h1
  obtain ⟨ka, kc, rfl⟩ : ∃ a c, c3 = .slice a n c := ownsRow_slice h3
  obtain ⟨W1, hW1⟩ : ∃ W1, W1 = (w.alloc (.cells #[.bool false, .bool false, .bool false, .bool false, .bool true, .bool false, .bool false, .bool false, .bool true, .bool true, .bool false, .string i, .string p] 32)).alloc (.cells #[.int .u8 123, .string text, .slice na n nc, .slice ka n kc] 41) := ⟨_, rfl⟩
  have hz1 : W1.heap.size = w.heap.size + 1 + 1 := by rw [hW1]; simp
  have B1 := Lib.hid (show Below w.heap.size w W1 by rw [hW1]; exact ((Below.refl _ _).alloc (Nat.le_refl _) _).alloc (by simp) _)
  have hst : W1.heap[w.heap.size]? = some (.cells #[.bool false, .bool false, .bool false, .bool false, .bool true, .bool false, .bool false, .bool false, .bool true, .bool true, .bool false, .string i, .string p] 32 (0, 0)) := by
    rw [hW1, Below.heap_alloc _ _ _ (by simp)]
    exact heap_alloc_new w _
  have hnd : W1.heap[w.heap.size + 1]? = some (.cells #[.int .u8 123, .string text, .slice na n nc, .slice ka n kc] 41 (0, 0)) := by
    have h0 := heap_alloc_new (w.alloc (.cells #[.bool false, .bool false, .bool false, .bool false, .bool true, .bool false, .bool false, .bool false, .bool true, .bool true, .bool false, .string i, .string p] 32)) (.cells #[.int .u8 123, .string text, .slice na n nc, .slice ka n kc] 41)
    rw [show (w.alloc (.cells #[.bool false, .bool false, .bool false, .bool false, .bool true, .bool false, .bool false, .bool false, .bool true, .bool true, .bool false, .string i, .string p] 32)).heap.size = w.heap.size + 1 by simp] at h0
    rw [hW1]
    exact h0
  have HST := Lib.hid hst
  have HND := Lib.hid hnd
  have HW1 := Lib.hid hW1
  have HZ1 := Lib.hid hz1
  obtain ⟨L, hL⟩ : ∃ L, L = wrM p.data.toList i.data.toList names kids ((d : Int) + 1) := ⟨_, rfl⟩
  rw [← hL] at hl ⊢
  have HLL := Lib.hid (show L.length = n by rw [hL, wrM_len _ _ _ _ _ (by rw [hnk, hn]), hn])
  have HL := Lib.hid hL
  have HLEN := Lib.hid hl
  have H1 := Lib.hid h1
  have H3 := Lib.hid h3
  have H4 := Lib.hid h4
  have H5 := Lib.hid h5
  have HD := Lib.hid hD
  have HN := Lib.hid hn
  have HNK := Lib.hid hnk
  have HNS := Lib.hid hns
  have HKK := Lib.hid hK
  -- the order of the names
  have ho : ∀ W : World, Below w.heap.size w W → w.heap.size ≤ W.heap.size → Calls Tryz.prog 20 #[styl p i, .agg #[.int .u8 123, .string text, .slice na n nc, .slice ka n kc]] W (Order W n) := fun W hb hs =>
    order_any p i 123 text (.slice na n nc) (.slice ka n kc) names n HNK.out.symm W (ownsRow_same H1.out (fun g hg => hb.block g (ownsRow_at H1.out g hg).2)) HNS.out (by omega)
  have HO := Lib.hid ho
  clear hW1 hz1 hst hnd hL hl h1 h2 h3 h4 h5 hD hn hnk hns hK ho
  rw [show (((123 : Nat)) : Int) = 123 from rfl]
  unfold styl at HO ⊢
  go_enter Tryz.func11, Tryz.ntmps11
  go_wp2_with fail
  rw [← HW1.out]
  refine (HO.out _ ((B1.out).alloc B1.out.size _) (by have := HZ1.out; simp; omega)).mono ?_
  rintro e w2 ⟨ov, rfl, hov, hb2⟩
  have hsz2 : W1.heap.size + 1 ≤ w2.heap.size := by have := hb2.size; simp at this; omega
  have HB2 := Lib.hid (((Below.refl _ W1).alloc (Nat.le_refl _) (.cells #[] 9)).trans (hb2.mono (by simp)))
  have hE : w2.heap[W1.heap.size]? = some (.cells #[] 9 (0, 0)) := (hb2.block _ (by simp)).trans (heap_alloc_new W1 _)
  have HE := Lib.hid hE
  have HOV := Lib.hid (ownsRow_base (B' := W1.heap.size + 1) hov (by simp))
  obtain ⟨oa, oc, rfl⟩ : ∃ a c, ov = .slice a n c := ownsRow_slice hov
  clear hov hb2 hE
  go_wp2_with fail
  go_loopw [7, 21] (fun v j wr => Below W1.heap.size W1 wr ∧ ∃ (k : Nat) (ss : List ByteArray), j = .int .i64 (k : Int) ∧ k ≤ n ∧ Parts L k ss ∧ wr.ownsRow W1.heap.size 9 1 v k (ss.map .string) ∧ wr.ownsRow (W1.heap.size + 1) 3 1 (.slice oa n oc) n ((List.range n).map I64) ∧ ∀ x, v.ownBlock = some x → (Value.slice oa n oc).ownBlock ≠ some x) (fun _ j _ => n - (intOf j).toNat)
  case atStart =>
    refine ⟨HB2.out, 0, [], rfl, Nat.zero_le _, ⟨rfl, rfl⟩, ⟨rfl, .inr ⟨W1.heap.size, 0, #[], by rw [HZ1.out], Nat.le_refl _, HE.out, Nat.le_refl _, Nat.zero_le _, rfl, rfl⟩⟩, HOV.out, fun x hx hy => ?_⟩
    have h1 := (ownsRow_at HOV.out x hy).1
    simp only [Value.ownBlock, Option.some.injEq] at hx
    have := HZ1.out
    omega
  case round =>
    obtain ⟨hb, k, ss, rfl, hkn, hpt, hv, hov, hne⟩ := hrel
    have HB := Lib.hid hb
    have HV := Lib.hid hv
    have HOV := Lib.hid hov
    have HNE := Lib.hid hne
    have HP := Lib.hid hpt
    by_cases hlt : k < n
    · obtain ⟨T, hT⟩ : ∃ T, kids[k]? = some T := ⟨_, List.getElem?_eq_getElem (by rw [← HN.out]; exact hlt)⟩
      obtain ⟨g, c, v0, v1, v2, v3, hkv, hg, hr, q0, q1, q2, q3⟩ := kid_cells H3.out hlt (H5.out k T hT)
      obtain ⟨rfl, rfl⟩ : ka = some ⟨g, 0, none⟩ ∧ kc = c := by cases hkv; exact ⟨rfl, rfl⟩
      obtain ⟨kd, tx, a1, n1, x1, a2, n2, x2, rfl, rfl, rfl, rfl⟩ := rep_form hr
      obtain ⟨ng, nc', hnv, _, hng, hnc⟩ := row_cell H1.out (by omega)
      obtain ⟨rfl, rfl⟩ : na = some ⟨ng, 0, none⟩ ∧ nc = nc' := by cases hnv; exact ⟨rfl, rfl⟩
      obtain ⟨og, oc', hov2, _, hog, hoc⟩ := row_cell hov (by omega)
      obtain ⟨rfl, rfl⟩ : oa = some ⟨og, 0, none⟩ ∧ oc = oc' := by cases hov2; exact ⟨rfl, rfl⟩
      have hkl : k < names.length := by have := HNK.out; omega
      obtain ⟨nm, hnm⟩ : ∃ nm, names[k]'hkl = nm := ⟨_, rfl⟩
      have hnm2 : names[k]? = some nm := by rw [List.getElem?_eq_getElem hkl, hnm]
      have hsafe := HNS.out _ (List.getElem_mem hkl)
      rw [hnm] at hsafe
      have hnmz : nm.size ≤ 1000 := hsafe.2.1
      have qn : w.cell? ⟨ng, k, none⟩ = some (.string nm) := by rw [hnc k hlt, List.getElem?_map, hnm2]; rfl
      have oc0 : wr.cell? ⟨og, k, none⟩ = some (.int .i64 (k : Int)) := by
        rw [hoc k hlt, List.getElem?_map, List.getElem?_range hlt]
        rfl
      have hz := HZ1.out
      have FA := Lib.hid (fun (W : World) (h : Below W1.heap.size W1 W) => show W.cell? ⟨w.heap.size, 0, none⟩ = some (.bool false) ∧ W.cell? ⟨w.heap.size, 1, none⟩ = some (.bool false) ∧ W.cell? ⟨w.heap.size, 2, none⟩ = some (.bool false) ∧ W.cell? ⟨w.heap.size, 3, none⟩ = some (.bool false) ∧ W.cell? ⟨w.heap.size, 4, none⟩ = some (.bool true) ∧ W.cell? ⟨w.heap.size, 5, none⟩ = some (.bool false) ∧ W.cell? ⟨w.heap.size, 6, none⟩ = some (.bool false) ∧ W.cell? ⟨w.heap.size, 7, none⟩ = some (.bool false) ∧ W.cell? ⟨w.heap.size, 8, none⟩ = some (.bool true) ∧ W.cell? ⟨w.heap.size, 9, none⟩ = some (.bool true) ∧ W.cell? ⟨w.heap.size, 10, none⟩ = some (.bool false) ∧ W.cell? ⟨w.heap.size, 11, none⟩ = some (.string i) ∧ W.cell? ⟨w.heap.size, 12, none⟩ = some (.string p) ∧ W.cell? ⟨w.heap.size + 1, 2, none⟩ = some (.slice (some ⟨ng, 0, none⟩) n nc) ∧ W.cell? ⟨w.heap.size + 1, 3, none⟩ = some (.slice (some ⟨g, 0, none⟩) n kc) ∧ W.cell? ⟨ng, k, none⟩ = some (.string nm) ∧ W.cell? ⟨g, k * 4, none⟩ = some (.int .u8 (kd : Int)) ∧ W.cell? ⟨g, k * 4 + 1, none⟩ = some (.string tx) ∧ W.cell? ⟨g, k * 4 + 2, none⟩ = some (.slice a1 n1 x1) ∧ W.cell? ⟨g, k * 4 + 3, none⟩ = some (.slice a2 n2 x2) from ⟨(cell_of_heap (h.block w.heap.size (by omega)) 0).trans (cell_of_row W1 w.heap.size 0 _ _ _ HST.out), (cell_of_heap (h.block w.heap.size (by omega)) 1).trans (cell_of_row W1 w.heap.size 1 _ _ _ HST.out), (cell_of_heap (h.block w.heap.size (by omega)) 2).trans (cell_of_row W1 w.heap.size 2 _ _ _ HST.out), (cell_of_heap (h.block w.heap.size (by omega)) 3).trans (cell_of_row W1 w.heap.size 3 _ _ _ HST.out), (cell_of_heap (h.block w.heap.size (by omega)) 4).trans (cell_of_row W1 w.heap.size 4 _ _ _ HST.out), (cell_of_heap (h.block w.heap.size (by omega)) 5).trans (cell_of_row W1 w.heap.size 5 _ _ _ HST.out), (cell_of_heap (h.block w.heap.size (by omega)) 6).trans (cell_of_row W1 w.heap.size 6 _ _ _ HST.out), (cell_of_heap (h.block w.heap.size (by omega)) 7).trans (cell_of_row W1 w.heap.size 7 _ _ _ HST.out), (cell_of_heap (h.block w.heap.size (by omega)) 8).trans (cell_of_row W1 w.heap.size 8 _ _ _ HST.out), (cell_of_heap (h.block w.heap.size (by omega)) 9).trans (cell_of_row W1 w.heap.size 9 _ _ _ HST.out), (cell_of_heap (h.block w.heap.size (by omega)) 10).trans (cell_of_row W1 w.heap.size 10 _ _ _ HST.out), (cell_of_heap (h.block w.heap.size (by omega)) 11).trans (cell_of_row W1 w.heap.size 11 _ _ _ HST.out), (cell_of_heap (h.block w.heap.size (by omega)) 12).trans (cell_of_row W1 w.heap.size 12 _ _ _ HST.out), (cell_of_heap (h.block (w.heap.size + 1) (by omega)) 2).trans (cell_of_row W1 (w.heap.size + 1) 2 _ _ _ HND.out), (cell_of_heap (h.block (w.heap.size + 1) (by omega)) 3).trans (cell_of_row W1 (w.heap.size + 1) 3 _ _ _ HND.out), (cell_of_heap ((h.block ng (by omega)).trans (B1.out.block ng hng)) k).trans qn, (cell_of_heap ((h.block g (by omega)).trans (B1.out.block g hg)) (k * 4)).trans q0, (cell_of_heap ((h.block g (by omega)).trans (B1.out.block g hg)) (k * 4 + 1)).trans q1, (cell_of_heap ((h.block g (by omega)).trans (B1.out.block g hg)) (k * 4 + 2)).trans q2, (cell_of_heap ((h.block g (by omega)).trans (B1.out.block g hg)) (k * 4 + 3)).trans q3⟩)
      have hLk : L[k]? = some (nm.data.toList ++ [58, 32] ++ Ind.wr p.data.toList i.data.toList T ((d : Int) + 1)) := by rw [HL.out]; exact wrM_get _ _ _ names kids k nm T hnm2 hT
      have hlk := within_part p.data.toList i.data.toList 123 125 (d : Int) L k _ hLk
      rw [List.length_append] at hlk
      have WK := Lib.hid (fun (W : World) (hbw : Below W1.heap.size W1 W) (hsz : W1.heap.size ≤ W.heap.size) => show Calls Tryz.prog 11 #[styl p i, .agg #[.int .u8 (kd : Int), .string tx, .slice a1 n1 x1, .slice a2 n2 x2], .int .i64 ((d : Int) + 1)] W fun e w' => (∃ t : ByteArray, e = .returned (.string t) ∧ t.size ≤ 50000000 ∧ L[k]? = some (nm ++ ⟨#[58, 32]⟩ ++ t).data.toList) ∧ Below W.heap.size W w' by
        have h1 := HKK.out k T hT W D _ _ _ _ (d + 1) (hr.frame (w' := W) (fun g hg => (hbw.block g (by have := HD.out g hg; omega)).trans (B1.out.block g (HD.out g hg))) (fun g hg => hg)) (fun g hg => by have := HD.out g hg; omega) (by omega) (by rw [show (((d + 1 : Nat)) : Int) = (d : Int) + 1 by omega]; have := HLEN.out; omega)
        rw [show (((d + 1 : Nat)) : Int) = (d : Int) + 1 by omega] at h1
        exact h1.mono fun e w' ⟨⟨t, e1, e2⟩, e3⟩ => ⟨⟨t, e1, by rw [← size_eq, e2]; have := HLEN.out; omega, by rw [hLk, data_append, data_append, e2]⟩, e3⟩)
      obtain ⟨gp, hgp⟩ : ∃ gp : ByteArray, gp = ⟨#[58, 32]⟩ := ⟨_, rfl⟩
      have hgz : gp.size = 2 := by rw [hgp]; rfl
      rw [← hgp] at WK
      have GAP := Lib.hid (fun W => gap_two W)
      rw [← hgp] at GAP
      have add1 : (9223372036854775807 < nm.size + 2) = False := eq_false (by omega)
      have hwd : IntKind.i64.wrap ((d : Int) + 1) = (d : Int) + 1 := IntWalk.i64_in _ (by omega)
      have hszr : W1.heap.size ≤ wr.heap.size := hb.size
      have hg1 : g < W1.heap.size := by omega
      have hng1 : ng < W1.heap.size := by omega
      have hgr : g < wr.heap.size := by omega
      have hngr : ng < wr.heap.size := by omega
      have hsr : w.heap.size + 1 < wr.heap.size := by omega
      have kk0 : (0 : Int) ≤ (k : Int) := by omega
      have kk1 : (k : Int) < (n : Int) := by omega
      have hk6 : k < 1000000 := by omega
      have HBD := Lib.hid (show Below W1.heap.size W1 wr.drew from ⟨hb.os, hb.tape, hb.output, hb.size, hb.block⟩)
      clear hb hv hpt hT q0 q1 q2 q3 hr hz hLk hlk hnm2 hsafe qn hov hne hnc hoc hgp
      go_wp2_with fail
      go_region_held3 (fun w' => w'.cell? ⟨w.heap.size, 0, none⟩ = some (.bool false) ∧ w'.cell? ⟨w.heap.size, 1, none⟩ = some (.bool false) ∧ w'.cell? ⟨w.heap.size, 2, none⟩ = some (.bool false) ∧ w'.cell? ⟨w.heap.size, 3, none⟩ = some (.bool false) ∧ w'.cell? ⟨w.heap.size, 4, none⟩ = some (.bool true) ∧ w'.cell? ⟨w.heap.size, 5, none⟩ = some (.bool false) ∧ w'.cell? ⟨w.heap.size, 6, none⟩ = some (.bool false) ∧ w'.cell? ⟨w.heap.size, 7, none⟩ = some (.bool false) ∧ w'.cell? ⟨w.heap.size, 8, none⟩ = some (.bool true) ∧ w'.cell? ⟨w.heap.size, 9, none⟩ = some (.bool true) ∧ w'.cell? ⟨w.heap.size, 10, none⟩ = some (.bool false) ∧ w'.cell? ⟨w.heap.size, 11, none⟩ = some (.string i) ∧ w'.cell? ⟨w.heap.size, 12, none⟩ = some (.string p) ∧ w'.cell? ⟨w.heap.size + 1, 2, none⟩ = some (.slice (some ⟨ng, 0, none⟩) n nc) ∧ w'.cell? ⟨w.heap.size + 1, 3, none⟩ = some (.slice (some ⟨g, 0, none⟩) n kc) ∧ w'.cell? ⟨ng, k, none⟩ = some (.string nm) ∧ w'.cell? ⟨g, k * 4, none⟩ = some (.int .u8 (kd : Int)) ∧ w'.cell? ⟨g, k * 4 + 1, none⟩ = some (.string tx) ∧ w'.cell? ⟨g, k * 4 + 2, none⟩ = some (.slice a1 n1 x1) ∧ w'.cell? ⟨g, k * 4 + 3, none⟩ = some (.slice a2 n2 x2)) (first | exact FA.out _ HBD.out | exact FA.out _ HB4.out | exact FA.out _ HB6.out | exact FA.out _ (HB6.out.alloc hsz6 _) | exact FA.out _ B7.out) (first
        | (refine step_pushS el_text rfl (.tmp 25) (.tmp 47) rfl W1.heap.size k (ss.map .string) (HV6.out.alloc _) (by rfl) ⟨w6.heap.size, 0, none⟩ 1 (.string (nm ++ gp ++ t6)) (by rfl) (one_new w6 _ _) (by intro u hu; simp at hu; subst hu; rfl) hk6 (by simp; omega) ?_
           intro q cap3 w7 own7 grow7 at7
           have OWN7 := Lib.hid own7
           have B7 := Lib.hid (below_push HB6.out hsz6 _ HV6.out grow7)
           have GROW7 := Lib.hid grow7
           have AT7 := Lib.hid at7
           clear own7 grow7 at7)
        | (go_at_call 21
           refine (stringText_any p i nm (by omega) _).mono ?_
           rintro e w4 ⟨rfl, b4⟩
           have hB4 := below_step HBD.out b4
           have HB4 := Lib.hid hB4
           have HV4 := Lib.hid (ownsRow_same HV.out (fun g hg => b4.block g (ownsRow_at HV.out g hg).2))
           have HOV4 := Lib.hid (ownsRow_same HOV.out (fun g hg => b4.block g (ownsRow_at HOV.out g hg).2))
           have hsz4 : W1.heap.size ≤ w4.heap.size := hB4.size
           clear b4 hB4)
        | (go_at_call 22
           refine (GAP.out _).mono ?_
           rintro e w5 ⟨rfl, rfl⟩)
        | (go_at_call 11
           refine (WK.out _ HB4.out hsz4).mono ?_
           rintro e w6 ⟨⟨t6, rfl, ht6, hl6⟩, b6⟩
           have hB6 := below_step HB4.out b6
           have HB6 := Lib.hid hB6
           have HL6 := Lib.hid hl6
           have add6 : (9223372036854775807 < nm.size + 2 + t6.size) = False := eq_false (by omega)
           have HV6 := Lib.hid (ownsRow_same HV4.out (fun g hg => b6.block g (ownsRow_at HV4.out g hg).2))
           have HOV6 := Lib.hid (ownsRow_same HOV4.out (fun g hg => b6.block g (ownsRow_at HOV4.out g hg).2))
           have hsz6 : W1.heap.size ≤ w6.heap.size := hB6.size
           clear b6 hB6 hl6))
      all_goals
        have hov7 : w7.ownsRow (W1.heap.size + 1) 3 1 (.slice (some ⟨og, 0, none⟩) n oc) n ((List.range n).map I64) := ownsRow_same HOV6.out (fun g hg => (GROW7.out.block g (by have := (ownsRow_at HOV6.out g hg).2; simp; omega) (fun e => HNE.out g e.symm hg)).trans (Below.heap_alloc _ _ g (ownsRow_at HOV6.out g hg).2))
        have hne7 : ∀ x, (Value.slice (some ⟨q, 0, none⟩) (k + 1) cap3).ownBlock = some x → (Value.slice (some ⟨og, 0, none⟩) n oc).ownBlock ≠ some x := fun x hx hy => by
          rcases AT7.out with e | e
          · exact HNE.out x (e ▸ hx) hy
          · have h1 := e x hx
            have h2 := (ownsRow_at HOV6.out x hy).2
            simp at h1
            omega
        have HOV7 := Lib.hid hov7
        have HNE7 := Lib.hid hne7
        clear hov7 hne7
        go_wp2_with fail
        go_roundw
        case rel => exact ⟨B7.out, k + 1, ss ++ [nm ++ gp ++ t6], by simp, by omega, HP.out.push HL6.out, by rw [List.map_append]; exact OWN7.out, HOV7.out, HNE7.out⟩
        case measure => simp only [intOf]; omega
    · obtain rfl : k = n := by omega
      have hz := HZ1.out
      have hrow := (hb.block w.heap.size (by omega)).trans HST.out
      have c0 := cell_of_row wr w.heap.size 0 _ _ _ hrow
      have c1 := cell_of_row wr w.heap.size 1 _ _ _ hrow
      have c2 := cell_of_row wr w.heap.size 2 _ _ _ hrow
      have c3 := cell_of_row wr w.heap.size 3 _ _ _ hrow
      have c4 := cell_of_row wr w.heap.size 4 _ _ _ hrow
      have c5 := cell_of_row wr w.heap.size 5 _ _ _ hrow
      have c6 := cell_of_row wr w.heap.size 6 _ _ _ hrow
      have c7 := cell_of_row wr w.heap.size 7 _ _ _ hrow
      have c8 := cell_of_row wr w.heap.size 8 _ _ _ hrow
      have c9 := cell_of_row wr w.heap.size 9 _ _ _ hrow
      have c10 := cell_of_row wr w.heap.size 10 _ _ _ hrow
      have c11 := cell_of_row wr w.heap.size 11 _ _ _ hrow
      have c12 := cell_of_row wr w.heap.size 12 _ _ _ hrow
      have hsr : w.heap.size < wr.heap.size := by have := hb.size; omega
      clear hb hv hpt hrow hz hov hne
      go_wp2_with fail
      refine (parts_done p i hp hi 123 125 d (by omega) k W1.heap.size hk L HLL.out ss HP.out _ _ HV.out HLEN.out).mono ?_
      rintro e w2 ⟨⟨t, rfl, ht⟩, hb2⟩
      have HT := Lib.hid ht
      have HB2 := Lib.hid hb2
      clear ht hb2
      go_wp2_with fail
      go_ret
      exact ⟨⟨t, rfl, HT.out⟩, B1.out.trans ((below_step HB.out HB2.out).mono (by have := HZ1.out; omega))⟩

end Go.Proofs.YtlgmdcaoogiooaaGreatDoor.Sty
