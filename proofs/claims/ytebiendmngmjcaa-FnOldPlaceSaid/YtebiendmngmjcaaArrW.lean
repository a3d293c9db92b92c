/- The walk of the reader's 'array', over that of 'value'. -/
import Derived.Test.YtebiendmngmjcaaScalW
import Derived.Deep.CutRange
import Derived.Deep.RegionLaw
import Derived.Deep.DrawnRows
namespace Go.Proofs.Ytebiendmngmjcaa
open Go.RowKit

attribute [local go_sem ↓] Go.wp_at_zero Go.wp_at_succ

/-- The cells of a row's last element. -/
theorem row_last {w : World} {B : Nat} {e : TypeId} {g n cap : Nat} {cells : List Value} {z0 z1 z2 z3 : Value} (h : w.ownsRow B e 4 (.slice (some ⟨g, 0, none⟩) (n + 1) cap) (n + 1) (cells ++ [z0, z1, z2, z3])) (hl : cells.length = n * 4) :
    (w.cell? ⟨g, n * 4, none⟩ = some z0 ∧ w.cell? ⟨g, n * 4 + 1, none⟩ = some z1 ∧ w.cell? ⟨g, n * 4 + 2, none⟩ = some z2 ∧ w.cell? ⟨g, n * 4 + 3, none⟩ = some z3) ∧
    (w.frozen? ⟨g, n * 4, none⟩ = false ∧ w.frozen? ⟨g, n * 4 + 1, none⟩ = false ∧ w.frozen? ⟨g, n * 4 + 2, none⟩ = false ∧ w.frozen? ⟨g, n * 4 + 3, none⟩ = false) := by
  rcases h.2 with ⟨h2, _⟩ | ⟨g', cap', cur, hv, hb, hg, h1, h2, h3, h4⟩
  · cases h2
  simp only [Value.slice.injEq, Option.some.injEq, Addr.mk.injEq, and_true, true_and] at hv
  obtain ⟨rfl, rfl⟩ := hv
  have hc : ∀ j, (hj : j < 4) → w.cell? ⟨g, n * 4 + j, none⟩ = ([z0, z1, z2, z3] : List Value)[j]? := fun j hj => by
    rw [cell_of_row w g (n * 4 + j) _ _ _ hg]
    have e1 : (cur.toList.take ((n + 1) * 4))[n * 4 + j]? = cur.toList[n * 4 + j]? := by rw [List.getElem?_take]; rw [if_pos (by omega)]
    rw [← Array.getElem?_toList, ← e1, h4, List.getElem?_append_right (by omega), hl, Nat.add_sub_cancel_left]
  exact ⟨⟨hc 0 (by omega), hc 1 (by omega), hc 2 (by omega), hc 3 (by omega)⟩, frozen_of_row w g _ _ _ hg, frozen_of_row w g _ _ _ hg, frozen_of_row w g _ _ _ hg, frozen_of_row w g _ _ _ hg⟩

/-- What 'value' leaves. -/
structure VRes (w : World) (b : Nat) (s : ByteArray) (k : Nat) (f : Int) (op : Bool) (ok : Bool) (q : Nat) (kd : Nat) (tx : ByteArray) (nv kv : Value) (w' : World) : Prop where
  ge : k ≤ q
  st : Stood w b s true true f op ok q w'
  nl : ∃ a n c, nv = .slice a n c
  kl : ∃ a n c, kv = .slice a n c
  says : ∀ g, On g → g.st = .bv → Says g s.data.toList k (after g) (ok, q)
  tree : ok = true → ∃ T, Val s k q T ∧ Rep w' (fun g => w.heap.size ≤ g ∧ g < w'.heap.size) T [.int .u8 ((kd : Nat) : Int), .string tx, nv, kv]

def ValC (N : Nat) : Prop := ∀ (b : Nat) (s : ByteArray) (k : Nat) (f : Int) (op : Bool) (w : World), s.size ≤ 100000000000 → Rd w b s k true true f op → s.size - k < N →
  Calls Try.prog 11 #[.pointer (some ⟨b, 0, none⟩)] w fun e w' => ∃ ok q kd tx nv kv, e = .returned (.tuple #[.agg #[.int .u8 ((kd : Nat) : Int), .string tx, nv, kv], .bool ok]) ∧ VRes w b s k f op ok q kd tx nv kv w'

def ArrOk (s : ByteArray) (k q : Nat) (kids : List Tr) : Prop :=
  (s.data.toList[mSpace s.data.toList k]? = some 93 ∧ q = mSpace s.data.toList k + 1 ∧ kids = []) ∨ (s.data.toList[mSpace s.data.toList k]? ≠ some 93 ∧ Elems s (mSpace s.data.toList k) q kids)

/-- What 'array' leaves. -/
structure ArRes (w : World) (B b nb : Nat) (s : ByteArray) (k : Nat) (f : Int) (op : Bool) (kind : Nat) (tx : ByteArray) (ok : Bool) (q : Nat) (w' : World) : Prop where
  ge : k ≤ q
  fr : Fr B b nb w w'
  rd : ∃ f', Rd w' b s q true true f' op ∧ (ok = true → f' = f) ∧ (ok = false → f' ≠ 0)
  nd : ∃ nv kv names kids, Nd w' B nb kind tx nv kv names kids ∧ (ok = true → names = [] ∧ ArrOk s k q kids)
  says : ∀ g, On g → Says (g.push .bve 2) s.data.toList k (after g) (ok, q)

/-- The loop of 'array', between two elements. -/
structure ArI (w : World) (B b nb : Nat) (s : ByteArray) (k : Nat) (f : Int) (op : Bool) (kind : Nat) (tx : ByteArray) (j : Nat) (kv : Value) (kids : List Tr) (w' : World) : Prop where
  ge : k ≤ j
  le : kids.length ≤ j
  fr : Fr B b nb w w'
  rd : Rd w' b s j true true f op
  nd : Nd w' B nb kind tx (.slice none 0 0) kv [] kids
  says : ∀ g, On g → fin (g.push .bve 2) k (s.data.toList.drop k) = fin (g.push .bv 2) j (s.data.toList.drop j)
  els : ∀ q ks, Elems s j q ks → Elems s (mSpace s.data.toList k) q (kids ++ ks)

set_option maxRecDepth 100000 in
set_option maxHeartbeats 4000000 in
theorem array_any (M : Nat) (hV : ValC M) (B b nb : Nat) (s : ByteArray) (k : Nat) (f : Int) (op : Bool) (kind : Nat) (tx : ByteArray) (w : World) (hs : s.size ≤ 100000000000) (hb : b < nb)
    (h : Rd w b s k true true f op) (hn : Nd w B nb kind tx (.slice none 0 0) (.slice none 0 0) [] []) (hM : s.size - k < M) :
    Calls Try.prog 20 #[.pointer (some ⟨b, 0, none⟩), .pointer (some ⟨nb, 0, none⟩)] w fun e w' => ∃ ok q, e = .returned (.bool ok) ∧ ArRes w B b nb s k f op kind tx ok q w' := by
  have hlt := h.lt
  have hle := h.le
  have hlt2 := hn.lt
  have H := Lib.hid h
  have N := Lib.hid hn
  have V := Lib.hid hV
  have HM := Lib.hid hM
  have hBle := hn.le
  have hlo := hn.lo
  clear h hn hV hM
  obtain ⟨L, hL⟩ : ∃ L, L = s.data.toList := ⟨_, rfl⟩
  have hLs : L.length = s.size := by rw [hL, size_eq]
  have HL := Lib.hid hL
  have HLs := Lib.hid hLs
  clear hL hLs
  go_enter Try.func20, Try.ntmps20
  go_wp2_with fail
  refine (space_any b s k true true f op _ (by omega) H.out).mono ?_
  rintro e w1 ⟨rfl, hrd, hgr⟩
  rw [← HL.out] at hrd
  obtain ⟨i, hi⟩ : ∃ i, mSpace L k = i := ⟨_, rfl⟩
  rw [hi] at hrd
  have HI := Lib.hid hi
  have hki : k ≤ i := by rw [← hi]; exact mSpace_ge L k
  have RD := Lib.hid hrd
  have ND := Lib.hid (N.out.grown hgr hb)
  have FR := Lib.hid (Fr.grown (nb := nb) hBle hgr)
  clear hrd hgr hi
  go_wp2_with fail
  refine (see_any b s i true true f op _ RD.out).mono ?_
  rintro e w2 ⟨rfl, n, rfl⟩
  rw [← HL.out]
  obtain ⟨c, hc⟩ : ∃ c, seeB L i = c := ⟨_, rfl⟩
  rw [hc]
  have HC := Lib.hid hc
  clear hc
  have RD2 := Lib.hid (RD.out.drewN n)
  have ND2 := Lib.hid (ND.out.grown (grown_drewN (grown_refl w1 (some b)) n) hb)
  have FR2 := Lib.hid (FR.out.trans (Fr.grown (nb := nb) ND.out.le (grown_drewN (grown_refl w1 (some b)) n)))
  obtain ⟨w2, hw2⟩ : ∃ w2, w2 = w1.drewN n := ⟨_, rfl⟩
  rw [← hw2] at RD2 ND2 FR2 ⊢
  clear hw2
  have hki2 : i ≤ s.size := RD2.out.le
  obtain ⟨c0, c1, c3, c4, f1, f4⟩ := RD2.out.cells
  have hltr := RD2.out.lt
  by_cases h93 : c = 93
  · have hi93 : L[i]? = some 93 := by
      obtain ⟨d, h1, h2⟩ := seeB_get (c := 93) (HC.out.trans h93) (by decide)
      rw [h1, (UInt8.toNat_inj.1 h2 : d = 93)]
    have HI93 := Lib.hid hi93
    have hil : i < s.size := by rw [← HLs.out]; exact (List.getElem?_eq_some_iff.1 hi93).1
    clear hi93
    subst h93
    have hset := RD2.out.setAt (i + 1) hil
    have hset' : Rd (w2.setCell ⟨b, 1, none⟩ (.int .i64 ((i : Int) + 1))) b s (i + 1) true true f op := by simpa using hset
    have RS := Lib.hid hset'
    have NS := Lib.hid (ND2.out.grown (grown_set (grown_refl w2 (some b)) 1 (.int .i64 ((i : Int) + 1))) hb)
    have FrS := Lib.hid (FR2.out.trans (Fr.setR w2 1 (.int .i64 ((i : Int) + 1))))
    clear hset hset'
    go_wp2_with fail
    go_ret
    refine ⟨true, i + 1, rfl, by omega, FrS.out, ⟨f, RS.out, fun _ => rfl, fun e => by cases e⟩, ⟨_, _, _, _, NS.out, fun _ => ⟨rfl, .inl ⟨by rw [← HL.out, HI.out]; exact HI93.out, by rw [← HL.out, HI.out], rfl⟩⟩⟩, fun g hg => ?_⟩
    rw [← HL.out]
    have e1 := space_bve hg L k
    rw [HI.out] at e1
    have hB : On (g.push .bve 2) := hg.push (fun e => by cases e) (by simp)
    exact ⟨by rw [HLs.out]; exact hil, fun _ => e1.trans (fin_yes hB HI93.out (step_bve_shut g _)), fun e => by cases e⟩
  · have n93 : (c == 93) = false := by rw [beq_eq_false_iff_ne]; exact h93
    have hno : ∀ d, L[i]? = some d → ¬ isSp d.toNat ∧ d ≠ 93 := fun d hd => ⟨by have := not_sp_at L k d; rw [HI.out] at this; exact this hd, fun e => h93 (by rw [← HC.out, seeB_some hd, e]; rfl)⟩
    have HNO := Lib.hid hno
    clear hno h93
    go_wp2_with fail
    go_loopw [5, 6] (fun _ _ wr => ∃ j kv kids, ArI w B b nb s k f op kind tx j kv kids wr) (fun _ _ wr => s.size - atOf wr b)
    case atStart =>
      refine ⟨i, _, [], hki, Nat.zero_le _, FR2.out, RD2.out, ND2.out, fun g hg => ?_, fun q ks hq => ?_⟩
      · rw [← HL.out]
        have e1 := space_bve hg L k
        rw [HI.out] at e1
        exact e1.trans (fin_bve hg L i HNO.out)
      · rw [← HL.out, HI.out]
        exact hq
    case round =>
      obtain ⟨j, kv, kids, hI⟩ := hrel
      have I := Lib.hid hI
      have hjs := hI.rd.le
      have hkj := hI.ge
      have hat := Lib.hid hI.rd.atOf
      clear hI
      go_wp2_with fail
      refine (V.out b s j f op _ hs I.out.rd (by have := HM.out; omega)).mono ?_
      rintro e w3 ⟨ok, q, kd, ktx, knv, kkv, rfl, hv⟩
      obtain ⟨a1, n1, c1', rfl⟩ := hv.nl
      obtain ⟨a2, n2, c2', rfl⟩ := hv.kl
      have VR := Lib.hid hv
      have hjq := hv.ge
      have I3 := Lib.hid (I.out.nd.grown hv.st.grown hb)
      have FR3 := Lib.hid (I.out.fr.trans (Fr.grown (nb := nb) I.out.nd.le hv.st.grown))
      have hB3 := I3.out.le
      clear hv c0 c1 c3 c4 f1 f4
      have hq1 := VR.out.st.rd
      obtain ⟨f', hrd3, hf1, hf2⟩ := hq1
      have R3 := Lib.hid hrd3
      have F1 := Lib.hid hf1
      have F2 := Lib.hid hf2
      have hqs := hrd3.le
      have hlt3 := hrd3.lt
      have hln3 := I3.out.lt
      clear hrd3 hf1 hf2
      cases ok with
      | false =>
        go_wp2_with fail
        go_ret
        refine ⟨false, q, rfl, by omega, FR3.out.trans ((Fr.refl B b nb w3).alloc hB3 _), ⟨f', R3.out.same (Below.heap_alloc w3 _ b hlt3), (fun e => by cases e), fun _ => F2.out trivial⟩, ⟨_, _, _, _, I3.out.alloc _, fun e => by cases e⟩, fun g hg => ?_⟩
        have hP : On (g.push .bv 2) := hg.push (fun e => by cases e) (by simp)
        have h1 := VR.out.says _ hP rfl
        refine Says.thru (I.out.says g hg) ⟨h1.1, fun e => (by cases e), h1.2.2⟩
      | true =>
        obtain rfl := F1.out rfl
        obtain ⟨ka, kc, rfl⟩ := ownsRow_slice I3.out.kids.choose_spec.1
        obtain ⟨cells, hcells, D, hD, hrep⟩ := I3.out.kids
        have CELLS := Lib.hid hcells
        have HD := Lib.hid hD
        have HREP := Lib.hid hrep
        clear hcells hD hrep
        go_upto_region 8 with fail
        obtain ⟨W, hW⟩ : ∃ W, W = w3.alloc (.cells #[.int .u8 ((kd : Nat) : Int), .string ktx, .slice a1 n1 c1', .slice a2 n2 c2'] 30) := ⟨_, rfl⟩
        rw [← hW]
        have hWkb : W.heap[w3.heap.size]? = some (.cells #[.int .u8 ((kd : Nat) : Int), .string ktx, .slice a1 n1 c1', .slice a2 n2 c2'] 30 (0, 0)) := by rw [hW]; exact heap_alloc_new w3 _
        have hWsz : W.heap.size = w3.heap.size + 1 := by rw [hW]; simp
        have hGW : w3.grownBy W none := by rw [hW]; exact grown_alloc (grown_refl w3 none) _
        have NDW := Lib.hid (show Nd W B nb kind tx (.slice none 0 0) (.slice ka kids.length kc) [] kids by rw [hW]; exact I3.out.alloc _)
        have CELLW := Lib.hid (ownsRow_same (w' := W) CELLS.out (fun g hg => hGW.block g (ownsRow_at CELLS.out g hg).2 (by simp)))
        have HGW := Lib.hid hGW
        have HWKB := Lib.hid hWkb
        have HWSZ := Lib.hid hWsz
        have e0 := cell_of_row W w3.heap.size 0 _ _ _ hWkb
        have e1 := cell_of_row W w3.heap.size 1 _ _ _ hWkb
        have e2 := cell_of_row W w3.heap.size 2 _ _ _ hWkb
        have e3 := cell_of_row W w3.heap.size 3 _ _ _ hWkb
        obtain ⟨_, _, _, d3, _, _, _, g3⟩ := NDW.out.cells
        obtain ⟨kb, hkb⟩ : ∃ kb, kb = w3.heap.size := ⟨_, rfl⟩
        rw [← hkb] at e0 e1 e2 e3 ⊢
        have HKB := Lib.hid hkb
        obtain ⟨T, hval, hrepT⟩ := VR.out.tree rfl
        have HVAL := Lib.hid hval
        have HREPT := Lib.hid (hrepT.frame (w' := W) (D' := fun g => wr.heap.size ≤ g ∧ g < w3.heap.size) (fun g hg => hGW.block g hg.2 (by simp)) (fun _ q => q))
        have HD0 := Lib.hid (show ∀ g, (wr.heap.size ≤ g ∧ g < w3.heap.size) → B ≤ g ∧ g < W.heap.size ∧ (Value.slice none 0 0).ownBlock ≠ some g ∧ (Value.slice ka kids.length kc).ownBlock ≠ some g from fun g hg =>
          ⟨by have := I.out.nd.le; omega, by omega, by simp [Value.ownBlock], fun e => by have := (ownsRow_at I.out.nd.kids.choose_spec.1 g e).2; omega⟩)
        have HDW := Lib.hid (show ∀ g, D g → B ≤ g ∧ g < W.heap.size ∧ (Value.slice none 0 0).ownBlock ≠ some g ∧ (Value.slice ka kids.length kc).ownBlock ≠ some g from fun g hg => by obtain ⟨q1, q2, q3⟩ := HD.out g hg; exact ⟨q1, by omega, q3⟩)
        have HREPW := Lib.hid (fun i' T' (hi' : kids[i']? = some T') => (HREP.out i' T' hi').frame (w' := W) (D' := D) (fun g hg => hGW.block g (HD.out g hg).2.1 (by simp)) (fun _ q => q))
        have RDW := Lib.hid (R3.out.same (hGW.block b hlt3 (by simp)))
        have FRW := Lib.hid (FR3.out.trans (Fr.row (B := B) (b := b) (nb := nb) hB3 hGW (fun g e => by cases e)))
        have hbW : b < W.heap.size := by omega
        clear hval hrepT
        clear hW hWkb hWsz hGW hkb
        go_cut [6] from 19 to 51 (fun s6 wx => s6 = .bool true ∧ Rd wx b s q true true f' op ∧ Fr B b nb w wx ∧ ∃ kv' T, Nd wx B nb kind tx (.slice none 0 0) kv' [] (kids ++ [T]) ∧ Val s j q T)
        case first =>
          obtain ⟨i0, hi0, hz0, hz1, hz2⟩ := info_parts nodeInfo
          have h63 : kids.length + 1 ≤ maxLen := by have := I.out.le; unfold maxLen; omega
          have hbyt : (kids.length + 1) * 72 ≤ 140737488355328 := by have := I.out.le; omega
          have hBW := NDW.out.le
          have hlnW := NDW.out.lt
          have hix : ((kids.length : Nat) : Int) < ((kids.length : Nat) : Int) + 1 := by omega
          have hkvb : ∀ g, (Value.slice ka kids.length kc).ownBlock = some g → B ≤ g := fun g hg => (ownsRow_at CELLW.out g hg).1
          have hne1 : some nb ≠ (Value.slice ka kids.length kc).ownBlock := fun e => by have := hkvb nb e.symm; omega
          have hne2 : some b ≠ (Value.slice ka kids.length kc).ownBlock := fun e => by have := hkvb b e.symm; omega
          have HKVB := Lib.hid hkvb
          have hcl : cells.length = kids.length * 4 := CELLW.out.1
          have HCL := Lib.hid hcl
          have x0 : kb < W.heap.size := World.block_lt_of_cell? W _ e0
          have x2 : ¬ W.heap.size = kb := by omega
          have x3 : ¬ W.heap.size = nb := by omega
          clear hkvb hcl
          go_region_law (first | (
            refine step_append_lies _ (by rfl) _ _ _ (by rfl) B 30 i0 _ 4 72 Try.underlying28 hi0 hz0 hz1 hz2 rfl (by omega) (.slice ka kids.length kc) kids.length cells (by rfl) ((ownsRow_same CELLW.out (fun g hg => Below.heap_alloc _ _ g (ownsRow_at CELLW.out g hg).2)).drew)
              ⟨W.heap.size, 0, none⟩ 1 1 [.int .u8 0, .string ⟨#[]⟩, .slice none 0 0, .slice none 0 0] (by rfl) (by rfl) (World.news_of_block (cs := #[.int .u8 0, .string ⟨#[]⟩, .slice none 0 0, .slice none 0 0]) (t := 30) (fr := (0, 0)) (heap_alloc_new W _)) (by simp [Value.oneCell'])
              (by omega) h63 hbyt (by simp; omega) (W.heap.size + 1) (by simp) ?_; intro gg cap w4 hown hgrow hat hlt4; obtain ⟨⟨z0, z1, z2, z3⟩, y0, y1, y2, y3⟩ := row_last hown HCL.out; have hfz : w4.frozen? ⟨nb, 3, none⟩ = false := (hgrow.frozen_far _ (by simp; omega) hne1).trans ((World.frozen?_of_block (a := ⟨nb, 3, none⟩) (Below.heap_alloc W _ nb hlnW)).trans g3); have hcn : w4.cell? ⟨nb, 3, none⟩ = some (.slice ka kids.length kc) := (hgrow.cell_far _ (by simp; omega) hne1).trans ((World.cell?_of_block (a := ⟨nb, 3, none⟩) (Below.heap_alloc W _ nb hlnW)).trans d3); have hgn : gg ≠ nb := fun e => by have := (ownsRow_at hown gg rfl).1; omega))
          all_goals
            go_wp2_with fail
            go_meet
            have hG : W.grownBy w4 (Value.slice ka kids.length kc).ownBlock := (grown_drew (grown_alloc (grown_refl W _) _)).trans hgrow
            have close : ∀ Z, Stored w4 Z nb gg (kids.length * 4) (.slice (some ⟨gg, 0, none⟩) (kids.length + 1) cap) (.int .u8 ((kd : Nat) : Int)) (.string ktx) (.slice a1 n1 c1') (.slice a2 n2 c2') →
                Rd Z b s q true true f' op ∧ Fr B b nb w Z ∧ ∃ kv' T, Nd Z B nb kind tx (.slice none 0 0) kv' [] (kids ++ [T]) ∧ Val s j q T := fun Z hS => by
              have hgB : B ≤ gg := (ownsRow_at hown gg rfl).1
              refine ⟨RDW.out.same ((hS.rest b (by omega) (by omega)).trans (hG.block b (by omega) hne2)), FRW.out.trans ((Fr.row hBW hG HKVB.out).trans (hS.fr hgB)), .slice (some ⟨gg, 0, none⟩) (kids.length + 1) cap, T, ?_, HVAL.out⟩
              exact NDW.out.pushKid CELLW.out HDW.out HREPW.out hG hown (hat.imp id (fun e => by omega)) hS HREPT.out HD0.out
            refine ⟨rfl, close _ ?_⟩
            first
              | with_reducible exact stored_first w4 hgn _ _ _ _ _ _
              | with_reducible exact stored_last w4 hgn _ _ _ _ _ _
        case rest =>
          obtain ⟨rfl, hrdc, hfrc, kv', T', hndc, hvalc⟩ := hcut
          have RC := Lib.hid hrdc
          have FC := Lib.hid hfrc
          have NC := Lib.hid hndc
          have VC := Lib.hid hvalc
          have SQ := Lib.hid (show ∀ g, On g → fin (g.push .bve 2) k (L.drop k) = fin (g.push .ev 2) q (L.drop q) from fun g hg => by
            have hP : On (g.push .bv 2) := hg.push (fun e => by cases e) (by simp)
            have h1 := (VR.out.says _ hP rfl).2.1 rfl
            rw [after_push] at h1
            rw [HL.out]
            exact (I.out.says g hg).trans h1)
          clear hrdc hfrc hndc hvalc e0 e1 e2 e3 d3 g3
          go_wp2_with fail
          refine (space_any b s q true true f' op _ (by omega) RC.out).mono ?_
          rintro e w5 ⟨rfl, hrd5, hgr5⟩
          rw [← HL.out] at hrd5
          obtain ⟨i2, hi2⟩ : ∃ i2, mSpace L q = i2 := ⟨_, rfl⟩
          rw [hi2] at hrd5
          have HI2 := Lib.hid hi2
          have hqi2 : q ≤ i2 := by rw [← hi2]; exact mSpace_ge L q
          have R5 := Lib.hid hrd5
          have N5 := Lib.hid (NC.out.grown hgr5 hb)
          have F5 := Lib.hid (FC.out.trans (Fr.grown (nb := nb) NC.out.le hgr5))
          clear hrd5 hgr5 hi2
          go_wp2_with fail
          refine (see_any b s i2 true true f' op _ R5.out).mono ?_
          rintro e w6 ⟨rfl, n6, rfl⟩
          rw [← HL.out]
          obtain ⟨c6, hc6⟩ : ∃ c6, seeB L i2 = c6 := ⟨_, rfl⟩
          rw [hc6]
          have HC6 := Lib.hid hc6
          clear hc6
          have R6 := Lib.hid (R5.out.drewN n6)
          have N6 := Lib.hid (N5.out.grown (grown_drewN (grown_refl w5 (some b)) n6) hb)
          have F6 := Lib.hid (F5.out.trans (Fr.grown (nb := nb) N5.out.le (grown_drewN (grown_refl w5 (some b)) n6)))
          obtain ⟨w6, hw6⟩ : ∃ w6, w6 = w5.drewN n6 := ⟨_, rfl⟩
          rw [← hw6] at R6 N6 F6 ⊢
          clear hw6
          have hi2s : i2 ≤ s.size := R6.out.le
          obtain ⟨c0, c1, c3, c4, f1, f4⟩ := R6.out.cells
          have hltr6 := R6.out.lt
          by_cases k93 : c6 = 93
          · have hi93 : L[i2]? = some 93 := by
              obtain ⟨d, h1, h2⟩ := seeB_get (c := 93) (HC6.out.trans k93) (by decide)
              rw [h1, (UInt8.toNat_inj.1 h2 : d = 93)]
            have HI93 := Lib.hid hi93
            have hil : i2 < s.size := by rw [← HLs.out]; exact (List.getElem?_eq_some_iff.1 hi93).1
            clear hi93
            subst k93
            have hset := R6.out.setAt (i2 + 1) hil
            have hset' : Rd (w6.setCell ⟨b, 1, none⟩ (.int .i64 ((i2 : Int) + 1))) b s (i2 + 1) true true f' op := by simpa using hset
            have RS := Lib.hid hset'
            have NS := Lib.hid (N6.out.grown (grown_set (grown_refl w6 (some b)) 1 (.int .i64 ((i2 : Int) + 1))) hb)
            have FrS := Lib.hid (F6.out.trans (Fr.setR w6 1 (.int .i64 ((i2 : Int) + 1))))
            clear hset hset'
            go_wp2_with fail
            go_ret
            refine ⟨true, i2 + 1, rfl, by omega, FrS.out, ⟨f', RS.out, fun _ => rfl, fun e => by cases e⟩, ⟨_, _, _, _, NS.out, fun _ => ⟨rfl, .inr ⟨?_, ?_⟩⟩⟩, fun g hg => ?_⟩
            · rw [← HL.out, HI.out]
              intro e
              have := HNO.out 93 e
              exact this.2 rfl
            · exact I.out.els _ _ (.last VC.out (by rw [← HL.out, HI2.out]) (by rw [← HL.out]; exact HI93.out))
            · rw [← HL.out]
              refine Says.thru (SQ.out g hg) ?_
              have hb3 := (says_behind hg (l := L) (k := q) (p := 2) (shut := 93) (.inr ⟨rfl, rfl⟩) (by rw [HLs.out]; omega)).1
              rw [HI2.out] at hb3
              exact hb3 HI93.out
          · have n93' : (c6 == 93) = false := by rw [beq_eq_false_iff_ne]; exact k93
            have hno93 : L[i2]? ≠ some 93 := fun e => k93 (by rw [← HC6.out, seeB_some e]; rfl)
            have HNO93 := Lib.hid hno93
            clear hno93 k93
            go_wp2_with fail
            refine (need_any b s i2 true true f' op 44 44 _ (by omega) R6.out).mono ?_
            rw [← HL.out]
            cases hm : (mNeed L 44 44 i2).1 with
            | false =>
              have hmn : mNeed L 44 44 i2 = (false, i2) := mNeed_no hm
              rw [hmn]
              have HM2 := Lib.hid hm
              clear hm hmn
              rintro e w7 ⟨rfl, hst⟩
              have X := Lib.hid hst
              have N7 := Lib.hid (N6.out.grown hst.grown hb)
              have F7 := Lib.hid (F6.out.trans (Fr.grown (nb := nb) N6.out.le hst.grown))
              clear hst
              go_wp2_with fail
              go_ret
              refine ⟨false, i2, rfl, by omega, F7.out, X.out.rd, ⟨_, _, _, _, N7.out, fun e => by cases e⟩, fun g hg => ?_⟩
              rw [← HL.out]
              refine Says.thru (SQ.out g hg) ?_
              have hb3 := (says_behind hg (l := L) (k := q) (p := 2) (shut := 93) (.inr ⟨rfl, rfl⟩) (by rw [HLs.out]; omega)).2.2
              rw [HI2.out] at hb3
              exact hb3 HNO93.out HM2.out _
            | true =>
              have hmn : mNeed L 44 44 i2 = (true, i2 + 1) := mNeed_yes hm
              rw [hmn]
              have HM2 := Lib.hid hm
              have h44 : L[i2]? = some 44 := by
                obtain ⟨d, hd, q1, q2⟩ := mNeed_pos hm
                rw [hd, (UInt8.toNat_inj.1 (by show d.toNat = 44; omega) : d = 44)]
              have H44 := Lib.hid h44
              clear hm hmn h44
              rintro e w7 ⟨rfl, hst⟩
              have X := Lib.hid hst
              have N7 := Lib.hid (N6.out.grown hst.grown hb)
              have F7 := Lib.hid (F6.out.trans (Fr.grown (nb := nb) N6.out.le hst.grown))
              have hat7 := Lib.hid hst.yes.atOf
              clear hst
              go_wp2_with fail
              refine ⟨⟨i2 + 1, kv', kids ++ [T'], by omega, by have := I.out.le; simp; omega, F7.out, X.out.yes, N7.out, fun g hg => ?_, fun q' ks hq' => ?_⟩, by rw [hat.out, hat7.out]; have := X.out.yes.le; omega⟩
              · rw [← HL.out]
                refine (SQ.out g hg).trans ?_
                have hb3 := (says_behind hg (l := L) (k := q) (p := 2) (shut := 93) (.inr ⟨rfl, rfl⟩) (by rw [HLs.out]; omega)).2.1
                rw [HI2.out] at hb3
                exact (hb3 HNO93.out HM2.out).2
              · rw [List.append_assoc]
                exact I.out.els _ _ (.more VC.out (by rw [← HL.out, HI2.out]) (by rw [← HL.out]; exact H44.out) hq')

end Go.Proofs.Ytebiendmngmjcaa
