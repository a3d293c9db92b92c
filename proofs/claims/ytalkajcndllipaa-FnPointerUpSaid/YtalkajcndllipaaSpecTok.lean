/- The reference's tokens; two lists of texts. -/
import Derived.Test.YtalkajcndllipaaTokens
import Derived.Maps.AppendAt
namespace Go.Proofs.Ytalkajcndllipaa
open Go.RowKit

/-- Between two rounds of the reference's loop. -/
structure SInv (w : World) (l : List UInt8) (k : Nat) (v : Value) (out : List (List UInt8)) (wr : World) : Prop where
  row : ∃ g c, v = .slice (some ⟨g, 0, none⟩) out.length c ∧ wr.ownsRow w.heap.size 9 1 (.slice (some ⟨g, 0, none⟩) out.length c) out.length (out.map tokV)
  below : Below w.heap.size w wr
  all : scan (l.drop k) out = scan l []
  ok : TOk (l.drop k)
  some_ : 0 < k → out ≠ []
  small : ∀ t ∈ out, t.length ≤ k
  few : out.length ≤ k

theorem drop_at {l : List UInt8} {k : Nat} (h : k < l.length) : l.drop k = l[k] :: l.drop (k + 1) := List.drop_eq_getElem_cons h

theorem at_esc {l : List UInt8} {k : Nat} (h : TOk (l.drop k)) (hk : k < l.length) (hc : l[k] = 126) : ∃ h1 : k + 1 < l.length, (l[k + 1] = 48 ∨ l[k + 1] = 49) ∧ TOk (l.drop (k + 2)) := by
  rw [drop_at hk, hc] at h
  cases hd : l.drop (k + 1) with
  | nil =>
    rw [hd] at h
    cases h with
    | plain _ _ hne _ => exact absurd rfl hne
  | cons d t =>
    have h1 : k + 1 < l.length := by
      have := congrArg List.length hd
      rw [List.length_drop, List.length_cons] at this
      omega
    have h2 := drop_at h1
    rw [hd] at h2
    simp only [List.cons.injEq] at h2
    rw [hd] at h
    cases h with
    | esc _ _ hdd ht => exact ⟨h1, by rw [← h2.1]; exact hdd, by rw [show k + 2 = k + 1 + 1 from rfl, ← h2.2]; exact ht⟩
    | plain _ _ hne _ => exact absurd rfl hne

theorem SInv.slash {w : World} {l : List UInt8} {k : Nat} {v : Value} {out : List (List UInt8)} {wr w' : World} (h : SInv w l k v out wr) (hk : k < l.length) (hc : l[k] = 47) {g' c' : Nat} {tmp : Obj} {row : Option Nat}
    (hr : w'.ownsRow w.heap.size 9 1 (.slice (some ⟨g', 0, none⟩) (out.length + 1) c') (out.length + 1) (out.map tokV ++ [tokV []])) (hg : (wr.alloc tmp).grownBy w' row) (hrow : ∀ j, row = some j → w.heap.size ≤ j) :
    SInv w l (k + 1) (.slice (some ⟨g', 0, none⟩) (out.length + 1) c') (out ++ [[]]) w' := by
  have hd := drop_at hk
  rw [hc] at hd
  refine ⟨⟨g', c', by rw [List.length_append]; rfl, by rw [List.length_append, List.map_append]; exact hr⟩, (h.below.alloc h.below.size tmp).grown hg (by have := h.below.size; simp; omega) hrow, ?_, ?_, fun _ => by simp, fun t ht => ?_, by rw [List.length_append]; have := h.few; simp; omega⟩
  · rw [← h.all, hd, scan_slash]
  · have := h.ok
    rw [hd] at this
    exact this.tail (by decide)
  · rcases List.mem_append.1 ht with ht | ht
    · have := h.small t ht; omega
    · simp at ht; subst ht; simp

theorem SInv.add {w : World} {l : List UInt8} {k k' : Nat} {init : List (List UInt8)} {cur : List UInt8} {x : UInt8} {g c : Nat} {wr w1 : World} (h : SInv w l k (.slice (some ⟨g, 0, none⟩) (init.length + 1) c) (init ++ [cur]) wr)
    (hrow : w1.ownsRow w.heap.size 9 1 (.slice (some ⟨g, 0, none⟩) (init.length + 1) c) (init.length + 1) ((init ++ [cur]).map tokV)) (hb : Below w.heap.size w w1)
    (hk : k < k') (hs : scan (l.drop k') (init ++ [cur ++ [x]]) = scan (l.drop k) (init ++ [cur])) (hok : TOk (l.drop k')) (S : ByteArray) (hS : S.data.toList = cur ++ [x]) :
    SInv w l k' (.slice (some ⟨g, 0, none⟩) (init.length + 1) c) (init ++ [cur ++ [x]]) (w1.setCell ⟨g, init.length, none⟩ (.string S)) := by
  have hst := (hrow.stored init.length (.string S)).1
  have e : ((init ++ [cur]).map tokV).set init.length (.string S) = (init ++ [cur ++ [x]]).map tokV := by
    have hv : Value.string S = tokV (cur ++ [x]) := by unfold tokV; rw [← hS, toArr]
    rw [List.map_append, List.map_append, List.set_append_right _ _ (by simp)]
    simp [hv]
  rw [e] at hst
  have hl : (init ++ [cur ++ [x]]).length = init.length + 1 := by simp
  refine ⟨⟨g, c, by rw [hl], by rw [hl]; exact hst⟩, ?_, hs.trans h.all, hok, fun _ => by simp, fun t ht => ?_, by have := h.few; simp at this ⊢; omega⟩
  · exact hb.setCell (p := ⟨g, init.length, none⟩) (hrow.lt g rfl).1 _
  · rcases List.mem_append.1 ht with ht | ht
    · have := h.small t (List.mem_append.2 (.inl ht)); omega
    · simp at ht
      subst ht
      have := h.small cur (by simp)
      simp
      omega

theorem SInv.drew {w : World} {l : List UInt8} {k : Nat} {v : Value} {out : List (List UInt8)} {wr : World} (h : SInv w l k v out wr) : SInv w l k v out wr.drew := by
  obtain ⟨⟨g, c, e, r⟩, b, x1, x2, x3, x4, x5⟩ := h
  exact ⟨⟨g, c, e, r⟩, b.drew, x1, x2, x3, x4, x5⟩

theorem conv_one (w : World) (x : UInt8) : (convert 34 9 (.slice (some ⟨w.heap.size, 0, none⟩) 1 1)).run Try.prog ((w.alloc (.cells #[.int .u8 ((x.toNat : Nat) : Int)] 5)).drew) = .ok (.string ⟨#[x]⟩) ((w.alloc (.cells #[.int .u8 ((x.toNat : Nat) : Int)] 5)).drew) := by
  have hB : Bytes ((w.alloc (.cells #[.int .u8 ((x.toNat : Nat) : Int)] 5)).drew) w.heap.size 0 [x] := by
    intro j hj
    match j, hj with
    | 0, _ => exact World.cell?_alloc_new w _ _ 0
  exact hB.toStr u8r _ _ string9r 1

theorem split_last {α : Type} {l : List α} (h : l ≠ []) : ∃ a b, l = a ++ [b] := ⟨l.dropLast, l.getLast h, (List.dropLast_concat_getLast h).symm⟩

set_option maxRecDepth 100000 in
set_option maxHeartbeats 2000000 in
theorem specTokens_any (s : ByteArray) (ts : List (List UInt8)) (w : World) (ht : Toks s.data.toList ts) (hs : s.size ≤ 100000) :
    Calls Try.prog 14 #[.string s] w (Rows w ts) := by
  obtain ⟨i0, hi, hz0, hz1, hz2⟩ := info_parts infoS
  obtain ⟨l, hl⟩ : ∃ l, l = s.data.toList := ⟨_, rfl⟩
  rw [← hl] at ht
  have hln : l.length = s.size := by rw [hl, size_eq]
  have HLN := Lib.hid hln
  have HL := Lib.hid hl
  have HT := Lib.hid ht
  clear hl ht hln
  go_enter Try.func14, Try.ntmps14
  go_wp2_with fail
  go_loopw [3, 4] (fun v t wr => ∃ (k : Nat) (out : List (List UInt8)), t = .int .i64 k ∧ k ≤ s.size ∧ SInv w l k v out wr) (fun _ t _ => s.size - (intOf t).toNat)
  case atStart =>
    refine ⟨0, [], rfl, Nat.zero_le _, ⟨_, _, rfl, World.ownsRow_lit w #[] 0 (Nat.le_refl _) (Nat.zero_le _) rfl⟩, (Below.refl _ _).alloc (Nat.le_refl _) _, rfl, ?_, fun h => absurd h (Nat.lt_irrefl _), by simp, by simp⟩
    exact HT.out.ok
  case round =>
    obtain ⟨k, out, rfl, hk, hinv⟩ := hrel
    obtain ⟨⟨g, c, rfl, hrow⟩, hb, hall, hok, hsome, hsmall, hfew⟩ := id hinv
    have HI := Lib.hid hinv
    clear hinv hsmall hall
    by_cases hk2 : k < s.size
    · have hk0 : (0 : Int) ≤ (k : Int) := by omega
      have hk1 : (k : Int) < (s.size : Int) := by omega
      have hkl : k < l.length := by rw [HLN.out]; exact hk2
      have hget : l[k] = s[k]'hk2 := by
        have := HL.out
        subst this
        rfl
      obtain ⟨a, ha⟩ : ∃ a : Nat, (s[k]'hk2).toNat = a := ⟨_, rfl⟩
      have HG := Lib.hid hget
      have HA := Lib.hid ha
      clear hget
      by_cases h47 : a = 47
      · subst h47
        have hc47 : l[k] = 47 := by rw [HG.out]; exact UInt8.toNat_inj.1 HA.out
        have HC := Lib.hid hc47
        clear hc47
        go_wp2_with (first
          | (at_builtin
             refine wpList_append_own _ rfl _ _ 26 rfl w.heap.size 9 i0 (.string ⟨#[]⟩) 1 16 undS hi hz0 hz1 hz2 rfl (by decide) _ _ _ rfl (hrow.alloc _) ⟨wr.heap.size, 0, none⟩ 1 1 [.string ⟨#[]⟩] rfl rfl (cell_one_new _ _ _) (by simp [Value.oneCell']) (by unfold maxLen; omega) (by omega) (by have := hb.size; simp; omega) ?_
             intro v' w1 hown' hgrow _
             obtain ⟨g', cap', rfl⟩ := ownsRow_succ hown'
             have HO := Lib.hid hown'
             have HGr := Lib.hid hgrow
             clear hown' hgrow))
        exact ⟨⟨k + 1, out ++ [[]], by simp, by omega, HI.out.slash hkl HC.out HO.out HGr.out (fun j ej => (hrow.lt j ej).1)⟩, by simp only [intOf]; omega⟩
      · have hout : out ≠ [] := by
          by_cases h0 : 0 < k
          · exact hsome h0
          · have hk00 : k = 0 := by omega
            subst hk00
            have := HT.out.head hkl
            rw [HG.out] at this
            exact absurd (by rw [← HA.out, this]; rfl) h47
        obtain ⟨init, cur, rfl⟩ := split_last hout
        have hlen : (init ++ [cur]).length = init.length + 1 := by simp
        have h9 : SInv w l k (.slice (some ⟨g, 0, none⟩) (init.length + 1) c) (init ++ [cur]) wr := by
          have := HI.out
          rwa [hlen] at this
        have H9 := Lib.hid h9
        have h8 : wr.ownsRow w.heap.size 9 1 (.slice (some ⟨g, 0, none⟩) (init.length + 1) c) (init.length + 1) ((init ++ [cur]).map tokV) := by rwa [hlen] at hrow
        have H8 := Lib.hid h8
        obtain ⟨cs, hcs⟩ : ∃ cs : ByteArray, cs = ⟨cur.toArray⟩ := ⟨_, rfl⟩
        have hcell : wr.cell? ⟨g, init.length, none⟩ = some (.string cs) := by
          rw [h8.cellAt init.length (by omega), List.getElem?_map, List.getElem?_append_right (Nat.le_refl _), Nat.sub_self, hcs]
          rfl
        have hfr := h8.frozenAt init.length
        have hcsz : cs.size ≤ 100000 := by
          have := h9.small cur (by simp)
          rw [hcs]
          show cur.toArray.size ≤ _
          simp
          omega
        have hcl : cs.data.toList = cur := by rw [hcs]
        have HCL := Lib.hid hcl
        have hm : init.length ≤ 100000 := by rw [hlen] at hfew; omega
        have hn47 : ((a : Int) == 47) = false := by rw [beq_eq_false_iff_ne]; omega
        rw [hlen]
        clear HI hrow hsome hfew h9 h8 hcs hcl hout hlen
        by_cases h126 : a = 126
        · obtain ⟨hk9, hd, hok2⟩ := at_esc hok hkl (by rw [HG.out]; exact UInt8.toNat_inj.1 (HA.out.trans h126))
          have hk3 : k + 1 < s.size := by rw [← HLN.out]; exact hk9
          have hget2 : l[k + 1] = s[k + 1]'hk3 := by
            have := HL.out
            subst this
            rfl
          have hdrop : l.drop k = 126 :: l[k + 1] :: l.drop (k + 2) := by
            rw [drop_at hkl, drop_at hk9, show l[k] = 126 by rw [HG.out]; exact UInt8.toNat_inj.1 (HA.out.trans h126)]
          have HD := Lib.hid hdrop
          have HOK2 := Lib.hid hok2
          have HG2 := Lib.hid hget2
          subst h126
          have hk4 : (0 : Int) ≤ (k : Int) + 1 := by omega
          have hk5 : (k : Int) + 1 < (s.size : Int) := by omega
          have hk6 : ((k : Int) + 1).toNat = k + 1 := by omega
          clear hok hdrop hok2
          rcases hd with hd | hd
          · have ha2 : (s[k + 1]'hk3).toNat = 48 := by rw [← hget2, hd]; rfl
            have hconv : (convert 34 9 (.slice (some ⟨wr.heap.size, 0, none⟩) 1 1)).run Try.prog ((wr.alloc (.cells #[.int .u8 (((⟨#[126, 47]⟩ : ByteArray)[0]'(by decide)).toNat : Int)] 5)).drew) = .ok (.string ⟨#[126]⟩) ((wr.alloc (.cells #[.int .u8 (((⟨#[126, 47]⟩ : ByteArray)[0]'(by decide)).toNat : Int)] 5)).drew) :=
              conv_one wr 126
            have hcell1 : ((wr.alloc (.cells #[.int .u8 (((⟨#[126, 47]⟩ : ByteArray)[0]'(by decide)).toNat : Int)] 5)).drew).cell? ⟨g, init.length, none⟩ = some (.string cs) := (cell_of_heap (Below.heap_alloc wr _ g (H8.out.lt g rfl).2) _).trans hcell
            have hfr1 : ((wr.alloc (.cells #[.int .u8 (((⟨#[126, 47]⟩ : ByteArray)[0]'(by decide)).toNat : Int)] 5)).drew).frozen? ⟨g, init.length, none⟩ = false := (World.frozen?_of_block (a := ⟨g, init.length, none⟩) (Below.heap_alloc wr _ g (H8.out.lt g rfl).2)).trans hfr
            have HD2 := Lib.hid hd
            clear hd hget2
            go_wp2_with fail
            go_region
            go_wp2_with fail
            have hadd := H9.out.add (x := 126) (w1 := (wr.alloc (.cells #[.int .u8 126] 5))) (H8.out.alloc _) (H9.out.below.alloc H9.out.below.size _) (show k < k + 2 by omega) (by rw [HD.out, HD2.out, scan_esc, addLast_append]; rfl) HOK2.out (cs ++ ⟨#[126]⟩) (by rw [data_append, HCL.out])
            exact ⟨⟨k + 2, _, by simp; omega, by omega, hadd.drew⟩, by simp only [intOf]; omega⟩
          · have ha2 : (s[k + 1]'hk3).toNat = 49 := by rw [← hget2, hd]; rfl
            have hconv : (convert 34 9 (.slice (some ⟨wr.heap.size, 0, none⟩) 1 1)).run Try.prog ((wr.alloc (.cells #[.int .u8 (((⟨#[126, 47]⟩ : ByteArray)[1]'(by decide)).toNat : Int)] 5)).drew) = .ok (.string ⟨#[47]⟩) ((wr.alloc (.cells #[.int .u8 (((⟨#[126, 47]⟩ : ByteArray)[1]'(by decide)).toNat : Int)] 5)).drew) :=
              conv_one wr 47
            have hcell1 : ((wr.alloc (.cells #[.int .u8 (((⟨#[126, 47]⟩ : ByteArray)[1]'(by decide)).toNat : Int)] 5)).drew).cell? ⟨g, init.length, none⟩ = some (.string cs) := (cell_of_heap (Below.heap_alloc wr _ g (H8.out.lt g rfl).2) _).trans hcell
            have hfr1 : ((wr.alloc (.cells #[.int .u8 (((⟨#[126, 47]⟩ : ByteArray)[1]'(by decide)).toNat : Int)] 5)).drew).frozen? ⟨g, init.length, none⟩ = false := (World.frozen?_of_block (a := ⟨g, init.length, none⟩) (Below.heap_alloc wr _ g (H8.out.lt g rfl).2)).trans hfr
            have HD2 := Lib.hid hd
            clear hd hget2
            go_wp2_with fail
            go_region
            go_wp2_with fail
            have hadd := H9.out.add (x := 47) (w1 := (wr.alloc (.cells #[.int .u8 47] 5))) (H8.out.alloc _) (H9.out.below.alloc H9.out.below.size _) (show k < k + 2 by omega) (by rw [HD.out, HD2.out, scan_esc, addLast_append]; rfl) HOK2.out (cs ++ ⟨#[47]⟩) (by rw [data_append, HCL.out])
            exact ⟨⟨k + 2, _, by simp; omega, by omega, hadd.drew⟩, by simp only [intOf]; omega⟩
        · have hn126 : ((a : Int) == 126) = false := by rw [beq_eq_false_iff_ne]; omega
          have hk4 : (0 : Int) ≤ (k : Int) + 1 := by omega
          have hk5 : (k : Int) + 1 ≤ (s.size : Int) := by omega
          have hk6 : (k : Int) ≤ (k : Int) + 1 := by omega
          go_wp2_with fail
          go_region
          go_wp2_with fail
          have hl126 : l[k] ≠ 126 := by rw [HG.out]; intro e; exact h126 (by rw [← HA.out, e]; rfl)
          have hl47 : l[k] ≠ 47 := by rw [HG.out]; intro e; exact h47 (by rw [← HA.out, e]; rfl)
          have hadd := H9.out.add H8.out H9.out.below (Nat.lt_succ_self k) (by rw [drop_at hkl, scan_plain hl47 hl126, addLast_append]) ((by rw [drop_at hkl] at hok; exact hok.tail hl126 : TOk (l.drop (k + 1)))) (cs ++ s.extract k (k + 1)) (by
            rw [data_append, HCL.out, extract_toList, ← HL.out, drop_at hkl, Nat.add_sub_cancel_left]
            rfl)
          exact ⟨⟨k + 1, _, by simp, by omega, hadd.drew⟩, by simp only [intOf]; omega⟩
    · obtain rfl : k = s.size := by omega
      go_wp2_with fail
      go_ret
      have hx : out = ts := by
        have h1 := HI.out.all
        rw [List.drop_of_length_le (by rw [HLN.out]; exact Nat.le_refl _), HT.out.scan] at h1
        exact h1
      subst hx
      refine ⟨hb, g, c, rfl, fun j hj => ?_, (hrow.lt g rfl).1, (hrow.lt g rfl).2⟩
      rw [hrow.cellAt j (by omega), List.getElem?_map, List.getElem?_eq_getElem hj]
      rfl

end Go.Proofs.Ytalkajcndllipaa
