/- encoding/json's Indent over a buffer; what the thin package tells of it. -/
import Derived.Test.YtlgmdcaoogiooaaGreatDoorIndW
import Derived.Test.YtlgmdcaoogiooaaGreatDoorBufX
namespace Go.Proofs.YtlgmdcaoogiooaaGreatDoor.Ind
open Go.RowKit Go.Proofs.YtlgmdcaoogiooaaGreatDoor Go.Proofs.YtlgmdcaoogiooaaGreatDoor.Bf

theorem assert_yes (v : Value) (w : World) : (Instr.typeAssert (.iface 74 v) 49 74 true).run Tryz.prog w = .ok (.tuple #[v, .bool true]) w := by kernel_rfl

set_option maxRecDepth 100000 in
set_option maxHeartbeats 1000000 in
theorem asType_in (q a : Nat) (w : World) :
    Calls Tryz.prog 47 #[.iface 74 (.pointer (some ⟨q, 0, none⟩)), .pointer (some ⟨a, 0, none⟩)] w fun e w' => e = .returned (.tuple #[.pointer (some ⟨q, 0, none⟩), .bool true]) ∧ w' = w := by
  go_enter Tryz.func47, Tryz.ntmps47
  go_wp2_with fail
  go_loopw [0] (fun v wr => wr = w ∧ v = .iface 74 (.pointer (some ⟨q, 0, none⟩))) (fun _ _ => 0)
  case atStart => exact ⟨rfl, rfl⟩
  case round =>
    obtain ⟨rfl, rfl⟩ := hrel
    have hta := assert_yes (.pointer (some ⟨q, 0, none⟩)) wr
    go_wp2_with fail
    go_ret2
    exact ⟨rfl, rfl⟩

set_option maxRecDepth 100000 in
set_option maxHeartbeats 1000000 in
theorem asType_any (q : Nat) (w : World) :
    Calls Tryz.prog 29 #[.iface 74 (.pointer (some ⟨q, 0, none⟩))] w fun e w' => e = .returned (.tuple #[.pointer (some ⟨q, 0, none⟩), .bool true]) ∧ Below w.heap.size w w' := by
  go_enter Tryz.func29, Tryz.ntmps29
  go_wp2_with fail
  refine (asType_in q _ _).mono ?_
  rintro e w1 ⟨rfl, rfl⟩
  go_wp2_with fail
  go_ret2
  exact ⟨rfl, (Below.refl _ _).alloc (Nat.le_refl _) _⟩

theorem asType_nil (w : World) :
    Calls Tryz.prog 29 #[.nilIface] w fun e w' => e = .returned (.tuple #[.pointer none, .bool false]) ∧ w' = w := by
  go_enter Tryz.func29, Tryz.ntmps29
  go_wp2_with fail
  go_ret2
  exact ⟨rfl, rfl⟩

/-- An error that can be read. -/
def ErR (w : World) (ev : Value) (er : Option Int) : Prop :=
  (er = none → ev = .nilIface) ∧ ∀ y, er = some y → ∃ q t z, ev = .iface 74 (.pointer (some ⟨q, 0, none⟩)) ∧ w.heap[q]? = some (.cells #[.string t, .int .i64 z] 78 (0, 0))

theorem ErR.below {w w' : World} {ev : Value} {er : Option Int} (h : ErR w ev er) (hb : Below w.heap.size w w') : ErR w' ev er :=
  ⟨h.1, fun y hy => by
    obtain ⟨q, t, z, h1, h2⟩ := h.2 y hy
    exact ⟨q, t, z, h1, (hb.block q (Array.getElem?_eq_some_iff.1 h2).1).trans h2⟩⟩

/-- The offset of an error, whatever it is. -/
theorem offset_any (ev : Value) (er : Option Int) (w : World) (h : ErR w ev er) :
    Calls Tryz.prog 15 #[ev] w fun e w' => ∃ x, e = .returned (.int .i64 x) ∧ Below w.heap.size w w' := by
  cases er with
  | none =>
    obtain rfl := h.1 rfl
    clear h
    go_enter Tryz.func15, Tryz.ntmps15
    go_wp2_with fail
    refine (asType_nil _).mono ?_
    rintro e w1 ⟨rfl, rfl⟩
    go_wp2_with fail
    go_ret
    exact ⟨_, rfl, Below.refl _ _⟩
  | some y =>
    obtain ⟨q, t, z, rfl, h5⟩ := h.2 y rfl
    have hq := (Array.getElem?_eq_some_iff.1 h5).1
    have HQ := Lib.hid h5
    clear h h5
    go_enter Tryz.func15, Tryz.ntmps15
    go_wp2_with fail
    refine (asType_any q _).mono ?_
    rintro e w1 ⟨rfl, hb⟩
    have c1 := cell_of_row w1 q 1 _ _ _ ((hb.block q hq).trans HQ.out)
    have HB := Lib.hid hb
    clear hb
    go_wp2_with fail
    go_ret
    exact ⟨_, rfl, HB.out⟩

theorem room_int (b g n cap k : Nat) (x : Int) (hx : x = (k : Int)) (l : List UInt8) (w : World) (hn : n = l.length) (h : Bf w b g n cap l) (hb : n + k ≤ 1000000000) :
    Calls Tryz.prog 25 #[.pointer (some ⟨b, 0, none⟩), .int .i64 x] w (Room w b g n k l) := by
  subst hx
  exact room_any b g n cap k l w hn h hb

/-- What appendIndent leaves of the buffer. -/
theorem buf_after {w w3 : World} {b g n cap o : Nat} {lt out : List UInt8} {v' : Value} (h : Bf w b g n cap lt) (hn : n = lt.length) (ho : o = n) (hk : AppL w (.slice (some ⟨g, o, none⟩) 0 (cap - n)) w3 v' out) : Bf w3 b g n cap lt := by
  subst ho
  have hne := h.ne
  have hltg := h.ltg
  have hraw := h.raw
  refine ⟨(hk.kept.block b h.lt (fun a ha => by cases ha; exact fun e => hne e.symm)).trans h.row, .inr ⟨g, 0, cap, rfl, by have := h.le; omega, h.cells.2.2.2.2.2.2, Nat.lt_of_lt_of_le hltg hk.kept.size, fun j hj => ?_, fun j hj => ?_⟩, h.le, hne⟩
  · rw [Nat.zero_add]
    exact (hk.kept.low ⟨g, o, none⟩ rfl hltg j (by show j < o; omega)).trans (hraw.1 j hj)
  · rw [Nat.zero_add]
    have h1 := hk.live ⟨g, o, none⟩ rfl hltg j
    have h2 := hraw.2 j hj
    exact ⟨h1.1 h2.1, h1.2.trans h2.2⟩

theorem own_free {w : World} {b g n cap o : Nat} {l : List UInt8} (h : Bf w b g n cap l) (ho : o = n ∨ (n = cap ∧ o = 0)) : Own w (.slice (some ⟨g, o, none⟩) 0 (cap - n)) [] := by
  have hraw := h.raw
  have hc := h.cells.2.2.2.2.2.2
  refine .inr ⟨g, o, cap - n, rfl, Nat.zero_le _, by omega, h.ltg, fun j hj => (by simp at hj), fun j hj => ?_⟩
  rcases ho with rfl | ⟨e, _⟩
  · exact hraw.2 (o + j) (by omega)
  · omega

/-- What 'Indent' leaves. -/
structure IndR (w : World) (b g : Nat) (lt p i l : List UInt8) (e : Ending) (w' : World) : Prop where
  what : ∃ ev, e = .returned ev ∧ ErR w' ev (scanAll newCfg 0 l).2.er ∧ ∃ out g' n' cap', n' = (lt ++ out).length ∧ Bf w' b g' n' cap' (lt ++ out) ∧ ((scanAll newCfg 0 l).2.er = none → out = (indAll p i newCfg 0 ⟨false, 0, []⟩ l).out)
  os : w'.os = w.os
  tape : w'.tape = w.tape
  output : w'.output = w.output
  size : w.heap.size ≤ w'.heap.size
  block : ∀ k, k < w.heap.size → k ≠ b → k ≠ g → w'.heap[k]? = w.heap[k]?

set_option maxRecDepth 100000 in
set_option maxHeartbeats 1000000 in
theorem indent_any (b g nt capt b0 n cap : Nat) (lt l : List UInt8) (p i : ByteArray) (w : World) (hnt : nt = lt.length) (hB : Bf w b g nt capt lt) (hlt : nt ≤ 1000) (hn : n = l.length) (hb0 : b0 < w.heap.size) (hb : b0 ≠ b) (hg : b0 ≠ g) (hbytes : Bytes w b0 0 l) (hl : l.length ≤ 1000) (hlen : n ≤ cap) (hp : p.size ≤ 16) (hi : i.size ≤ 16) :
    Calls Tryz.prog 13 #[.pointer (some ⟨b, 0, none⟩), .slice (some ⟨b0, 0, none⟩) n cap, .string p, .string i] w (IndR w b g lt p.data.toList i.data.toList l) := by
  have HNT := Lib.hid hnt
  have HN := Lib.hid hn
  have H0 := Lib.hid hB
  have HBY := Lib.hid hbytes
  have HL := Lib.hid hl
  have hn1 : n ≤ 1000 := by omega
  clear hnt hB hn hbytes hl
  go_enter Tryz.func13, Tryz.ntmps13
  go_wp2_with fail
  refine (room_int b g nt capt (2 * n) _ (by omega) lt _ HNT.out H0.out (by omega)).mono ?_
  rintro e w1 ⟨rfl, g1, cap1, h1, hr1, hg1, hw1⟩
  have H1 := Lib.hid h1
  have HG1 := Lib.hid hg1
  have HW1 := Lib.hid hw1
  have HR1 := Lib.hid hr1
  clear h1 hg1 hw1 hr1
  go_wp2_with fail
  refine (available_any b g1 nt cap1 lt _ H1.out).mono ?_
  rintro e w2 ⟨o, rfl, ho, hw2, hz2⟩
  have H2 := Lib.hid (H1.out.grownN hw2)
  have HW2 := Lib.hid (grownR HW1.out (show w1.grownBy w2 (some b) from ⟨hw2.os, hw2.tape, hw2.output, hw2.size, fun k h1 _ => hw2.block k h1 (by simp)⟩))
  have HO := Lib.hid ho
  have hb2 : b0 < w2.heap.size := Nat.lt_of_lt_of_le hb0 HW2.out.size
  have hg2 : g1 ≠ b0 := by
    rcases HG1.out with e | e <;> omega
  have HBY2 := Lib.hid (HBY.out.heap (HW2.out.block b0 hb0 (by simp; exact hb)))
  have OW := Lib.hid (own_free H2.out ho)
  clear hw2 hz2 ho
  go_wp2_with fail
  refine (appendIndent_any (some ⟨g1, o, none⟩) (cap1 - nt) p i l b0 n cap _ HN.out OW.out hb2 (fun a ha => by cases ha; exact hg2) HBY2.out HL.out hlen hp hi).mono ?_
  rintro e w3 ⟨v', ev, rfl, her, hz, out, happ, hol, hout⟩
  have HER := Lib.hid her
  have HAP := Lib.hid happ
  have HOUT := Lib.hid hout
  have h3 : Bf w3 b g1 nt cap1 lt := by
    by_cases hl0 : l = []
    · exact H2.out.below (hz hl0)
    · have hn0 : 0 < n := by rw [HN.out]; exact List.length_pos_iff.2 hl0
      refine buf_after H2.out HNT.out ?_ happ
      rcases HO.out with e | ⟨e, _⟩
      · exact e
      · have := HR1.out; omega
  have H3 := Lib.hid h3
  have hnb : ∀ a, baseOf v' = some a → a.block ≠ b := fun a ha => by
    have hbl := H2.out.lt
    have hne := H2.out.ne
    rcases happ.pos with e | e
    · have := e ▸ ha
      cases this
      exact fun e => hne e.symm
    · have := e a ha
      omega
  have HNB := Lib.hid hnb
  have hbl2 := H2.out.lt
  have hgl2 := H2.out.ltg
  clear her happ hout hz h3 hnb
  go_wp2_with fail
  refine (write_any b g1 nt cap1 lt out v' _ HNT.out H3.out HAP.out.own HNB.out (by omega)).mono ?_
  rintro e w4 ⟨⟨x, rfl⟩, g', cap', h4, hg4, hw4⟩
  have H4 := Lib.hid h4
  have HW4 := Lib.hid hw4
  clear h4 hg4 hw4
  go_wp2_with fail
  go_ret
  have hk := HAP.out.kept
  refine ⟨⟨ev, rfl, ⟨HER.out.1, fun y hy => ?_⟩, out, g', nt + out.length, cap', by rw [List.length_append, HNT.out], H4.out, HOUT.out⟩, HW4.out.os.trans (hk.os.trans HW2.out.os), HW4.out.tape.trans (hk.tape.trans HW2.out.tape), HW4.out.output.trans (hk.output.trans HW2.out.output), Nat.le_trans HW2.out.size (Nat.le_trans hk.size HW4.out.size), fun k h1 h2 h3 => ?_⟩
  · obtain ⟨q, t, z, q1, q2, q3, q4, q5, q6⟩ := HER.out.2 y hy
    exact ⟨q, t, z, q1, (HW4.out.block q (Array.getElem?_eq_some_iff.1 q6).1 (by omega) (by omega)).trans q6⟩
  · have h4 := HW2.out.size
    have hkg : k ≠ g1 := by
      rcases HG1.out with e | e
      · rw [e]; exact h3
      · omega
    exact (HW4.out.block k (Nat.lt_of_lt_of_le h1 (Nat.le_trans h4 hk.size)) h2 hkg).trans ((hk.block k (Nat.lt_of_lt_of_le h1 h4) (fun a ha => by cases ha; exact fun e => hkg e.symm)).trans (HW2.out.block k h1 (fun e => by cases e; exact h2 rfl)))

theorem below_drew3 {w : World} : Below w.heap.size w w.drew := ⟨rfl, rfl, rfl, Nat.le_refl _, fun _ _ => rfl⟩

/-- The buffer's text, at a world of the same memory or behind. -/
theorem string_any' (b g n cap : Nat) (l : List UInt8) (w w4 : World) (hw : w4 = w.drew ∨ Below w.heap.size w w4) (hn : n = l.length) (h : Bf w b g n cap l) :
    Calls Tryz.prog 14 #[.pointer (some ⟨b, 0, none⟩)] w4 fun e w' => e = .returned (.string ⟨l.toArray⟩) ∧ Below w.heap.size w w' := by
  have hb : Below w.heap.size w w4 := by
    rcases hw with rfl | h
    · exact below_drew3
    · exact h
  refine (string_any b g n cap l w4 hn (h.below hb)).mono fun e w' ⟨h1, h2, h3⟩ => ⟨h1, hb.trans ⟨h2.os, h2.tape, h2.output, by omega, fun k hk => h2.block k (Nat.lt_of_lt_of_le hk hb.size) (by simp)⟩⟩

theorem offset_any' (ev : Value) (er : Option Int) (w w4 : World) (hw : w4 = w.drew ∨ Below w.heap.size w w4) (h : ErR w ev er) :
    Calls Tryz.prog 15 #[ev] w4 fun e w' => ∃ x, e = .returned (.int .i64 x) ∧ Below w.heap.size w w' := by
  have hb : Below w.heap.size w w4 := by
    rcases hw with rfl | h
    · exact below_drew3
    · exact h
  exact (offset_any ev er w4 (h.below hb)).mono fun e w' ⟨x, h1, h2⟩ => ⟨x, h1, hb.trans (h2.mono hb.size)⟩

/-- What the thin package tells of 'Indent'. -/
structure OldI (w : World) (t p i l : List UInt8) (e : Ending) (w' : World) : Prop where
  what : ∃ (r : ByteArray) (x : Int), e = .returned (.tuple #[.string r, .bool (decide ((scanAll newCfg 0 l).2.er = none)), .int .i64 x]) ∧ ((scanAll newCfg 0 l).2.er = none → r.data.toList = t ++ (indAll p i newCfg 0 ⟨false, 0, []⟩ l).out)
  below : Below w.heap.size w w'

set_option maxRecDepth 100000 in
set_option maxHeartbeats 1000000 in
theorem oldIndent_any (t s p i : ByteArray) (w : World) (ht : t.size ≤ 1000) (hs : s.size ≤ 1000) (hp : p.size ≤ 16) (hi : i.size ≤ 16) :
    Calls Tryz.prog 7 #[.string t, .string s, .string p, .string i] w (OldI w t.data.toList p.data.toList i.data.toList s.data.toList) := by
  go_enter Tryz.func7, Tryz.ntmps7
  go_wp2_with fail
  refine (newBufferString_any t (by omega) w).mono ?_
  rintro e w1 ⟨cap, rfl, h1, hb1⟩
  have H1 := Lib.hid h1
  have B1 := Lib.hid hb1
  have hz1 : w.heap.size + 2 ≤ w1.heap.size := by have := h1.lt; omega
  clear h1 hb1
  go_wp2_with (refine wpList_conv u8m rfl (.tmp 16) 9 rfl string9m rfl (by unfold maxLen; omega) ?_; intro c1 w2 o2 b2 z2; have O2 := Lib.hid o2; have Z2 := Lib.hid z2; have B2 := Lib.hid b2; clear o2 z2 b2)
  have X := O2.out.slice
  refine (indent_any (w.heap.size + 1) w.heap.size t.size cap w1.heap.size s.size c1 t.data.toList s.data.toList p i _ (size_eq t).symm (H1.out.below B2.out) ht X.1 X.2.2.2.1 (by omega) (by omega) X.2.2.2.2 (by rw [size_eq]; exact hs) (by have := X.2.1; rw [size_eq] at this; exact this) hp hi).mono ?_
  clear X
  rintro e w3 ⟨⟨ev, rfl, her, out, g', n', cap', hn', h3, hout⟩, hos, htp, hop, hsz, hbl⟩
  have HER := Lib.hid her
  have H3 := Lib.hid h3
  have HN' := Lib.hid hn'
  have HOUT := Lib.hid hout
  have B3 := Lib.hid (show Below w.heap.size w w3 from (B1.out.trans (B2.out.mono (by omega))).trans ⟨hos, htp, hop, by have := Z2.out; omega, fun k hk => hbl k (by have := Z2.out; omega) (by omega) (by omega)⟩)
  clear her h3 hn' hout hos htp hop hsz hbl
  obtain ⟨er, hEr⟩ : ∃ er, (scanAll newCfg 0 s.data.toList).2.er = er := ⟨_, rfl⟩
  rw [hEr] at HER HOUT
  have HEr := Lib.hid hEr
  clear hEr
  have fin : ∀ (w5 : World) (x : Int), Below w3.heap.size w3 w5 → OldI w t.data.toList p.data.toList i.data.toList s.data.toList (.returned (.tuple #[.string ⟨(t.data.toList ++ out).toArray⟩, .bool (decide (er = none)), .int .i64 x])) w5 := fun w5 x hb => by
    refine ⟨⟨_, x, by rw [HEr.out], fun e => ?_⟩, B3.out.trans (hb.mono B3.out.size)⟩
    rw [HEr.out] at e
    show t.data.toList ++ out = _
    rw [HOUT.out e]
  have FIN := Lib.hid fin
  clear fin
  cases er with
  | none =>
    obtain rfl := HER.out.1 rfl
    go_wp2_with fail
    go_region_with (first
      | (go_at_call 14; refine (string_any' _ g' n' cap' _ w3 _ (by first | exact .inl rfl | exact .inr H4.out) HN'.out H3.out).mono ?_; rintro e w5 ⟨rfl, h5⟩; have H5 := Lib.hid h5; clear h5)
      | (go_at_call 15; refine (offset_any' .nilIface none w3 _ (by first | exact .inl rfl | exact .inr H5.out) HER.out).mono ?_; rintro e w4 ⟨x, rfl, h4⟩; have H4 := Lib.hid h4; clear h4))
    all_goals
      go_wp2_with fail
      go_ret3
      first
        | exact FIN.out _ _ H4.out
        | exact FIN.out _ _ H5.out
  | some y =>
    obtain ⟨q, t', z, hev, _⟩ := HER.out.2 y rfl
    subst hev
    go_wp2_with fail
    go_region_with (first
      | (go_at_call 14; refine (string_any' _ g' n' cap' _ w3 _ (by first | exact .inl rfl | exact .inr H4.out) HN'.out H3.out).mono ?_; rintro e w5 ⟨rfl, h5⟩; have H5 := Lib.hid h5; clear h5)
      | (go_at_call 15; refine (offset_any' _ (some y) w3 _ (by first | exact .inl rfl | exact .inr H5.out) HER.out).mono ?_; rintro e w4 ⟨x, rfl, h4⟩; have H4 := Lib.hid h4; clear h4))
    all_goals
      go_wp2_with fail
      go_ret3
      first
        | exact FIN.out _ _ H4.out
        | exact FIN.out _ _ H5.out

end Go.Proofs.YtlgmdcaoogiooaaGreatDoor.Ind
