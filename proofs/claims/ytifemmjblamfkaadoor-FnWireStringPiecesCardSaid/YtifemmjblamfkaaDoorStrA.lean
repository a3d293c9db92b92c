/- A string of which first a part is there, read: the walk of 'WireStringAgain'. -/
import Derived.Test.YtifemmjblamfkaaDoorCsrW
import Derived.Test.YtifemmjblamfkaaDoorStrH
namespace Go.Proofs.YtifemmjblamfkaaDoor.Wire
open Go.RowKit Go.Proofs.YtifemmjblamfkaaDoor

/-- What reading leaves: the place, the error. -/
structure SOut (F : Nat) (w : World) (eofV utfV : Value) (R : Nat × Nat → Prop) (e : Ending) (w' : World) : Prop where
  what : ∃ (n c : Nat) (err : Value), R (n, c) ∧ e = .returned (.tuple #[.int .i64 (n : Int), err]) ∧ (c = 0 → err = .nilIface) ∧ (c = 1 → err = eofV) ∧ (c = 2 → Bad err ∨ err = utfV)
  fg : Fg F w w'

set_option maxRecDepth 100000 in
theorem csr_nil (vf : Bool) (b cap F : Nat) (eofV : Value) (w : World) (hE0 : w.cell? ⟨0, 0, none⟩ = some eofV) :
    Calls Tryd.prog 16 #[.pointer (some ⟨F, 0, none⟩), .slice (some ⟨b, 0, none⟩) 0 cap, .int .i64 0, .bool vf] w fun e w' => e = .returned (.tuple #[.int .i64 0, eofV]) ∧ ∃ n, w' = w.drewN n := by
  go_enter Tryd.func16, Tryd.ntmps16
  go_wp2_with fail
  go_big_quiet (fail)
  go_wp2_with fail
  go_ret2
  exact ⟨rfl, _, rfl⟩

set_option maxRecDepth 100000 in
theorem csr_noq (vf : Bool) (c : UInt8) (t l : List UInt8) (b n cap F : Nat) (w : World) (hl : l = c :: t) (hc : c ≠ 34) (hn : n = l.length) (hn1 : n ≤ 4000) (hlen : n ≤ cap) (hU : Lib.Utf8Tabs 2 3 w) (hb : b < w.heap.size) (hbytes : Bytes w b 0 l) :
    Calls Tryd.prog 16 #[.pointer (some ⟨F, 0, none⟩), .slice (some ⟨b, 0, none⟩) n cap, .int .i64 0, .bool vf] w fun e w' => (∃ err, e = .returned (.tuple #[.int .i64 0, err]) ∧ Bad err) ∧ Below w.heap.size w w' := by
  obtain ⟨a, ha⟩ : ∃ a : Nat, a = c.toNat := ⟨_, rfl⟩
  have hc0 : w.cell? ⟨b, 0, none⟩ = some (.int .u8 (a : Int)) := by
    have := hbytes.at0 0 (by rw [hl]; simp)
    have hg0 : l[0]'(by rw [hl]; simp) = c := by simp [hl]
    rw [hg0] at this
    rw [ha]
    exact this
  have hne : ((a : Int) == 34) = false := by
    rw [beq_eq_false_iff_ne]
    exact fun e => hc (UInt8.toNat_inj.1 (by show c.toNat = 34; omega))
  have hn0 : (0 : Int) < (n : Int) := by rw [hn, hl]; simp
  have hz : ((n : Int) == 0) = false := by rw [beq_eq_false_iff_ne]; omega
  have HL := Lib.hid hl
  have HBY := Lib.hid hbytes
  have HU := Lib.hid hU
  have HN := Lib.hid hn
  clear hl hbytes hU hn hc ha
  go_enter Tryd.func16, Tryd.ntmps16
  go_wp2_with fail
  refine (nic_any l (by rw [HL.out]; exact List.cons_ne_nil _ _) b 0 n cap _ _ HN.out hlen HBY.out hb HU.out).mono ?_
  rintro e w5 ⟨b5, err, rfl, hbad⟩
  have B5 := Lib.hid b5
  have HBAD := Lib.hid hbad
  clear b5 hbad
  go_wp2_with fail
  go_ret2
  exact ⟨⟨_, rfl, HBAD.out⟩, B5.out⟩

theorem csr_first (vf : Bool) (l : List UInt8) (b n cap F : Nat) (eofV utfV : Value) (w : World) (hn : n = l.length) (hlz : l.length ≤ 4000) (hlen : n ≤ cap)
    (hE0 : w.cell? ⟨0, 0, none⟩ = some eofV) (hE1 : w.cell? ⟨1, 0, none⟩ = some utfV) (hU : Lib.Utf8Tabs 2 3 w) (hF4 : 4 ≤ F) (hF : Fg F w w)
    (hb : b < w.heap.size) (hbF : b ≠ F) (hbytes : Bytes w b 0 l) :
    Calls Tryd.prog 16 #[.pointer (some ⟨F, 0, none⟩), .slice (some ⟨b, 0, none⟩) n cap, .int .i64 0, .bool vf] w (SOut F w eofV utfV (SFirst vf l)) := by
  match hl : l with
  | [] =>
    obtain rfl : n = 0 := hn
    refine (csr_nil vf b cap F eofV w hE0).mono ?_
    rintro e w' ⟨rfl, m, rfl⟩
    exact ⟨⟨0, 1, _, .nil rfl, rfl, fun h => (by cases h), fun _ => rfl, fun h => (by cases h)⟩, hF.drewN _⟩
  | c :: t =>
    rw [← hl] at hn hlz hbytes ⊢
    by_cases hc : c = 34
    · subst hc
      refine (csr_any vf l b n cap F 0 1 eofV utfV w (.inr ⟨rfl, rfl, t, hl⟩) (by rw [hn, hl]; simp) hn hlz hlen hE0 hE1 hU hF4 hF hb hbF hbytes).mono ?_
      rintro e w' ⟨⟨m, c, err, hr, h⟩, hg⟩
      exact ⟨⟨m, c, err, .run t hl hr, h⟩, hg⟩
    · refine (csr_noq vf c t l b n cap F w hl hc hn (by omega) hlen hU hb hbytes).mono ?_
      rintro e w' ⟨⟨err, rfl, hbad⟩, hB⟩
      exact ⟨⟨0, 2, err, .noq c t hl hc, rfl, fun h => (by cases h), fun h => (by cases h), fun _ => .inl hbad⟩, hF.below hB⟩

theorem csr_next (vf : Bool) (l : List UInt8) (b n cap F res : Nat) (eofV utfV : Value) (w : World) (hres : res ≤ n) (hn : n = l.length) (hlz : l.length ≤ 4000) (hlen : n ≤ cap)
    (hE0 : w.cell? ⟨0, 0, none⟩ = some eofV) (hE1 : w.cell? ⟨1, 0, none⟩ = some utfV) (hU : Lib.Utf8Tabs 2 3 w) (hF4 : 4 ≤ F) (hF : Fg F w w)
    (hb : b < w.heap.size) (hbF : b ≠ F) (hbytes : Bytes w b 0 l) :
    Calls Tryd.prog 16 #[.pointer (some ⟨F, 0, none⟩), .slice (some ⟨b, 0, none⟩) n cap, .int .i64 (res : Int), .bool vf] w (SOut F w eofV utfV (SNext vf l res)) := by
  by_cases h0 : res = 0
  · subst h0
    refine (csr_first vf l b n cap F eofV utfV w hn hlz hlen hE0 hE1 hU hF4 hF hb hbF hbytes).mono ?_
    rintro e w' ⟨⟨m, c, err, hr, h⟩, hg⟩
    exact ⟨⟨m, c, err, .inl ⟨rfl, hr⟩, h⟩, hg⟩
  · refine (csr_any vf l b n cap F res res eofV utfV w (.inl ⟨by omega, rfl⟩) hres hn hlz hlen hE0 hE1 hU hF4 hF hb hbF hbytes).mono ?_
    rintro e w' ⟨⟨m, c, err, hr, h⟩, hg⟩
    exact ⟨⟨m, c, err, .inr ⟨by omega, hr⟩, h⟩, hg⟩

/-- The sentinels. -/
structure Sent (a u : Addr) (w : World) : Prop where
  eof : w.cell? ⟨0, 0, none⟩ = some (.iface 95 (.pointer (some a)))
  utf : w.cell? ⟨1, 0, none⟩ = some (.iface 95 (.pointer (some u)))
  ne : u ≠ a
  rowA : ∃ c t, w.heap[a.block]? = some (.cells c t (0, 0))
  rowU : ∃ c t, w.heap[u.block]? = some (.cells c t (0, 0))

theorem Sent.below {a u : Addr} {w w' : World} (h : Sent a u w) (hw : 2 ≤ w.heap.size) (hb : Below w.heap.size w w') : Sent a u w' := by
  obtain ⟨c1, t1, h1⟩ := h.rowA
  obtain ⟨c2, t2, h2⟩ := h.rowU
  exact ⟨Below.keep hb (b := 0) (by omega) h.eof, Below.keep hb (b := 1) (by omega) h.utf, h.ne,
    ⟨c1, t1, (hb.block _ (Array.getElem?_eq_some_iff.1 h1).1).trans h1⟩, ⟨c2, t2, (hb.block _ (Array.getElem?_eq_some_iff.1 h2).1).trans h2⟩⟩

/-- How an error of reading is told. -/
theorem faultS_any (c2 : Nat) (err : Value) (a u : Addr) (w : World) (hs : Sent a u w) (h3 : c2 ≤ 2) (h0 : c2 = 0 → err = .nilIface) (h1 : c2 = 1 → err = .iface 95 (.pointer (some a))) (h2 : c2 = 2 → Bad err ∨ err = .iface 95 (.pointer (some u))) :
    Calls Tryd.prog 14 #[err] w fun e w' => e = .returned (.int .i64 (c2 : Int)) ∧ w' = w := by
  rcases (show c2 = 0 ∨ c2 = 1 ∨ c2 = 2 by omega) with rfl | rfl | rfl
  · rw [h0 rfl]
    exact fault_nil w
  · rw [h1 rfl]
    exact fault_eof a w hs.eof
  · rcases h2 rfl with ⟨q, rfl⟩ | rfl
    · exact fault_bad _ a w hs.eof
    · obtain ⟨c1, t1, r1⟩ := hs.rowA
      obtain ⟨c2, t2, r2⟩ := hs.rowU
      exact fault_other u a c2 c1 t2 t1 w hs.eof hs.ne r2 r1

theorem string9s : Tryd.prog.underlying 9 = some .string := by kernel_rfl

/-- What lay below the flags is as it was. -/
theorem Fg.under {F n : Nat} {w w' : World} (h : Fg F w w') (hn : n ≤ F) (hb : n ≤ w.heap.size) : Below n w w' :=
  (Below.refl n w).grown h.grown hb (fun k e => by cases e; exact hn)

set_option maxHeartbeats 4000000 in
theorem wireStringAgain_any (p s : ByteArray) (vf : Bool) (a u : Addr) (w : World) (hp : p.size ≤ 4000) (hs : s.size ≤ 4000) (h1 : ∀ q, SFirst vf p.data.toList q → q.2 = 1 ∧ q.1 ≤ s.size)
    (hT : Lib.Utf8Tabs 2 3 w) (hg : Sent a u w) (hw : 4 ≤ w.heap.size) :
    Calls Tryd.prog 10 #[.string p, .string s, .bool vf] w fun e w' => (∃ m q, SFirst vf p.data.toList (m, 1) ∧ SNext vf s.data.toList m q ∧ e = .returned (.tuple #[.int .i64 ((q.1 : Nat) : Int), .int .i64 ((q.2 : Nat) : Int)])) ∧ Below w.heap.size w w' := by
  have HT := Lib.hid hT
  have HG := Lib.hid hg
  have H1 := Lib.hid h1
  clear hT hg h1
  have hal : ∀ o : Obj, (w.alloc o).heap.size = w.heap.size + 1 := fun o => by simp
  have B0 := Lib.hid ((Below.refl _ w).alloc (Nat.le_refl _) (.cells #[.int .u64 0] 47 (0, 0)))
  have F0 := Lib.hid (heap_alloc_new w (.cells #[.int .u64 0] 47 (0, 0)))
  have HAL := Lib.hid hal
  clear hal
  go_enter Tryd.func10, Tryd.ntmps10
  go_wp2_with (refine wpList_conv u8n rfl (.tmp 12) 9 rfl string9s rfl (by unfold maxLen; omega) ?_; intro c1 w1 o1 b1 z1; rw [HAL.out] at o1 b1; have O1 := Lib.hid o1; have B1 := Lib.hid b1; clear o1 z1 b1)
  have X := O1.out.slice
  have e1 : p.data.toList.length = p.size := size_eq p
  have b1 : Below w.heap.size w w1 := B0.out.trans (B1.out.mono (Nat.le_succ _))
  have hF : Fg w.heap.size w1 w1 := ⟨grown_refl _ _, 0, _, (B1.out.block _ (Nat.lt_succ_self _)).trans F0.out⟩
  have G1 := Lib.hid (HG.out.below (by omega) b1)
  refine (csr_first vf p.data.toList (w.heap.size + 1) p.size c1 w.heap.size _ _ w1 e1.symm (by omega) X.2.1 G1.out.eof G1.out.utf (Go.Proofs.Utf8Tabs_below HT.out b1) hw hF X.2.2.2.1 (by omega) X.2.2.2.2).mono ?_
  rintro e w2 ⟨⟨m, c, err, hr, rfl, -, herr, -⟩, hfg⟩
  obtain ⟨h2, h3⟩ := H1.out _ hr
  have h2' : c = 1 := h2
  subst h2'
  have h3' : m ≤ s.size := h3
  obtain rfl := herr rfl
  have HR := Lib.hid hr
  have B2 := Lib.hid (b1.trans (hfg.under (Nat.le_refl _) b1.size))
  have HFG := Lib.hid hfg
  clear hfg hr h2 h3 X e1 hF b1
  have G2 := Lib.hid (HG.out.below (by omega) B2.out)
  go_wp2_with fail
  refine (fault_eof a _ G2.out.eof).mono ?_
  rintro e w3 ⟨rfl, rfl⟩
  go_wp2_with (refine wpList_conv u8n rfl (.tmp 22) 9 rfl string9s rfl (by unfold maxLen; omega) ?_; intro c4 w4 o4 b4 z4; have O4 := Lib.hid o4; have B4 := Lib.hid b4; clear o4 z4 b4)
  have X := O4.out.slice
  have e1 : s.data.toList.length = s.size := size_eq s
  have hlt := HFG.out.lt
  have b4 : Below w.heap.size w w4 := B2.out.trans (B4.out.mono B2.out.size)
  have G4 := Lib.hid (HG.out.below (by omega) b4)
  have hF : Fg w.heap.size w4 w4 := (HFG.out.below B4.out).self
  refine (csr_next vf s.data.toList w3.heap.size s.size c4 w.heap.size m _ _ w4 h3' e1.symm (by omega) X.2.1 G4.out.eof G4.out.utf (Go.Proofs.Utf8Tabs_below HT.out b4) hw hF X.2.2.2.1 (by omega) X.2.2.2.2).mono ?_
  rintro e w5 ⟨⟨n, c, err, hr2, rfl, q0, q1, q2⟩, hfg2⟩
  have hc : c ≤ 2 := hr2.code
  have b5 : Below w.heap.size w w5 := b4.trans (hfg2.under (Nat.le_refl _) b4.size)
  have HF := Lib.hid (faultS_any c err a u w5 (HG.out.below (by omega) b5) hc q0 q1 q2)
  have B5 := Lib.hid b5
  have HR2 := Lib.hid hr2
  clear b5 hr2 hfg2 X e1 hF b4 q0 q1 q2
  go_wp2_with fail
  refine HF.out.mono ?_
  rintro e w6 ⟨rfl, rfl⟩
  go_wp2_with fail
  go_ret2
  exact ⟨⟨m, (n, c), HR.out, HR2.out, rfl⟩, B5.out⟩

end Go.Proofs.YtifemmjblamfkaaDoor.Wire
