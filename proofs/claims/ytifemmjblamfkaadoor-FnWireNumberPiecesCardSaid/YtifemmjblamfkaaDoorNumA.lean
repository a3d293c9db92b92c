/- A number of which first a part is there, read: the walk of 'WireNumberAgain'. -/
import Derived.Test.YtifemmjblamfkaaDoorCnrZ
import Derived.Test.YtifemmjblamfkaaDoorNumH
namespace Go.Proofs.YtifemmjblamfkaaDoor
open Go.RowKit

theorem string9n : Tryd.prog.underlying 9 = some .string := by kernel_rfl

theorem cExp_le {l : List UInt8} {n st m s : Nat} (h : cExp l n st = (m, s, 1)) : m ≤ l.length := by
  by_cases q : seeB l n = 101 ∨ seeB l n = 69
  · have h1 : n < l.length := seeB_lt (by omega)
    rw [cExp_y q] at h
    split at h
    · simp only [Prod.mk.injEq] at h; omega
    · split at h <;> simp at h
  · rw [cExp_n q] at h
    simp at h

theorem cFrac_le {l : List UInt8} {n st m s : Nat} (h : cFrac l n st = (m, s, 1)) : m ≤ l.length := by
  by_cases q : seeB l n = 46
  · have h1 : n < l.length := seeB_lt (by omega)
    rw [cFrac_y q] at h
    split at h
    · simp only [Prod.mk.injEq] at h; omega
    · split at h
      · exact cExp_le h
      · simp at h
  · rw [cFrac_n q] at h
    exact cExp_le h

theorem cInt_le {l : List UInt8} {st m s : Nat} (h : cInt l st = (m, s, 1)) : m ≤ l.length := by
  rw [cInt_sign] at h
  split at h
  · simp only [Prod.mk.injEq] at h; omega
  · split at h
    · exact cFrac_le h
    · split at h
      · exact cFrac_le h
      · simp at h

/-- Where the second reading begins, and what it reads. -/
def Next (l : List UInt8) (m st : Nat) (c : Nat × Nat × Nat) : Prop :=
  (st = 1 ∧ m = 0 ∧ cInt l 1 = c) ∨ (st = 3 ∧ cFrac l m 3 = c) ∨ (st = 5 ∧ cExp l m 5 = c)

theorem second_any (l : List UInt8) (b cap m st : Nat) (c : Nat × Nat × Nat) (eofV : Value) (w : World) (hx : Next l m st c) (hl : l.length ≤ 4000) (hcap : l.length ≤ cap) (hn : m ≤ l.length) (hB : Bytes w b 0 l) (hbw : b < w.heap.size) (hT : Lib.Utf8Tabs 2 3 w) (hg : w.cell? ⟨0, 0, none⟩ = some eofV) :
    Calls Tryd.prog 13 #[.slice (some ⟨b, 0, none⟩) l.length cap, .int .i64 (m : Int), .int .u64 (st : Int)] w (CnRes w eofV c) := by
  rcases hx with ⟨rfl, rfl, rfl⟩ | ⟨rfl, rfl⟩ | ⟨rfl, rfl⟩
  · exact cnr1 l b cap eofV w hl hcap hB hbw hT hg
  · exact cnr3 l b cap m eofV w hl hcap hn hB hbw hT hg
  · exact cnr5 l b cap m eofV w hl hcap hn hB hbw hT hg

/-- How an error of reading is told. -/
theorem fault_any (c2 : Nat) (err : Value) (a : Addr) (w : World) (hg : w.cell? ⟨0, 0, none⟩ = some (.iface 95 (.pointer (some a)))) (h3 : c2 ≤ 2) (h0 : c2 = 0 → err = .nilIface) (h1 : c2 = 1 → err = .iface 95 (.pointer (some a))) (h2 : c2 = 2 → Bad err) :
    Calls Tryd.prog 14 #[err] w fun e w' => e = .returned (.int .i64 (c2 : Int)) ∧ w' = w := by
  rcases (show c2 = 0 ∨ c2 = 1 ∨ c2 = 2 by omega) with rfl | rfl | rfl
  · rw [h0 rfl]
    exact fault_nil w
  · rw [h1 rfl]
    exact fault_eof a w hg
  · obtain ⟨q, rfl⟩ := h2 rfl
    exact fault_bad _ a w hg

set_option maxHeartbeats 2000000 in
theorem wireNumberAgain_any (p s : ByteArray) (a : Addr) (m st : Nat) (c : Nat × Nat × Nat) (w : World) (hp : p.size ≤ 4000) (hs : s.size ≤ 4000) (h1 : cInt p.data.toList 0 = (m, st, 1)) (h2 : Next s.data.toList m st c) (h3 : c.2.2 ≤ 2) (hm : m ≤ s.size)
    (hT : Lib.Utf8Tabs 2 3 w) (hg : w.cell? ⟨0, 0, none⟩ = some (.iface 95 (.pointer (some a)))) (hw : 1 ≤ w.heap.size) :
    Calls Tryd.prog 7 #[.string p, .string s] w fun e w' => e = .returned (.tuple #[.int .i64 ((c.1 : Nat) : Int), .int .i64 ((c.2.2 : Nat) : Int)]) ∧ Below w.heap.size w w' := by
  obtain ⟨n, s2, c2⟩ := c
  have HT := Lib.hid hT
  have HG := Lib.hid hg
  have H1 := Lib.hid h1
  have H2 := Lib.hid h2
  clear hT hg h1 h2
  go_enter Tryd.func7, Tryd.ntmps7
  go_wp2_with (refine wpList_conv u8n rfl (.tmp 10) 9 rfl string9n rfl (by unfold maxLen; omega) ?_; intro c1 w1 o1 b1 z1; have O1 := Lib.hid o1; have B1 := Lib.hid b1; clear o1 z1 b1)
  have X := O1.out.slice
  have e1 : p.data.toList.length = p.size := size_eq p
  have hg1 := Below.keep B1.out (b := 0) (by omega) HG.out
  have hres := cnr0 p.data.toList w.heap.size c1 (.iface 95 (.pointer (some a))) w1 (by omega) (by have := X.2.1; omega) X.2.2.2.2 X.2.2.2.1 (Go.Proofs.Utf8Tabs_below HT.out B1.out) hg1
  rw [H1.out, e1] at hres
  refine hres.mono ?_
  rintro e w2 ⟨⟨err, rfl, -, herr, -⟩, hb2⟩
  obtain rfl := herr rfl
  have B2 := Lib.hid (below_step B1.out hb2)
  clear hb2 hres herr X e1 hg1 O1 B1
  go_wp2_with fail
  refine (fault_eof a _ (Below.keep B2.out (b := 0) (by omega) HG.out)).mono ?_
  rintro e w3 ⟨rfl, rfl⟩
  go_wp2_with (refine wpList_conv u8n rfl (.tmp 20) 9 rfl string9n rfl (by unfold maxLen; omega) ?_; intro c4 w4 o4 b4 z4; have O4 := Lib.hid o4; have B4 := Lib.hid (below_step B2.out b4); clear o4 z4 b4)
  have X := O4.out.slice
  have e1 : s.data.toList.length = s.size := size_eq s
  have hres := second_any s.data.toList w3.heap.size c4 m st (n, s2, c2) (.iface 95 (.pointer (some a))) w4 H2.out (by omega) (by have := X.2.1; omega) (by omega) X.2.2.2.2 X.2.2.2.1 (Go.Proofs.Utf8Tabs_below HT.out B4.out) (Below.keep B4.out (b := 0) (by omega) HG.out)
  rw [e1] at hres
  refine hres.mono ?_
  rintro e w5 ⟨⟨err, rfl, q0, q1, q2⟩, hb5⟩
  have B5 := Lib.hid (below_step B4.out hb5)
  have HF := Lib.hid (fault_any c2 err a w5 (Below.keep B5.out (b := 0) (by omega) HG.out) h3 q0 q1 q2)
  clear hb5 hres X e1 q0 q1 q2
  go_wp2_with fail
  refine HF.out.mono ?_
  rintro e w6 ⟨rfl, rfl⟩
  go_wp2_with fail
  go_ret2
  exact ⟨rfl, B5.out⟩

end Go.Proofs.YtifemmjblamfkaaDoor
