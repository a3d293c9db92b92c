/- The thin package's check of a text. -/
import Derived.Test.YtebiendmngmjcaaChk
import Derived.Test.YtebiendmngmjcaaZzO
import Derived.Deep.RegionWith
namespace Go.Proofs.Ytebiendmngmjcaa
open Go.RowKit

theorem assert_yes (v : Value) (w : World) : (Instr.typeAssert (.iface 65 v) 42 65 true).run Try.prog w = .ok (.tuple #[v, .bool true]) w := by kernel_rfl

set_option maxRecDepth 100000 in
set_option maxHeartbeats 4000000 in
theorem asType_in (q a : Nat) (w : World) :
    Calls Try.prog 31 #[.iface 65 (.pointer (some ⟨q, 0, none⟩)), .pointer (some ⟨a, 0, none⟩)] w fun e w' => e = .returned (.tuple #[.pointer (some ⟨q, 0, none⟩), .bool true]) ∧ w' = w := by
  go_enter Try.func31, Try.ntmps31
  go_wp2_with fail
  go_loopw [0] (fun v wr => wr = w ∧ v = .iface 65 (.pointer (some ⟨q, 0, none⟩))) (fun _ _ => 0)
  case atStart => exact ⟨rfl, rfl⟩
  case round =>
    obtain ⟨rfl, rfl⟩ := hrel
    have hta := assert_yes (.pointer (some ⟨q, 0, none⟩)) wr
    go_wp2_with fail
    go_ret2
    exact ⟨rfl, rfl⟩

set_option maxRecDepth 100000 in
set_option maxHeartbeats 4000000 in
theorem asType_any (q : Nat) (w : World) :
    Calls Try.prog 24 #[.iface 65 (.pointer (some ⟨q, 0, none⟩))] w fun e w' => e = .returned (.tuple #[.pointer (some ⟨q, 0, none⟩), .bool true]) ∧ Below w.heap.size w w' := by
  go_enter Try.func24, Try.ntmps24
  go_wp2_with fail
  refine (asType_in q _ _).mono ?_
  rintro e w1 ⟨rfl, rfl⟩
  go_wp2_with fail
  go_ret2
  exact ⟨rfl, (Below.refl _ _).alloc (Nat.le_refl _) _⟩

theorem asType_nil (w : World) :
    Calls Try.prog 24 #[.nilIface] w fun e w' => e = .returned (.tuple #[.pointer none, .bool false]) ∧ w' = w := by
  go_enter Try.func24, Try.ntmps24
  go_wp2_with fail
  go_ret2
  exact ⟨rfl, rfl⟩

/-- The offset of an error. -/
theorem offset_any (B b : Nat) (pv ev : Value) (er : Option Int) (w : World) (h : EvAt w B b pv ev er) :
    Calls Try.prog 15 #[ev] w fun e w' => e = .returned (.int .i64 (er.getD (-1))) ∧ Below w.heap.size w w' := by
  cases er with
  | none =>
    obtain rfl := h.1 rfl
    clear h
    go_enter Try.func15, Try.ntmps15
    go_wp2_with fail
    refine (asType_nil _).mono ?_
    rintro e w1 ⟨rfl, rfl⟩
    go_wp2_with fail
    go_ret
    exact ⟨rfl, Below.refl _ _⟩
  | some y =>
    obtain ⟨q, t, rfl, h2, h3, h4, h5⟩ := h.2 y rfl
    have hq := (Array.getElem?_eq_some_iff.1 h5).1
    have HQ := Lib.hid h5
    clear h h2 h3 h4 h5
    go_enter Try.func15, Try.ntmps15
    go_wp2_with fail
    refine (asType_any q _).mono ?_
    rintro e w1 ⟨rfl, hb⟩
    have c1 := cell_of_row w1 q 1 _ _ _ ((hb.block q hq).trans HQ.out)
    have HB := Lib.hid hb
    clear hb
    go_wp2_with fail
    go_ret
    exact ⟨rfl, HB.out⟩

set_option maxRecDepth 100000 in
set_option maxHeartbeats 400000 in
theorem zzCheck_any (l : List UInt8) (b0 n cap : Nat) (w : World) (hn : n = l.length) (hb : b0 < w.heap.size) (hbytes : Bytes w b0 0 l) (hl : l.length ≤ 1000) :
    Calls Try.prog 14 #[.slice (some ⟨b0, 0, none⟩) n cap] w (KRes w w.heap.size l) := by
  subst hn
  have HB := Lib.hid hbytes
  clear hbytes
  go_enter Try.func14, Try.ntmps14
  go_wp2_with fail
  refine (newScanner_any w).mono ?_
  rintro e w1 ⟨rfl, hrow, hbel⟩
  have HR := Lib.hid hrow
  have HBe := Lib.hid hbel
  clear hrow hbel
  go_wp2_with fail
  refine (check_any l b0 l.length cap w.heap.size w1 rfl hb HR.out (HB.out.below HBe.out hb) hl).mono ?_
  rintro e w2 ⟨ev, rfl, k1, k2⟩
  have K1 := Lib.hid k1
  have K2 := Lib.hid k2
  clear k1 k2
  go_wp2_with fail
  go_ret
  exact ⟨_, rfl, HBe.out.trans K1.out, K2.out⟩

theorem Below.drewB {n : Nat} (w : World) : Below n w w.drew := ⟨rfl, rfl, rfl, Nat.le_refl _, fun _ _ => rfl⟩

set_option maxRecDepth 100000 in
set_option maxHeartbeats 2000000 in
/-- What the check of the thin package tells. -/
theorem oldCheck_any (s : ByteArray) (w : World) (hs : s.size ≤ 1000) :
    Calls Try.prog 9 #[.string s] w fun e w' => e = .returned (.tuple #[.bool (decide ((scanAll newCfg 0 s.data.toList).2.er = none)), .int .i64 ((scanAll newCfg 0 s.data.toList).2.er.getD (-1))]) ∧ Below w.heap.size w w' := by
  obtain ⟨er, her⟩ : ∃ er, (scanAll newCfg 0 s.data.toList).2.er = er := ⟨_, rfl⟩
  rw [her]
  have HE := Lib.hid her
  clear her
  go_enter Try.func9, Try.ntmps9
  go_wp2_with (refine wpList_conv u8s rfl (.tmp 5) 9 rfl str9 rfl (by unfold maxLen; omega) ?_; intro c1 w1 o1 b1 z1; have O1 := Lib.hid o1; have Z1 := Lib.hid z1; have B1 := Lib.hid b1; clear o1 z1 b1)
  have X := O1.out.slice
  refine (zzCheck_any s.data.toList _ _ _ _ X.1 X.2.2.2.1 X.2.2.2.2 (by rw [Array.length_toList]; exact hs)).mono ?_
  clear X
  rintro e w2 ⟨ev, rfl, hbel, b', pv, hev⟩
  rw [HE.out] at hev
  have HB2 := Lib.hid (B1.out.trans (hbel.mono (by have := Z1.out; omega)))
  have HEv := Lib.hid hev
  clear hbel hev
  cases er with
  | none =>
    obtain rfl := HEv.out.1 rfl
    go_wp2_with fail
    go_region_with (go_at_call 15; refine (offset_any 0 0 .nilIface .nilIface none _ ⟨fun _ => rfl, fun y hy => (by cases hy)⟩).mono ?_; rintro e w3 ⟨rfl, h3⟩; have H3 := Lib.hid h3; clear h3)
    all_goals
      go_wp2_with fail
      go_ret2
      exact ⟨rfl, HB2.out.trans ((Below.drewB w2).trans (H3.out.mono HB2.out.size))⟩
  | some y =>
    obtain ⟨q, t, rfl, h2, h3, h4, h5⟩ := HEv.out.2 y rfl
    clear h2 h3 h4 h5
    go_wp2_with fail
    go_region_with (go_at_call 15; refine (offset_any w1.heap.size b' pv _ (some y) _ (by exact HEv.out)).mono ?_; rintro e w3 ⟨rfl, h3⟩; have H3 := Lib.hid h3; clear h3)
    all_goals
      go_wp2_with fail
      go_ret2
      exact ⟨rfl, HB2.out.trans ((Below.drewB w2).trans (H3.out.mono HB2.out.size))⟩

end Go.Proofs.Ytebiendmngmjcaa
