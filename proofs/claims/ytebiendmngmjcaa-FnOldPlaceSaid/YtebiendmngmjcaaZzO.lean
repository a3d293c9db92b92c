/- The thin package's scan of a text. -/
import Derived.Test.YtebiendmngmjcaaZzW
namespace Go.Proofs.Ytebiendmngmjcaa
open Go.RowKit

theorem u8s : U8 Try.prog 45 5 := ⟨by kernel_rfl, by kernel_rfl, by kernel_rfl⟩
theorem str9 : Try.prog.underlying 9 = some .string := by kernel_rfl
theorem el_i64 : El8 Try.prog 23 2 (.int .i64 0) := ⟨by kernel_rfl, by kernel_rfl, rfl⟩

/-- Cells that hold whole numbers. -/
def Ints (w : World) (q : Nat) (L : List Nat) : Prop := ∀ j (h : j < L.length), w.cell? ⟨q, j, none⟩ = some (.int .i64 ((L[j]'h : Nat) : Int))

theorem row_form {w : World} {B : Nat} {t : TypeId} {v : Value} {L : List Nat} (h : w.ownsRow B t 1 v L.length (L.map I64)) (hne : L ≠ []) :
    ∃ q cap, v = .slice (some ⟨q, 0, none⟩) L.length cap ∧ L.length ≤ cap ∧ cap ≤ maxLen ∧ B ≤ q ∧ q < w.heap.size ∧ Ints w q L := by
  have hl : L.length ≠ 0 := fun e => hne (List.eq_nil_of_length_eq_zero e)
  rcases h.2 with ⟨_, h0⟩ | ⟨q, cap, cur, hv, hB, hq, hn, hc, hcs, ht⟩
  · exact absurd h0 hl
  · refine ⟨q, cap, hv, hn, hc, hB, (Array.getElem?_eq_some_iff.1 hq).1, fun j hj => ?_⟩
    rw [cell_of_row w q _ _ _ _ hq]
    rw [Nat.mul_one] at ht
    have h1 : (cur.toList.take L.length)[j]? = (L.map I64)[j]? := by rw [ht]
    rw [List.getElem?_take_of_lt hj] at h1
    rw [← Array.getElem?_toList, h1, List.getElem?_map, List.getElem?_eq_getElem hj]
    rfl

theorem Ints.below {w w' : World} {n q : Nat} {L : List Nat} (h : Ints w q L) (b : Below n w w') (hq : q < n) : Ints w' q L := fun j hj => (cell_of_heap (b.block q hq) j).trans (h j hj)

theorem own_grown {w w1 : World} {B : Nat} {t : TypeId} {v : Value} {n : Nat} {xs : List Value} (h : w.ownsRow B t 1 v n xs) (hB : B ≤ w.heap.size) (hg : w.grownBy w1 v.ownBlock) : Below B w w1 :=
  ⟨hg.os, hg.tape, hg.output, hg.size, fun k hk => hg.block k (by omega) (fun e => by have := (h.lt _ e.symm).1; omega)⟩

theorem take_snoc {L : List Nat} {k c : Nat} (hk : k < L.length) (hc : c = L[k]'hk) : (L.take (k + 1)).map I64 = (L.take k).map I64 ++ [I64 c] := by
  rw [List.take_add_one, List.getElem?_eq_getElem hk, ← hc, List.map_append]
  rfl

/-- What the scan of the thin package leaves. -/
structure ORes (w : World) (l : List UInt8) (e : Ending) (w' : World) : Prop where
  what : ∃ q cap, e = .returned (.tuple #[.slice (some ⟨q, 0, none⟩) (scanAll newCfg 0 l).1.length cap, .bool (decide ((scanAll newCfg 0 l).2.er = none))]) ∧ (scanAll newCfg 0 l).1.length ≤ cap ∧ cap ≤ maxLen ∧ Ints w' q (scanAll newCfg 0 l).1 ∧ Below w.heap.size w w'

set_option maxRecDepth 100000 in
set_option maxHeartbeats 4000000 in
theorem oldScan_any (s : ByteArray) (w : World) (hs : s.size ≤ 1000) :
    Calls Try.prog 6 #[.string s] w (ORes w s.data.toList) := by
  obtain ⟨L, hL⟩ : ∃ L, (scanAll newCfg 0 s.data.toList).1 = L := ⟨_, rfl⟩
  obtain ⟨er, her⟩ : ∃ er, (scanAll newCfg 0 s.data.toList).2.er = er := ⟨_, rfl⟩
  have ht := told s.data.toList newCfg newCfg_wf 0
  rw [hL, her] at ht
  have hne := ht.len.1
  have hlen : L.length ≤ 1001 := by
    have := ht.len.2
    have hz : s.data.toList.length = s.size := by rw [Array.length_toList]; rfl
    omega
  have HL := Lib.hid hL
  have HE := Lib.hid her
  have HNE := Lib.hid hne
  clear hL her ht hne
  go_enter Try.func6, Try.ntmps6
  go_wp2_with (refine wpList_conv u8s rfl (.tmp 10) 9 rfl str9 rfl (by unfold maxLen; omega) ?_; intro c1 w1 o1 b1 z1; have O1 := Lib.hid o1; have Z1 := Lib.hid z1; have B1 := Lib.hid b1; clear o1 z1 b1)
  have X := O1.out.slice
  refine (zzScan_any s.data.toList _ _ _ _ X.1 X.2.2.2.1 X.2.2.2.2 (by rw [Array.length_toList]; exact hs)).mono ?_
  clear X
  rintro e w2 ⟨cv, ev, rfl, hrow, hbel, hev⟩
  rw [HL.out] at hrow
  rw [HE.out] at hev
  obtain ⟨q, cap, rfl, q1, q2, q3, q4, q5⟩ := row_form hrow HNE.out
  have HI := Lib.hid q5
  have HB2 := Lib.hid (B1.out.trans (hbel.mono (by have := Z1.out; omega)))
  have HQ := Lib.hid q4
  clear hrow hbel q3 q4 q5
  unfold maxLen at q2
  have HEv := Lib.hid hev
  clear hev
  go_wp2_with fail
  go_loopw [6, 18] (fun s i wr => ∃ (k : Nat), k ≤ L.length ∧ i = .int .i64 k ∧ wr.ownsRow w2.heap.size 2 1 s k ((L.take k).map I64) ∧ Below w2.heap.size w2 wr) (fun _ i _ => L.length - (intOf i).toNat)
  case atStart =>
    refine ⟨0, Nat.zero_le _, rfl, ⟨by simp, .inr ⟨w2.heap.size, 0, #[], rfl, Nat.le_refl _, heap_alloc_new w2 _, Nat.le_refl _, by simp, rfl, by simp⟩⟩, (Below.refl _ _).alloc (Nat.le_refl _) _⟩
  case round =>
    obtain ⟨k, hk, rfl, hown, hbel⟩ := hrel
    have HO := Lib.hid hown
    have HB := Lib.hid hbel
    clear hown hbel
    by_cases hkn : k < L.length
    · have hc0 := (HI.out.below HB.out HQ.out) k hkn
      obtain ⟨c, hc⟩ : ∃ c : Nat, c = (L[k]'hkn) := ⟨_, rfl⟩
      rw [← hc] at hc0
      have HC := Lib.hid hc
      clear hc
      have hkm : k < 1000000 := by omega
      go_wp2_with (first
        | (at_builtin
           refine wpList_push el_i64 rfl (.tmp 22) (.tmp 24) rfl w2.heap.size k ((L.take k).map I64) (HO.out.alloc _) (by rfl) ⟨wr.heap.size, 0, none⟩ 1 (I64 c) (by rfl) (one_new wr _ _) (by intro u hu; simp at hu; subst hu; rfl) hkm (by have := HB.out.size; simp; omega) ?_
           intro q3 cap3 w3 own3 grow3 at3
           have B3 := Lib.hid ((HB.out.alloc HB.out.size _).trans (own_grown (HO.out.alloc _) (by have := HB.out.size; simp; omega) grow3))
           have O3 := Lib.hid own3
           clear own3 grow3 at3))
      go_roundw
      case rel => exact ⟨k + 1, by omega, by go_num, by rw [take_snoc hkn HC.out]; exact O3.out, B3.out⟩
      case measure => simp [intOf]; omega
    · have hkl : k = L.length := by omega
      have hown := HO.out
      rw [hkl, List.take_length] at hown
      obtain ⟨q9, cap9, rfl, r1, r2, r3, r4, r5⟩ := row_form hown HNE.out
      have R := Lib.hid (And.intro r1 (And.intro r2 r5))
      clear hown r1 r2 r3 r4 r5
      have hnn : L.length ≠ 0 := fun e => HNE.out (List.eq_nil_of_length_eq_zero e)
      cases er with
      | none =>
        obtain rfl := HEv.out.1 rfl
        go_wp2_with fail
        go_big_quiet (fail)
        go_wp2_with fail
        go_ret2
        refine ⟨?_⟩
        rw [HL.out, HE.out]
        refine ⟨q9, cap9, rfl, R.out.1, R.out.2.1, fun j hj => (cell_of_heap rfl j).trans (R.out.2.2 j hj), ?_⟩
        exact below_drewN (HB2.out.trans (HB.out.mono HB2.out.size)) _
      | some o =>
        obtain ⟨u, x, rfl⟩ := HEv.out.2 (by simp)
        go_wp2_with fail
        go_big_quiet (fail)
        go_wp2_with fail
        go_ret2
        refine ⟨?_⟩
        rw [HL.out, HE.out]
        refine ⟨q9, cap9, rfl, R.out.1, R.out.2.1, fun j hj => (cell_of_heap rfl j).trans (R.out.2.2 j hj), ?_⟩
        exact below_drewN (HB2.out.trans (HB.out.mono HB2.out.size)) _
end Go.Proofs.Ytebiendmngmjcaa
