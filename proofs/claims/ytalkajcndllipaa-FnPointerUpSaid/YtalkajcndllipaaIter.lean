/- The package's iterator over a pointer's tokens. -/
import Derived.RangeFuncNested
import Derived.RangeFuncBound
import Derived.RangeFuncCalls
import Derived.RangeFuncLeaves
import Derived.Shelf.Abstract
import Derived.Shelf.RegionOpen
import Derived.WalkKit
import Derived.OwnWalkIn
import Derived.TacticsInMore
import Derived.LoopNIn
import Derived.LoopIn
import Derived.Deep.RegionWith
import Derived.Test.YtalkajcndllipaaIdx
import Derived.Test.YtalkajcndllipaaOver
namespace Go.Proofs.Ytalkajcndllipaa
open Go.RowKit

attribute [local go_sem] Oper.semAt_some

/-- A token, as a value. -/
def tokV (t : List UInt8) : Value := .string ⟨t.toArray⟩

def cellLen (W : World) (bx : Nat) : Nat := strLen ((W.cell? ⟨bx, 0, none⟩).getD undef)

theorem size_setCell (w : World) (a : Addr) (v : Value) : (w.setCell a v).heap.size = w.heap.size := by
  show (w.heap.modify _ _).size = _
  rw [Array.size_modify]

/-- Between two rounds of the iterator. -/
structure IterInv (bx : Nat) (xs : List (List UInt8)) (J : List (List UInt8) → World → Prop) (done rest' : List (List UInt8)) (rest : List UInt8) (W : World) : Prop where
  all : xs = done ++ rest'
  toks : Toks rest rest'
  box : Boxed W bx 32 (tokV rest)
  small : rest.length ≤ 100000
  held : J done W

set_option maxRecDepth 100000 in
set_option maxHeartbeats 2000000 in
theorem tokens1_in (bx l : Nat) (xs : List (List UInt8)) (l0 : List UInt8) (J : List (List UInt8) → World → Prop) (W : World)
    (hY : ∀ pre x W1, J pre W1 → pre ++ [x] <+: xs → YieldAt Fence.wide 1 Try.prog l #[tokV x] W1 fun e W' => e = .returned (.bool true) ∧ J (pre ++ [x]) W' ∧ W'.heap[bx]? = W1.heap[bx]?)
    (hJ : AbidesBox W.heap.size bx J) (h0 : IterInv bx xs J [] xs l0 W) :
    CallsIn Fence.wide 2 Try.prog 24 #[.func (.yield l) #[] #[], .pointer (some ⟨bx, 0, none⟩)] W fun e W' => (∃ v, e = .returned v) ∧ J xs W' := by
  refine callsIn_of_wp Try.func24 rfl trivial ?_ rfl
  simp only [Try.ntmps24, List.size_toArray, List.length_cons, List.length_nil, Nat.reduceAdd, Nat.reduceSub, Array.replicate_succ, Array.replicate_zero, List.push_toArray, List.append_toArray, List.nil_append, List.cons_append]
  gi_wp2
  gi_loopw [3] (fun _ wr => ∃ done rest' rest, IterInv bx xs J done rest' rest wr) (fun _ wr => cellLen wr bx)
  case atStart => exact ⟨[], xs, l0, h0⟩
  case round =>
    obtain ⟨done, rest', rest, hinv⟩ := hrel
    have hc := hinv.box.cell
    have hf := hinv.box.frozen
    have ht := hinv.toks
    have HI := Lib.hid hinv
    clear hinv
    cases ht with
    | nil =>
      have hz : (tokV []) = .string ⟨#[]⟩ := rfl
      rw [hz] at hc
      gi_wp2
      go_end0
      have := HI.out.held
      have ha := HI.out.all
      rw [List.append_nil] at ha
      exact ⟨⟨_, rfl⟩, by rw [ha]; exact this⟩
    | cons p r ts h47 hok hh hr =>
      obtain ⟨s, hs⟩ : ∃ s : ByteArray, s = ⟨(47 :: (p ++ r)).toArray⟩ := ⟨_, rfl⟩
      obtain ⟨s1, hs1⟩ : ∃ s : ByteArray, s = ⟨(p ++ r).toArray⟩ := ⟨_, rfl⟩
      have hl : s.data.toList = 47 :: (p ++ r) := by rw [hs]
      have hl1 : s1.data.toList = p ++ r := by rw [hs1]
      have hsmall := HI.out.small
      have hsz : s.size ≤ 100000 := by rw [← size_eq, hl]; exact hsmall
      have hsz1 : s1.size ≤ 100000 := by rw [← size_eq, hl1]; simp at hsmall ⊢; omega
      have hpos : 0 < (s.size : Int) := by have : 0 < s.size := by rw [← size_eq, hl]; simp
                                           omega
      have hz : tokV (47 :: (p ++ r)) = .string s := by rw [hs]; rfl
      rw [hz] at hc
      have HS1 := Lib.hid hs1
      have HL := Lib.hid hl
      have HL1 := Lib.hid hl1
      have H47 := Lib.hid h47
      have HOK := Lib.hid hok
      have HH := Lib.hid hh
      have HR := Lib.hid hr
      have hc1 := World.cell?_setCell_same' wr ⟨bx, 0, none⟩ (.string s1) (by rw [hc]; rfl)
      have hf1 : (wr.setCell ⟨bx, 0, none⟩ (.string s1)).frozen? ⟨bx, 0, none⟩ = false := by rw [World.frozen?_setCell]; exact hf
      have hJ1 : J done (wr.setCell ⟨bx, 0, none⟩ (.string s1)) := hJ.store _ _ _ HI.out.held
      have HJ1 := Lib.hid hJ1
      obtain ⟨sp, hsp⟩ : ∃ s : ByteArray, s = ⟨p.toArray⟩ := ⟨_, rfl⟩
      obtain ⟨sr, hsr⟩ : ∃ s : ByteArray, s = ⟨r.toArray⟩ := ⟨_, rfl⟩
      have hlp : sp.data.toList = p := by rw [hsp]
      have hlr : sr.data.toList = r := by rw [hsr]
      have hszp : sp.size ≤ 100000 := by rw [← size_eq, hlp]; simp at hsmall; omega
      have hcut : s1.extract 0 p.length = sp := bytes_ext (by rw [extract_toList, hl1, hlp]; simp)
      have hcut2 : s1.extract p.length s1.size = sr := bytes_ext (by rw [extract_list, hl1, hlr]; simp)
      have hple : (p.length : Int) ≤ (s1.size : Int) := by rw [← size_eq, hl1, List.length_append]; omega
      have hp0 : (0 : Int) ≤ (p.length : Int) := by omega
      obtain ⟨I, hI⟩ : ∃ I : Int, I = Lib.indexByte s1.data.toList 47 := ⟨_, rfl⟩
      have hmin : (if IntKind.u64.wrap (s1.size : Int) < IntKind.u64.wrap I then IntKind.u64.wrap (s1.size : Int) else IntKind.u64.wrap I) = (p.length : Int) := by
        have h9 := idx_min h47 hh (by rw [← hl1, size_eq]; exact hsz1)
        rw [← hl1, size_eq, ← hI] at h9
        have h8 : IntKind.u64.wrap (s1.size : Int) = (s1.size : Int) := by rw [IntKind.wrap_u64]; omega
        rw [h8]
        split <;> omega
      have HII := Lib.hid hI
      have HM := Lib.hid hmin
      have HSR := Lib.hid hsr
      have HLP := Lib.hid hlp
      have hxs := HI.out.all
      have HXS := Lib.hid hxs
      have hbx := HI.out.box.lt
      clear hI hmin hsr hsp hlp hlr hxs
      clear hs hs1 hl hl1 hz h47 hok hh hr hsmall hJ1
      gi_wp2_with (first
        | (refine ⟨trivial, ?_⟩
           gi_at_call 25
           refine (callsIn_wide.2 (trim_any s (p ++ r) HL.out hsz _)).mono ?_
           rintro e w9 ⟨rfl, rfl⟩
           rw [← HS1.out])
        | fail)
      refine wpIn_wide.2 ?_
      go_region_with (go_at_call 26; refine (idx_any s1 _).mono ?_; rintro e w8 ⟨rfl, rfl⟩; rw [← HII.out])
      all_goals rw [HM.out]
      all_goals
        gi_wp2_with (first
          | (refine ⟨trivial, ?_⟩
             gi_at_call 27
             refine (callsIn_wide.2 (unescape_any sp hszp (by rw [HLP.out]; exact HOK.out) _)).mono ?_
             rintro e w2 ⟨b2, rfl⟩
             rw [HLP.out]
             obtain ⟨fn, tmps, assign, body, hy, hRd⟩ := hY done (unesc p) w2 (hJ.below (hJ.drew HJ1.out) b2) (by rw [HXS.out]; exact ⟨ts, by simp⟩)
             unfold tokV at hy
             have B2 := Lib.hid b2
             have HRd := Lib.hid hRd
             clear b2 hRd)
          | fail)
      all_goals
        refine HRd.out.mono ?_
        rintro e W3 ⟨rfl, hJ3, hk3⟩
        have hblk : W3.heap[bx]? = (w9.setCell ⟨bx, 0, none⟩ (.string s1)).heap[bx]? := hk3.trans (B2.out.block bx (by show bx < (w9.setCell ⟨bx, 0, none⟩ (.string s1)).heap.size; rw [size_setCell]; exact hbx))
        have hB3 : Boxed W3 bx 32 (.string s1) := hblk.trans (Boxed.set (.string s1) HI.out.box)
        have hc3 := hB3.cell
        have hf3 := hB3.frozen
        have HB3 := Lib.hid hB3
        have HJ3 := Lib.hid hJ3
        clear hJ3 hk3 hblk hB3
        gi_wp2
        refine ⟨⟨done ++ [unesc p], ts, r, by rw [HXS.out]; simp, HR.out, ?_, by have := HI.out.small; simp at this; omega, hJ.store _ _ _ HJ3.out⟩, ?_⟩
        · have := Boxed.set (.string sr) HB3.out
          rw [HSR.out] at this ⊢
          exact this
        · have e1 : cellLen w9 bx = s.size := by unfold cellLen; rw [hc]; rfl
          have e2 : cellLen (W3.setCell ⟨bx, 0, none⟩ (.string sr)) bx = sr.size := by unfold cellLen; rw [(Boxed.set (.string sr) HB3.out).cell]; rfl
          rw [e1, e2, ← size_eq, ← size_eq, HL.out, HSR.out]
          simp
          omega

/-- The package's value, in every later world. -/
theorem tokens_gives (bx : Nat) (xs : List (List UInt8)) (l0 : List UInt8) (w : World) (hbx : bx < w.heap.size) (ht : Toks l0 xs) (hl : l0.length ≤ 100000) (hb : Boxed w bx 32 (tokV l0)) :
    GivesBox Fence.wide 2 Try.prog 24 #[.pointer (some ⟨bx, 0, none⟩)] (fun t => #[tokV t]) bx xs w := by
  intro l J W hW hJ hY h0
  exact tokens1_in bx l xs l0 J W hY hJ ⟨rfl, ht, (hW.block bx hbx).trans hb, hl, h0⟩

end Go.Proofs.Ytalkajcndllipaa
