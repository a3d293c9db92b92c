/- A token behind a pointer: the package's and the reference's. -/
import Derived.Test.YtalkajcndllipaaRune
import Derived.Test.YtalkajcndllipaaPtrValid
import Derived.Lib.OthersKept
namespace Go.Proofs.Ytalkajcndllipaa
open Go.RowKit

theorem string9r : Try.prog.underlying 9 = some .string := by kernel_rfl

theorem src_str {w : World} (s : ByteArray) (n : Nat) (l : List UInt8) (hl : s.data.toList = l) (hn : s.size = n) : Src Try.prog 1 9 (.string s) n (l.map B) w := by
  subst hn hl
  have h := Src.ofString (P := Try.prog) (w := w) string9r s
  have e : byteCells s = s.data.toList.map B := by
    simp only [byteCells]
    rfl
  rwa [e] at h

def escB (c : UInt8) : List UInt8 := if c = 126 then [126, 48] else if c = 47 then [126, 49] else [c]

/-- A token as a pointer has it. -/
def esc (l : List UInt8) : List UInt8 := l.flatMap escB

theorem esc_append (a b : List UInt8) : esc (a ++ b) = esc a ++ esc b := by simp [esc]

theorem esc_len (l : List UInt8) : (esc l).length ≤ 2 * l.length := by
  induction l with
  | nil => simp [esc]
  | cons c t ih =>
    have : esc (c :: t) = escB c ++ esc t := rfl
    rw [this, List.length_append, List.length_cons]
    have : (escB c).length ≤ 2 := by unfold escB; split <;> (try split) <;> simp
    omega

theorem esc_high {l : List UInt8} (h : ∀ c ∈ l, 128 ≤ c.toNat) : esc l = l := by
  induction l with
  | nil => rfl
  | cons c t ih =>
    have hc := h c (by simp)
    have e : escB c = [c] := by
      unfold escB
      rw [if_neg (fun e => by subst e; exact absurd hc (by decide)), if_neg (fun e => by subst e; exact absurd hc (by decide))]
    have : esc (c :: t) = escB c ++ esc t := rfl
    rw [this, e, ih (fun x hx => h x (List.mem_cons_of_mem _ hx))]
    rfl

theorem Own.iterAt {w : World} {v : Value} {l : List UInt8} (h : Own w v l) (k : Nat) (s : ByteArray) (pos : Nat) (hv : ∀ a, baseOf v = some a → a.block ≠ k) : Own (w.iterAt k s pos) v l :=
  h.of_heap (by rw [Lib.iterAt_size]; exact Nat.le_refl _) (fun j _ hj => Lib.iterAt_other w k j s pos (by
    rcases hj with hj | ⟨o, hj⟩
    · exact hv _ hj
    · exact hv _ hj))

theorem Kept.iterAt {w0 w : World} {v : Value} (h : Kept w0 w v) {k : Nat} (hk : w0.heap.size ≤ k) (s : ByteArray) (pos : Nat) : Kept w0 (w.iterAt k s pos) v :=
  ⟨h.os, h.tape, h.output, by rw [Lib.iterAt_size]; exact h.size, fun j hj hne => (Lib.iterAt_other w k j s pos (by omega)).trans (h.block j hj hne),
    fun a ha hlt o ho => (cell_of_heap (Lib.iterAt_other w k a.block s pos (by omega)) o).trans (h.low a ha hlt o ho)⟩

/-- Between two rounds of the package's loop. -/
structure EscInv (w : World) (v0 : Value) (l0 : List UInt8) (s : ByteArray) (v : Value) (pos : Nat) (wr : World) : Prop where
  app : AppTo w v0 wr v (l0 ++ esc (s.data.toList.take pos))
  ne : ∀ a, baseOf v = some a → a.block ≠ w.heap.size
  it : wr.heap[w.heap.size]? = some (.stringIter s pos)
  text : Text (s.data.toList.drop pos)
  le : pos ≤ s.size

theorem EscInv.moved {w : World} {v0 : Value} {l0 : List UInt8} {s : ByteArray} {v : Value} {pos : Nat} {wr : World} (h : EscInv w v0 l0 s v pos wr) (p : Nat) :
    AppTo w v0 (wr.iterAt w.heap.size s p) v (l0 ++ esc (s.data.toList.take pos)) ∧ (wr.iterAt w.heap.size s p).heap[w.heap.size]? = some (.stringIter s p) :=
  ⟨⟨h.app.own.iterAt _ _ _ h.ne, h.app.kept.iterAt (Nat.le_refl _) s p, h.app.pos⟩, Lib.iterAt_heap wr _ s pos p h.it⟩

theorem EscInv.step {w : World} {v0 : Value} {l0 : List UInt8} {s : ByteArray} {v v' : Value} {pos n : Nat} {wr w3 : World} (h : EscInv w v0 l0 s v pos wr) (hc : CharAt (s.data.toList.drop pos) n) (ht : Text ((s.data.toList.drop pos).drop n))
    (k : AppTo (wr.iterAt w.heap.size s (pos + n)) v w3 v' ((l0 ++ esc (s.data.toList.take pos)) ++ esc ((s.data.toList.drop pos).take n))) : EscInv w v0 l0 s v' (pos + n) w3 := by
  have hm := h.moved (pos + n)
  have hlt : w.heap.size < (wr.iterAt w.heap.size s (pos + n)).heap.size := by
    rw [Lib.iterAt_size]
    exact (Array.getElem?_eq_some_iff.1 h.it).1
  refine ⟨?_, fun a ha => ?_, (k.kept.block _ hlt h.ne).trans hm.2, by rw [← List.drop_drop]; exact ht, ?_⟩
  · have e : esc (s.data.toList.take (pos + n)) = esc (s.data.toList.take pos) ++ esc ((s.data.toList.drop pos).take n) := by
      rw [← esc_append, ← List.take_add]
    rw [e, ← List.append_assoc]
    exact hm.1.trans k
  · rcases k.pos with e | e
    · exact h.ne a (e ▸ ha)
    · have := e a ha; omega
  · have := hc.le.2
    rw [List.length_drop, size_eq] at this
    have := h.le
    omega

theorem Text.first {l : List UInt8} (h : Text l) (hne : l ≠ []) : ∃ n, CharAt l n ∧ Text (l.drop n) := by
  cases h with
  | nil => exact absurd rfl hne
  | cons a b => exact ⟨_, a, b⟩

theorem escEnd {w : World} {v0 v v' : Value} {l0 : List UInt8} {s : ByteArray} {pos n : Nat} {wr w3 : World} (h : EscInv w v0 l0 s v' (pos + n) w3) (h0 : EscInv w v0 l0 s v pos wr) (hn : 1 ≤ n) (hle : pos + n ≤ s.size) :
    (∃ p, EscInv w v0 l0 s v' p w3) ∧ s.size - w3.iterPos w.heap.size < s.size - wr.iterPos w.heap.size := by
  refine ⟨⟨_, h⟩, ?_⟩
  simp only [World.iterPos, h.it, h0.it]
  omega

set_option maxRecDepth 100000 in
set_option maxHeartbeats 1000000 in
theorem appendEsc_any (v0 : Value) (l0 : List UInt8) (b n cap : Nat) (s : ByteArray) (w : World) (h : Own w v0 l0) (hl0 : l0.length ≤ 100000) (hn : n = s.data.toList.length) (hB : Bytes w b 0 s.data.toList) (hs : s.size ≤ 4000) (ht : Text s.data.toList) :
    Calls Try.prog 23 #[v0, .slice (some ⟨b, 0, none⟩) n cap] w (App w v0 (l0 ++ esc s.data.toList)) := by
  have H := Lib.hid h
  have HN := Lib.hid hn
  have HB := Lib.hid hB
  have HT := Lib.hid ht
  clear h hn hB ht
  go_enter Try.func23, Try.ntmps23
  go_wp2_with (refine wpList_toStr u8r rfl (.tmp 7) 9 rfl string9r rfl s HN.out HB.out ?_)
  go_loopw [0, 6] (fun v _ wr => ∃ pos, EscInv w v0 l0 s v pos wr) (fun _ _ wr => s.size - wr.iterPos w.heap.size)
  case atStart =>
    have e : w.iter s 0 = w.alloc (.stringIter s 0) := rfl
    have hit : (w.alloc (.stringIter s 0)).heap[w.heap.size]? = some (.stringIter s 0) := World.iter_heap w s 0
    have o := (AppTo.refl H.out).alloc (.stringIter s 0)
    have e0 : l0 ++ esc (s.data.toList.take 0) = l0 := by simp [esc]
    refine ⟨0, ?_, fun a ha => by have := H.out.lt a ha; omega, by rw [e]; exact hit, by simpa using HT.out, Nat.zero_le _⟩
    rw [e, e0]
    exact o
  case round =>
    obtain ⟨pos, hinv⟩ := hrel
    have HI := Lib.hid hinv
    clear hinv
    by_cases hp : pos < s.size
    · obtain ⟨n, hc, ht⟩ : ∃ n, CharAt (s.data.toList.drop pos) n ∧ Text ((s.data.toList.drop pos).drop n) := HI.out.text.first (by
        intro e
        have := congrArg List.length e
        rw [List.length_drop, size_eq, List.length_nil] at this
        omega)
      obtain ⟨r, hd, henc, hr1, hr2, hlow, hhigh⟩ := decode_char s pos n hc
      have hnx' := fun ty => Lib.run_next_any_at (P := Try.prog) wr w.heap.size s pos ty HI.out.it hp
      rw [hd] at hnx'
      have hstep := fun v' w3 k => HI.out.step (v' := v') (w3 := w3) hc ht k
      have hm := HI.out.moved (pos + n)
      have hnpos : 1 ≤ n := hc.le.1
      have hle : pos + n ≤ s.size := by
        have := hc.le.2
        rw [List.length_drop, size_eq] at this
        omega
      have hlen : (l0 ++ esc (s.data.toList.take pos)).length ≤ 200000 := by
        have := esc_len (s.data.toList.take pos)
        rw [List.length_append]
        rw [List.length_take, size_eq] at this
        omega
      obtain ⟨w2, hw2⟩ : ∃ w2, w2 = wr.iterAt w.heap.size s (pos + n) := ⟨_, rfl⟩
      simp only [← hw2] at hnx' hstep hm
      have hnx := hnx'
      have HS := Lib.hid hstep
      have HM := Lib.hid hm
      have HW := Lib.hid hw2
      have HLo := Lib.hid hlow
      have HHi := Lib.hid hhigh
      have HE := Lib.hid henc
      have HLen := Lib.hid hlen
      clear hnx' hstep hm hw2 hlow hhigh henc hlen hd hc ht
      by_cases h126 : r = 126
      · subst h126
        obtain ⟨a, t, e1, e2, e3⟩ := HLo.out (by omega)
        have hx : esc ((s.data.toList.drop pos).take n) = [126, 48] := by
          rw [e1, e2, show a = 126 from UInt8.toNat_inj.1 e3]
          rfl
        have HX := Lib.hid hx
        clear hx e1 e2 e3
        go_wp2_with (first
          | (at_builtin
             refine wpList_app u8r rfl (.tmp 19) (.const (.string ⟨#[126, 48]⟩)) 9 rfl (AppTo.refl HM.out.1.own) rfl [126, 48] rfl (src_str _ _ _ rfl rfl) (by have := HLen.out; simp at this ⊢; omega) ?_
             intro v1 w1 h1'
             have h1 := Lib.hid h1'
             clear h1'))
        exact escEnd (HS.out _ _ (by rw [HX.out]; exact h1.out)) HI.out hnpos hle
      · by_cases h47 : r = 47
        · subst h47
          obtain ⟨a, t, e1, e2, e3⟩ := HLo.out (by omega)
          have hx : esc ((s.data.toList.drop pos).take n) = [126, 49] := by
            rw [e1, e2, show a = 47 from UInt8.toNat_inj.1 e3]
            rfl
          have HX := Lib.hid hx
          clear hx e1 e2 e3
          go_wp2_with (first
            | (at_builtin
               refine wpList_app u8r rfl (.tmp 23) (.const (.string ⟨#[126, 49]⟩)) 9 rfl (AppTo.refl HM.out.1.own) rfl [126, 49] rfl (src_str _ _ _ rfl rfl) (by have := HLen.out; simp at this ⊢; omega) ?_
               intro v1 w1 h1'
               have h1 := Lib.hid h1'
               clear h1'))
          exact escEnd (HS.out _ _ (by rw [HX.out]; exact h1.out)) HI.out hnpos hle
        · have n126 : ((r : Int) == 126) = false := by rw [beq_eq_false_iff_ne]; omega
          have n47 : ((r : Int) == 47) = false := by rw [beq_eq_false_iff_ne]; omega
          have hx : esc ((s.data.toList.drop pos).take n) = Lib.encodeRune r := by
            rw [HE.out]
            by_cases hr : r < 128
            · obtain ⟨a, t, e1, e2, e3⟩ := HLo.out hr
              rw [e1, e2]
              have : escB a = [a] := by
                unfold escB
                rw [if_neg (fun e => by subst e; exact h126 e3.symm), if_neg (fun e => by subst e; exact h47 e3.symm)]
              show escB a ++ [] = [a]
              rw [this]
              rfl
            · exact esc_high (HHi.out (by omega))
          have HX := Lib.hid hx
          clear hx
          go_wp2_with fail
          refine (appendRune_any _ _ r hr1 hr2 _ HM.out.1.own (by have := HLen.out; omega)).mono ?_
          rintro e w1 ⟨v1, rfl, k1⟩
          have h1 := Lib.hid k1
          clear k1
          go_wp2_with fail
          exact escEnd (HS.out _ _ (by rw [HX.out]; exact h1.out)) HI.out hnpos hle
    · have hpe : pos = s.size := by have := HI.out.le; omega
      have hnx := fun ty => Lib.run_next_end_at (P := Try.prog) wr w.heap.size s pos ty HI.out.it hp
      go_wp2_with fail
      go_ret
      have := HI.out.app
      rw [hpe, ← size_eq, List.take_length] at this
      exact ⟨_, rfl, this⟩

end Go.Proofs.Ytalkajcndllipaa
