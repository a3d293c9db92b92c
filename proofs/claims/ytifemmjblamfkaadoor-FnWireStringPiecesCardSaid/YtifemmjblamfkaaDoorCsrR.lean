/- Reading a string that may go on later, step by step, in plain words; the flags that are joined on the way. -/
import Derived.Test.YtifemmjblamfkaaDoorCsrG
import Derived.Test.YtifemmjblamfkaaDoorCsrH
import Derived.Test.YtifemmjblamfkaaDoorIsE
import Derived.Test.YtifemmjblamfkaaDoorReader
import Derived.Deep.RegionLaw
namespace Go.Proofs.YtifemmjblamfkaaDoor
open Go.RowKit

theorem CharAt.le4 {l : List UInt8} {n : Nat} (h : CharAt l n) : 1 ≤ n ∧ n ≤ 4 ∧ n ≤ l.length := by
  rcases h with ⟨rfl, a, u, rfl, h⟩ | ⟨rfl, a, b, u, rfl, h⟩ | ⟨rfl, a, b, d, u, rfl, h⟩ | ⟨rfl, a, b, d, e, u, rfl, h⟩ <;> simp

theorem CharAt.one {l : List UInt8} {n m : Nat} (h : CharAt l n) (k : CharAt l m) : n = m := by
  obtain ⟨r, h1, _⟩ := decode_char' ⟨l.toArray⟩ 0 n (by simpa using h)
  obtain ⟨q, h2, _⟩ := decode_char' ⟨l.toArray⟩ 0 m (by simpa using k)
  rw [h1] at h2
  exact (Prod.mk.inj h2).2

theorem char_high {l : List UInt8} {c : UInt8} {t : List UInt8} {n : Nat} (e : l = c :: t) (hc : ¬ c.toNat < 128) (h : CharAt l n) : 2 ≤ n := by
  rcases h with ⟨rfl, a, u, e2, h1⟩ | ⟨rfl, _⟩ | ⟨rfl, _⟩ | ⟨rfl, _⟩
  · rw [e] at e2
    simp at e2
    rw [e2.1] at hc
    omega
  · omega
  · omega
  · omega

end Go.Proofs.YtifemmjblamfkaaDoor
namespace Go.Proofs.YtifemmjblamfkaaDoor.Wire
open Go.RowKit Go.Proofs.YtifemmjblamfkaaDoor

/-- What is done at a place. -/
inductive SStep where
  | fine
  | short
  | bad
  | go (n : Nat)

def simpleB (r : UInt8) : Bool := r == 34 || r == 92 || r == 47 || r == 98 || r == 102 || r == 110 || r == 114 || r == 116

def sUnit (l : List UInt8) (v1 : Nat) : SStep :=
  if l.length < 12 then (if prefB true (l.drop 6) = true then .short else .bad)
  else match hex4 ((l.drop 8).take 4) with
    | none => .bad
    | some v2 => if (l.drop 6).take 2 = [92, 117] then (if (pairV v1 v2).isSome = true then .go 12 else .bad) else .bad

def sEsc (vf : Bool) (l : List UInt8) : SStep :=
  match l with
  | _ :: r :: _ =>
    if simpleB r = true then .go 2
    else if r = 117 then
      if l.length < 6 then (if prefB false l = true then .short else .bad)
      else match hex4 ((l.drop 2).take 4) with
        | none => .bad
        | some v1 => if vf = true ∧ 55296 ≤ v1 ∧ v1 < 57344 then sUnit l v1 else .go 6
    else .bad
  | _ => .short

open Classical in
noncomputable def sStep (vf : Bool) (l : List UInt8) : SStep :=
  match l with
  | [] => .short
  | c :: _ =>
    if c = 34 then .fine
    else if c = 92 then sEsc vf l
    else if c.toNat < 32 then .bad
    else if h : ∃ n, CharAt l n then .go h.choose
    else if fullB l = true then (if vf = true then .bad else .go 1)
    else .short

/-- Reading on from a place: the place that is told, and how it came out. -/
inductive SRun (vf : Bool) (l : List UInt8) : Nat → Nat × Nat → Prop
  | fine {k : Nat} : sStep vf (l.drop k) = .fine → SRun vf l k (k + 1, 0)
  | short {k : Nat} : sStep vf (l.drop k) = .short → SRun vf l k (k, 1)
  | bad {k : Nat} : sStep vf (l.drop k) = .bad → SRun vf l k (k, 2)
  | go {k n : Nat} {r : Nat × Nat} : sStep vf (l.drop k) = .go n → SRun vf l (k + n) r → SRun vf l k r

/-- Reading from k0 on has come to k. -/
def SI (vf : Bool) (l : List UInt8) (k0 k : Nat) : Prop := ∀ r, SRun vf l k r → SRun vf l k0 r

theorem SI.start (vf : Bool) (l : List UInt8) (k : Nat) : SI vf l k k := fun _ h => h
theorem SI.go {vf : Bool} {l : List UInt8} {k0 k n : Nat} (h : SI vf l k0 k) (hs : sStep vf (l.drop k) = .go n) : SI vf l k0 (k + n) := fun r hr => h r (.go hs hr)
theorem SI.fine {vf : Bool} {l : List UInt8} {k0 k : Nat} (h : SI vf l k0 k) (hs : sStep vf (l.drop k) = .fine) : SRun vf l k0 (k + 1, 0) := h _ (.fine hs)
theorem SI.short {vf : Bool} {l : List UInt8} {k0 k : Nat} (h : SI vf l k0 k) (hs : sStep vf (l.drop k) = .short) : SRun vf l k0 (k, 1) := h _ (.short hs)
theorem SI.bad {vf : Bool} {l : List UInt8} {k0 k : Nat} (h : SI vf l k0 k) (hs : sStep vf (l.drop k) = .bad) : SRun vf l k0 (k, 2) := h _ (.bad hs)

theorem ss_nil (vf : Bool) : sStep vf [] = .short := rfl
theorem ss_quote {vf : Bool} {l t : List UInt8} (hl : l = 34 :: t) : sStep vf l = .fine := by
  subst hl
  simp only [sStep, if_true]
theorem ss_esc {vf : Bool} {l t : List UInt8} (hl : l = 92 :: t) : sStep vf l = sEsc vf l := by
  subst hl
  simp only [sStep]
  rw [if_neg (by decide)]
  simp only [if_true]
theorem ss_ctrl {vf : Bool} {l : List UInt8} {c : UInt8} {t : List UInt8} (hl : l = c :: t) (h32 : c.toNat < 32) : sStep vf l = .bad := by
  subst hl
  simp only [sStep]
  rw [if_neg (fun e => by rw [e] at h32; revert h32; decide), if_neg (fun e => by rw [e] at h32; revert h32; decide), if_pos h32]
theorem ss_char {vf : Bool} {l : List UInt8} {c : UInt8} {t : List UInt8} {n : Nat} (hl : l = c :: t) (h34 : c ≠ 34) (h92 : c ≠ 92) (h32 : 32 ≤ c.toNat) (hc : CharAt l n) : sStep vf l = .go n := by
  subst hl
  have hex : ∃ n, CharAt (c :: t) n := ⟨n, hc⟩
  have e : hex.choose = n := CharAt.one hex.choose_spec hc
  simp only [sStep]
  rw [if_neg h34, if_neg h92, if_neg (by omega), dif_pos hex, e]
theorem ss_bad {vf : Bool} {l : List UInt8} {c : UInt8} {t : List UInt8} (hl : l = c :: t) (h128 : 128 ≤ c.toNat) (hc : ∀ n, ¬ CharAt l n) : sStep vf l = if fullB l = true then (if vf = true then .bad else .go 1) else .short := by
  subst hl
  simp only [sStep]
  rw [if_neg (fun e => by rw [e] at h128; revert h128; decide), if_neg (fun e => by rw [e] at h128; revert h128; decide), if_neg (by omega), dif_neg (fun ⟨n, h⟩ => hc n h)]
theorem ss_one {vf : Bool} {l : List UInt8} (hl : l = [92]) : sStep vf l = .short := by
  rw [ss_esc hl, hl]
  rfl
theorem ss_simple {vf : Bool} {l t : List UInt8} {r : UInt8} (hl : l = 92 :: r :: t) (h : simpleB r = true) : sStep vf l = .go 2 := by
  rw [ss_esc hl, hl]
  exact if_pos h
theorem ss_other {vf : Bool} {l t : List UInt8} {r : UInt8} (hl : l = 92 :: r :: t) (h : simpleB r = false) (hu : r ≠ 117) : sStep vf l = .bad := by
  rw [ss_esc hl, hl]
  show (if simpleB r = true then SStep.go 2 else if r = 117 then _ else _) = _
  rw [if_neg (by rw [h]; decide), if_neg hu]
theorem ss_u {vf : Bool} {l t : List UInt8} (hl : l = 92 :: 117 :: t) : sStep vf l = if l.length < 6 then (if prefB false l = true then .short else .bad) else match hex4 ((l.drop 2).take 4) with
    | none => .bad
    | some v1 => if vf = true ∧ 55296 ≤ v1 ∧ v1 < 57344 then sUnit l v1 else .go 6 := by
  rw [ss_esc hl, hl]
  rfl
theorem ss_u_short {vf : Bool} {l t : List UInt8} (hl : l = 92 :: 117 :: t) (h : l.length < 6) (hp : prefB false l = true) : sStep vf l = .short := by
  rw [ss_u hl, if_pos h, if_pos hp]
theorem ss_u_not {vf : Bool} {l t : List UInt8} (hl : l = 92 :: 117 :: t) (h : l.length < 6) (hp : prefB false l = false) : sStep vf l = .bad := by
  rw [ss_u hl, if_pos h, if_neg (by rw [hp]; decide)]
theorem ss_u_bad {vf : Bool} {l t : List UInt8} (hl : l = 92 :: 117 :: t) (h : ¬ l.length < 6) (hx : hex4 ((l.drop 2).take 4) = none) : sStep vf l = .bad := by
  rw [ss_u hl, if_neg h, hx]
theorem ss_u_plain {vf : Bool} {l t : List UInt8} {v : Nat} (hl : l = 92 :: 117 :: t) (h : ¬ l.length < 6) (hx : hex4 ((l.drop 2).take 4) = some v) (hv : ¬ (vf = true ∧ 55296 ≤ v ∧ v < 57344)) : sStep vf l = .go 6 := by
  rw [ss_u hl, if_neg h, hx]
  exact if_neg hv
theorem ss_u_unit {vf : Bool} {l t : List UInt8} {v : Nat} (hl : l = 92 :: 117 :: t) (h : ¬ l.length < 6) (hx : hex4 ((l.drop 2).take 4) = some v) (hv : vf = true ∧ 55296 ≤ v ∧ v < 57344) : sStep vf l = sUnit l v := by
  rw [ss_u hl, if_neg h, hx]
  exact if_pos hv
theorem su_cut {l : List UInt8} {v : Nat} (hl : l.length < 12) (hp : prefB true (l.drop 6) = true) : sUnit l v = .short := by
  unfold sUnit; rw [if_pos hl, if_pos hp]
theorem su_cut_no {l : List UInt8} {v : Nat} (hl : l.length < 12) (hp : prefB true (l.drop 6) = false) : sUnit l v = .bad := by
  unfold sUnit; rw [if_pos hl, if_neg (by rw [hp]; decide)]
theorem su_none {l : List UInt8} {v : Nat} (hl : ¬ l.length < 12) (hx : hex4 ((l.drop 8).take 4) = none) : sUnit l v = .bad := by
  unfold sUnit; rw [if_neg hl, hx]
theorem su_other {l : List UInt8} {v v2 : Nat} (hl : ¬ l.length < 12) (hx : hex4 ((l.drop 8).take 4) = some v2) (hne : (l.drop 6).take 2 ≠ [92, 117]) : sUnit l v = .bad := by
  unfold sUnit; rw [if_neg hl, hx]
  exact if_neg hne
theorem su_pair {l : List UInt8} {v v2 r : Nat} (hl : ¬ l.length < 12) (hx : hex4 ((l.drop 8).take 4) = some v2) (he : (l.drop 6).take 2 = [92, 117]) (hr : pairV v v2 = some r) : sUnit l v = .go 12 := by
  unfold sUnit; rw [if_neg hl, hx]
  show (if _ then (if (pairV v v2).isSome = true then SStep.go 12 else .bad) else _) = _
  rw [if_pos he, hr]
  rfl
theorem su_nopair {l : List UInt8} {v v2 : Nat} (hl : ¬ l.length < 12) (hx : hex4 ((l.drop 8).take 4) = some v2) (he : (l.drop 6).take 2 = [92, 117]) (hr : pairV v v2 = none) : sUnit l v = .bad := by
  unfold sUnit; rw [if_neg hl, hx]
  show (if _ then (if (pairV v v2).isSome = true then SStep.go 12 else .bad) else _) = _
  rw [if_pos he, hr]
  rfl

/-- What may have changed on the way: the flags in block F. -/
structure Fg (F : Nat) (w wr : World) : Prop where
  grown : w.grownBy wr (some F)
  row : ∃ (f : Int) (T : TypeId), wr.heap[F]? = some (.cells #[.int .u64 f] T (0, 0))

theorem Fg.lt {F : Nat} {w wr : World} (h : Fg F w wr) : F < wr.heap.size := by
  obtain ⟨f, T, h⟩ := h.row
  exact (Array.getElem?_eq_some_iff.1 h).1

theorem Fg.below {F : Nat} {w wr w2 : World} (h : Fg F w wr) (hb : Below wr.heap.size wr w2) : Fg F w w2 := by
  obtain ⟨f, T, hf⟩ := h.row
  exact ⟨⟨hb.os.trans h.grown.os, hb.tape.trans h.grown.tape, hb.output.trans h.grown.output, Nat.le_trans h.grown.size hb.size, fun k hk hne => (hb.block k (Nat.lt_of_lt_of_le hk h.grown.size)).trans (h.grown.block k hk hne)⟩,
    f, T, (hb.block F h.lt).trans hf⟩

theorem Fg.trans {F : Nat} {w w1 w2 : World} (h : Fg F w w1) (k : Fg F w1 w2) : Fg F w w2 :=
  ⟨⟨k.grown.os.trans h.grown.os, k.grown.tape.trans h.grown.tape, k.grown.output.trans h.grown.output, Nat.le_trans h.grown.size k.grown.size, fun j hj hne => (k.grown.block j (Nat.lt_of_lt_of_le hj h.grown.size) hne).trans (h.grown.block j hj hne)⟩, k.row⟩

theorem Fg.self {F : Nat} {w wr : World} (h : Fg F w wr) : Fg F wr wr := ⟨grown_refl _ _, h.row⟩

theorem Fg.block {F b : Nat} {w wr : World} (h : Fg F w wr) (hb : b < w.heap.size) (hne : b ≠ F) : wr.heap[b]? = w.heap[b]? := h.grown.block b hb (fun e => hne (Option.some.inj e))

theorem Fg.keep {F b o : Nat} {v : Value} {w wr : World} (h : Fg F w wr) (hb : b < w.heap.size) (hne : b ≠ F) (hc : w.cell? ⟨b, o, none⟩ = some v) : wr.cell? ⟨b, o, none⟩ = some v :=
  (cell_of_heap (h.block hb hne) o).trans hc

theorem Fg.bytes {F b off : Nat} {l : List UInt8} {w wr : World} (h : Fg F w wr) (hb : b < w.heap.size) (hne : b ≠ F) (hc : Bytes w b off l) : Bytes wr b off l :=
  fun i hi => (cell_of_heap (h.block hb hne) _).trans (hc i hi)

theorem Fg.utf {F : Nat} {w wr : World} (h : Fg F w wr) (h4 : 4 ≤ F) (hF : F < w.heap.size) (hT : Lib.Utf8Tabs 2 3 w) : Lib.Utf8Tabs 2 3 wr :=
  ⟨fun c hc => h.keep (by omega) (by omega) (hT.1 c hc), fun i hi => ⟨h.keep (by omega) (by omega) (hT.2 i hi).1, h.keep (by omega) (by omega) (hT.2 i hi).2⟩⟩

theorem Fg.drewN {F : Nat} {w wr : World} (h : Fg F w wr) (n : Nat) : Fg F w (wr.drewN n) := ⟨grown_drewN h.grown n, h.row⟩

set_option maxHeartbeats 1000000 in
theorem join_any (F : Nat) (x : Int) (w : World) (hF : Fg F w w) :
    Calls Tryd.prog 27 #[.pointer (some ⟨F, 0, none⟩), .int .u64 x] w fun e w' => e = .returned (.tuple #[]) ∧ Fg F w w' := by
  obtain ⟨f, T, hr⟩ := hF.row
  have hf : w.cell? ⟨F, 0, none⟩ = some (.int .u64 f) := cell_of_row w F 0 _ _ _ hr
  have hfr : w.frozen? ⟨F, 0, none⟩ = false := frozen_of_row w F 0 _ _ hr
  have HR := Lib.hid hr
  clear hr hF
  go_enter Tryd.func27, Tryd.ntmps27
  go_wp2
  go_end0
  exact ⟨rfl, grown_set (grown_refl _ _) _ _, _, _, heap_setCell_same w F 0 _ _ _ HR.out⟩

end Go.Proofs.YtifemmjblamfkaaDoor.Wire
