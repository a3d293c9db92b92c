/- The options' flags: set and asked. -/
import Derived.Test.YtjjbgoknmofajaaDoorChecked
import Derived.Lib.Hide
import Derived.Test.YtjjbgoknmofajaaDoorLib
import Derived.WalkKit
import Derived.ProofKit
import Derived.Deep.QuietTactic
import Derived.BigQuiet
import Derived.Deep.RegionHeld3
namespace Go.Proofs.YtjjbgoknmofajaaDoor.FlagB
open Go.RowKit Go.Proofs.YtjjbgoknmofajaaDoor

def idOf (f : Int) : Int := bits .andNot .u64 f 1
def setP (P f : Int) : Int := bits .or .u64 P (idOf f)
def setV (V f : Int) : Int := bits .or .u64 (bits .and .u64 V (bits .xor .u64 IntKind.u64.max (idOf f))) (IntKind.u64.wrap (bits .and .u64 f 1 * idOf f))

/-- A box of flags. -/
structure FlS (w : World) (b : Nat) (P V : Int) : Prop where
  lt : b < w.heap.size
  c0 : w.cell? ⟨b, 0, none⟩ = some (.int .u64 P)
  c1 : w.cell? ⟨b, 1, none⟩ = some (.int .u64 V)
  f0 : w.frozen? ⟨b, 0, none⟩ = false
  f1 : w.frozen? ⟨b, 1, none⟩ = false

set_option maxHeartbeats 400000 in
theorem set_any (b : Nat) (P V f : Int) (w : World) (h : FlS w b P V) :
    Calls Tryd.prog 58 #[.pointer (some ⟨b, 0, none⟩), .int .u64 f] w fun e w' => e = .returned (.tuple #[]) ∧ FlS w' b (setP P f) (setV V f) ∧ Below b w w' := by
  obtain ⟨hb, h0, h1, f0, f1⟩ := h
  have hb' : b ≠ w.heap.size := by omega
  unfold setP setV idOf
  go_enter Tryd.func58, Tryd.ntmps58
  go_wp2
  refine bodyPost_end (v := .tuple #[]) (by simp [results, Tryd.results58]) rfl ⟨rfl, ⟨by go_simp, ?_, ?_, ?_, ?_⟩, ?_⟩
  · go_simp
  · exact World.cell?_setCell_same' _ _ _ (by rw [World.cell?_setCell_same' _ _ _ (by rw [World.cell?_setCell_other _ _ _ _ (by simp), h1]; rfl)]; rfl)
  · go_simp
  · go_simp
  · exact (((Below.refl b w).setCell (p := ⟨b, 0, none⟩) (Nat.le_refl _) _).setCell (p := ⟨b, 1, none⟩) (Nat.le_refl _) _).setCell (p := ⟨b, 1, none⟩) (Nat.le_refl _) _

set_option maxHeartbeats 400000 in
theorem get_any (P V m : Int) : ∀ w : World, Calls Tryd.prog 43 #[.agg #[.int .u64 P, .int .u64 V], .int .u64 m] w fun e w' => e = .returned (.bool (decide (0 < bits .and .u64 V m))) ∧ ∃ o, w' = w.alloc o := by
  intro w
  go_enter Tryd.func43, Tryd.ntmps43
  go_wp2
  go_ret
  exact ⟨rfl, _, rfl⟩

def flP (P o m : Int) : Int := if o = 1 then setP P (bits .or .u64 m 1) else if o = 2 then setP P (bits .or .u64 m 0) else P
def flV (V o m : Int) : Int := if o = 1 then setV V (bits .or .u64 m 1) else if o = 2 then setV V (bits .or .u64 m 0) else V

set_option maxHeartbeats 400000 in
theorem flag_any (b : Nat) (P V o m : Int) (w : World) (h : FlS w b P V) :
    Calls Tryd.prog 47 #[.pointer (some ⟨b, 0, none⟩), .int .i64 o, .int .u64 m] w fun e w' => e = .returned (.tuple #[]) ∧ FlS w' b (flP P o m) (flV V o m) ∧ Below b w w' := by
  have H := Lib.hid h
  clear h
  unfold flP flV
  by_cases e1 : o = 1
  · subst e1
    rw [if_pos rfl, if_pos rfl]
    go_enter Tryd.func47, Tryd.ntmps47
    go_wp2_with fail
    refine (set_any b P V _ w H.out).mono ?_
    rintro e w1 ⟨rfl, k1, b1⟩
    have K1 := Lib.hid k1
    have B1 := Lib.hid b1
    clear k1 b1
    go_wp2_with fail
    exact bodyPost_end (v := .tuple #[]) (by simp [results, Tryd.results47]) rfl ⟨rfl, K1.out, B1.out⟩
  have n1 : (o == 1) = false := by rw [beq_eq_false_iff_ne]; exact e1
  rw [if_neg e1, if_neg e1]
  by_cases e2 : o = 2
  · subst e2
    rw [if_pos rfl, if_pos rfl]
    go_enter Tryd.func47, Tryd.ntmps47
    go_wp2_with fail
    refine (set_any b P V _ w H.out).mono ?_
    rintro e w1 ⟨rfl, k1, b1⟩
    have K1 := Lib.hid k1
    have B1 := Lib.hid b1
    clear k1 b1
    go_wp2_with fail
    exact bodyPost_end (v := .tuple #[]) (by simp [results, Tryd.results47]) rfl ⟨rfl, K1.out, B1.out⟩
  have n2 : (o == 2) = false := by rw [beq_eq_false_iff_ne]; exact e2
  rw [if_neg e2, if_neg e2]
  go_enter Tryd.func47, Tryd.ntmps47
  go_wp2_with fail
  exact bodyPost_end (v := .tuple #[]) (by simp [results, Tryd.results47]) rfl ⟨rfl, H.out, Below.refl _ _⟩

/-- The six flags. -/
def allV (i h j p n f : Int) : Int := flV (flV (flV (flV (flV (flV 0 i 4) h 512) j 1024) p 32) n 64) f 128
def allP (i h j p n f : Int) : Int := flP (flP (flP (flP (flP (flP 0 i 4) h 512) j 1024) p 32) n 64) f 128

/-- Options. -/
structure Opt where
  dup : Int
  inv : Int
  flo : Int
  ints : Int
  html : Int
  js : Int
  multi : Int
  pres : Int
  reord : Int
  colon : Int
  comma : Int
  indented : Bool
  indent : ByteArray
  prefixed : Bool
  pref : ByteArray

def Opt.val (o : Opt) : Value := .agg #[.int .i64 o.dup, .int .i64 o.inv, .int .i64 o.flo, .int .i64 o.ints, .int .i64 o.html, .int .i64 o.js, .int .i64 o.multi, .int .i64 o.pres, .int .i64 o.reord, .int .i64 o.colon, .int .i64 o.comma, .bool o.indented, .string o.indent, .bool o.prefixed, .string o.pref]

/-- What 'flags' gives. -/
structure FRet (w : World) (P V : Int) (e : Ending) (w' : World) : Prop where
  what : ∃ fb, e = .returned (.pointer (some ⟨fb, 0, none⟩)) ∧ w.heap.size ≤ fb ∧ FlS w' fb P V ∧ Below w.heap.size w w'

/-- A box of options, as far as 'flags' reads it. -/
structure OC (w : World) (b : Nat) (o : Opt) : Prop where
  lt : b < w.heap.size
  c4 : w.cell? ⟨b, 4, none⟩ = some (.int .i64 o.html)
  c5 : w.cell? ⟨b, 5, none⟩ = some (.int .i64 o.js)
  c7 : w.cell? ⟨b, 7, none⟩ = some (.int .i64 o.pres)
  c3 : w.cell? ⟨b, 3, none⟩ = some (.int .i64 o.ints)
  c2 : w.cell? ⟨b, 2, none⟩ = some (.int .i64 o.flo)

theorem OC.below {w w' : World} {b n : Nat} {o : Opt} (h : OC w b o) (hb : b < n) (k : Below n w w') : OC w' b o :=
  ⟨Nat.lt_of_lt_of_le h.lt k.size, (k.cell (p := ⟨b, 4, none⟩) hb).trans h.c4, (k.cell (p := ⟨b, 5, none⟩) hb).trans h.c5, (k.cell (p := ⟨b, 7, none⟩) hb).trans h.c7, (k.cell (p := ⟨b, 3, none⟩) hb).trans h.c3, (k.cell (p := ⟨b, 2, none⟩) hb).trans h.c2⟩

set_option maxHeartbeats 2000000 in
theorem flags_any (o : Opt) (w : World) :
    Calls Tryd.prog 29 #[o.val] w (FRet w (allP o.inv o.html o.js o.pres o.ints o.flo) (allV o.inv o.html o.js o.pres o.ints o.flo)) := by
  unfold Opt.val allP allV
  go_enter Tryd.func29, Tryd.ntmps29
  go_wp2_with fail
  refine (flag_any _ 0 0 _ _ _ ⟨by simp, by go_simp, by go_simp, by go_simp, by go_simp⟩).mono ?_
  rintro e w1 ⟨rfl, k1, b1⟩
  have o1 : OC w1 w.heap.size o := OC.below ⟨by simp; omega, by go_simp, by go_simp, by go_simp, by go_simp, by go_simp⟩ (by simp) b1
  have K1 := Lib.hid k1
  have B1 := Lib.hid b1
  have O1 := Lib.hid o1
  clear k1 b1
  have hc := O1.out.c4
  go_wp2_with fail
  refine (flag_any _ _ _ _ _ _ K1.out).mono ?_
  rintro e w2 ⟨rfl, k2, b2⟩
  have K2 := Lib.hid k2
  have B2 := Lib.hid (B1.out.trans b2)
  have O2 := Lib.hid (O1.out.below (by simp) b2)
  clear k2 b2 hc
  have hc := O2.out.c5
  go_wp2_with fail
  refine (flag_any _ _ _ _ _ _ K2.out).mono ?_
  rintro e w3 ⟨rfl, k3, b3⟩
  have K3 := Lib.hid k3
  have B3 := Lib.hid (B2.out.trans b3)
  have O3 := Lib.hid (O2.out.below (by simp) b3)
  clear k3 b3 hc
  have hc := O3.out.c7
  go_wp2_with fail
  refine (flag_any _ _ _ _ _ _ K3.out).mono ?_
  rintro e w4 ⟨rfl, k4, b4⟩
  have K4 := Lib.hid k4
  have B4 := Lib.hid (B3.out.trans b4)
  have O4 := Lib.hid (O3.out.below (by simp) b4)
  clear k4 b4 hc
  have hc := O4.out.c3
  go_wp2_with fail
  refine (flag_any _ _ _ _ _ _ K4.out).mono ?_
  rintro e w5 ⟨rfl, k5, b5⟩
  have K5 := Lib.hid k5
  have B5 := Lib.hid (B4.out.trans b5)
  have O5 := Lib.hid (O4.out.below (by simp) b5)
  clear k5 b5 hc
  have hc := O5.out.c2
  go_wp2_with fail
  refine (flag_any _ _ _ _ _ _ K5.out).mono ?_
  rintro e w6 ⟨rfl, k6, b6⟩
  have K6 := Lib.hid k6
  have B6 := Lib.hid (B5.out.trans b6)
  have O6 := Lib.hid (O5.out.below (by simp) b6)
  clear k6 b6 hc
  go_wp2_with fail
  go_ret
  refine ⟨_, rfl, by omega, K6.out, ?_⟩
  exact (((Below.refl _ _).alloc (Nat.le_refl _) _).alloc (by simp) _).trans (B6.out.mono (by omega))

/-- The flags that are told, for options that are given, forbidden or neither. -/
def cls (o : Int) : Int := if o = 1 then 1 else if o = 2 then 2 else 0
theorem cls_flV (V o m : Int) : flV V o m = flV V (cls o) m := by
  unfold cls flV
  by_cases h1 : o = 1
  · subst h1; rfl
  · by_cases h2 : o = 2
    · subst h2; rfl
    · rw [if_neg h1, if_neg h2, if_neg h1, if_neg h2]; rfl

def ofF (c : Fin 3) : Int := (c.val : Int)
theorem cls_fin (o : Int) : ∃ c : Fin 3, cls o = ofF c ∧ (o = 1 ↔ c = 1) := by
  unfold cls
  by_cases h1 : o = 1
  · exact ⟨1, by rw [if_pos h1]; rfl, by simp [h1]⟩
  · by_cases h2 : o = 2
    · exact ⟨2, by rw [if_neg h1, if_pos h2]; rfl, by simp [h1]⟩
    · exact ⟨0, by rw [if_neg h1, if_neg h2]; rfl, by simp [h1]⟩

set_option maxRecDepth 100000 in
theorem allF : ∀ i h j p n f : Fin 3, (decide (0 < bits .and .u64 (allV (ofF i) (ofF h) (ofF j) (ofF p) (ofF n) (ofF f)) 4) = decide (i = 1)) ∧ (decide (0 < bits .and .u64 (allV (ofF i) (ofF h) (ofF j) (ofF p) (ofF n) (ofF f)) 512) = decide (h = 1)) ∧ (decide (0 < bits .and .u64 (allV (ofF i) (ofF h) (ofF j) (ofF p) (ofF n) (ofF f)) 1024) = decide (j = 1)) := by decide +kernel

theorem all_flags (i h j p n f : Int) : (decide (0 < bits .and .u64 (allV i h j p n f) 4) = decide (i = 1)) ∧ (decide (0 < bits .and .u64 (allV i h j p n f) 512) = decide (h = 1)) ∧ (decide (0 < bits .and .u64 (allV i h j p n f) 1024) = decide (j = 1)) := by
  have e : allV i h j p n f = allV (cls i) (cls h) (cls j) (cls p) (cls n) (cls f) := by
    unfold allV
    rw [← cls_flV, ← cls_flV, ← cls_flV, ← cls_flV, ← cls_flV, ← cls_flV]
  obtain ⟨a, ea, ha⟩ := cls_fin i
  obtain ⟨b, eb, hb⟩ := cls_fin h
  obtain ⟨c, ec, hc⟩ := cls_fin j
  obtain ⟨d, ed, _⟩ := cls_fin p
  obtain ⟨x, ex, _⟩ := cls_fin n
  obtain ⟨y, ey, _⟩ := cls_fin f
  rw [e, ea, eb, ec, ed, ex, ey]
  simp only [ha, hb, hc]
  exact allF a b c d x y

end Go.Proofs.YtjjbgoknmofajaaDoor.FlagB
