/- Characters: decoding and encoding (plain), and 'utf8.AppendRune' on them. -/
import Derived.Test.YtalkajcndllipaaIsText
import Derived.Lib.RuneBytes
import Derived.Laws.RangeAny
namespace Go.Proofs.Ytalkajcndllipaa
open Go.RowKit

theorem get_of {s : ByteArray} {pos i : Nat} {a : UInt8} (h : (s.data.toList.drop pos)[i]? = some a) : s.get! (pos + i) = a ∧ pos + i < s.size := by
  rw [List.getElem?_drop] at h
  obtain ⟨h1, h2⟩ := List.getElem?_eq_some_iff.1 h
  have h3 : pos + i < s.size := by rw [size_eq] at h1; exact h1
  refine ⟨?_, h3⟩
  have := get_at s (pos + i) h3
  rw [Nat.add_zero] at this
  rw [this]
  exact h2

theorem enc_one (x : Int) (a : UInt8) (h : x = (a.toNat : Int)) : x.toNat.toUInt8 = a := by
  subst h
  rw [Int.toNat_natCast]
  exact UInt8.toNat_inj.1 (by simp)

/-- Decoding a character, and encoding what has been read. -/
theorem decode_char (s : ByteArray) (pos n : Nat) (h : CharAt (s.data.toList.drop pos) n) :
    ∃ r : Nat, Utf8.decode s pos = (r, n) ∧ Lib.encodeRune r = (s.data.toList.drop pos).take n ∧ r ≤ 1114111 ∧ (r < 55296 ∨ 57343 < r) ∧ (r < 128 → ∃ a t, s.data.toList.drop pos = a :: t ∧ n = 1 ∧ a.toNat = r) ∧ (128 ≤ r → ∀ c ∈ (s.data.toList.drop pos).take n, 128 ≤ c.toNat) := by
  rcases h with ⟨rfl, a, t, e, h1⟩ | ⟨rfl, a, b, t, e, h1, h2, h3⟩ | ⟨rfl, a, b, c, t, e, h1, h2, h3, h4, h5, h6⟩ | ⟨rfl, a, b, c, d, t, e, h1, h2, h3, h4, h5, h6, h7⟩
  · obtain ⟨g0, k0⟩ := get_of (s := s) (pos := pos) (i := 0) (a := a) (by rw [e]; rfl)
    refine ⟨a.toNat, ?_, ?_, by omega, .inl (by omega), fun _ => ⟨a, t, e, rfl, rfl⟩, fun h => absurd h (by omega)⟩
    · simp only [Utf8.decode, g0, if_pos h1]
    · rw [e]
      simp only [Lib.encodeRune, Lib.encodeRuneZ_one (r := (a.toNat : Int)) (by omega) (by omega), List.map_cons, List.map_nil]
      rw [enc_one _ a rfl]
      rfl
  · obtain ⟨g0, k0⟩ := get_of (s := s) (pos := pos) (i := 0) (a := a) (by rw [e]; rfl)
    obtain ⟨g1, k1⟩ := get_of (s := s) (pos := pos) (i := 1) (a := b) (by rw [e]; rfl)
    unfold cont at h3
    refine ⟨a.toNat % 32 * 64 + b.toNat % 64, ?_, ?_, by omega, .inl (by omega), fun h => absurd h (by omega), fun _ x hx => ?_⟩
    · have c1 : ¬ a.toNat < 128 := by omega
      have c2 : (a.toNat / 32 == 6) = true := by rw [beq_iff_eq]; omega
      have c3 : (b.toNat / 64 == 2) = true := by rw [beq_iff_eq]; omega
      have c4 : a.toNat % 32 * 64 + b.toNat % 64 ≥ 128 := by omega
      simp only [Utf8.decode, g0, g1, k1, c1, c2, c3, c4, decide_true, Bool.and_true, if_true, if_false]
    · rw [e]
      simp only [Lib.encodeRune, Lib.encodeRuneZ_two (r := ((a.toNat % 32 * 64 + b.toNat % 64 : Nat) : Int)) (by omega) (by omega), List.map_cons, List.map_nil]
      rw [enc_one _ a (by omega), enc_one _ b (by omega)]
      rfl
    · rw [e] at hx
      simp at hx
      rcases hx with rfl | rfl <;> omega
  · obtain ⟨g0, k0⟩ := get_of (s := s) (pos := pos) (i := 0) (a := a) (by rw [e]; rfl)
    obtain ⟨g1, k1⟩ := get_of (s := s) (pos := pos) (i := 1) (a := b) (by rw [e]; rfl)
    obtain ⟨g2, k2⟩ := get_of (s := s) (pos := pos) (i := 2) (a := c) (by rw [e]; rfl)
    unfold cont at h3 h4
    have hv : a.toNat % 16 * 4096 + b.toNat % 64 * 64 + c.toNat % 64 < 55296 ∨ 57343 < a.toNat % 16 * 4096 + b.toNat % 64 * 64 + c.toNat % 64 := by omega
    refine ⟨a.toNat % 16 * 4096 + b.toNat % 64 * 64 + c.toNat % 64, ?_, ?_, by omega, hv, fun h => absurd h (by omega), fun _ x hx => ?_⟩
    · have c1 : ¬ a.toNat < 128 := by omega
      have c2 : (a.toNat / 32 == 6) = false := by rw [beq_eq_false_iff_ne]; omega
      have c2' : (a.toNat / 16 == 14) = true := by rw [beq_iff_eq]; omega
      have c3 : (b.toNat / 64 == 2) = true := by rw [beq_iff_eq]; omega
      have c3' : (c.toNat / 64 == 2) = true := by rw [beq_iff_eq]; omega
      have c4 : decide (a.toNat % 16 * 4096 + b.toNat % 64 * 64 + c.toNat % 64 ≥ 2048) = true := by simp; omega
      have c5 : Utf8.valid ((a.toNat % 16 * 4096 + b.toNat % 64 * 64 + c.toNat % 64 : Nat) : Int) = true := by
        rw [Utf8.valid]
        simp only [Bool.or_eq_true, Bool.and_eq_true, decide_eq_true_eq]
        omega
      simp only [Utf8.decode, g0, g1, g2, k1, k2, c1, c2, c2', c3, c3', c4, c5, decide_true, Bool.and_true, if_true, if_false, Bool.false_eq_true]
    · rw [e]
      simp only [Lib.encodeRune, Lib.encodeRuneZ_three (r := ((a.toNat % 16 * 4096 + b.toNat % 64 * 64 + c.toNat % 64 : Nat) : Int)) (by omega), List.map_cons, List.map_nil]
      rw [enc_one _ a (by omega), enc_one _ b (by omega), enc_one _ c (by omega)]
      rfl
    · rw [e] at hx
      simp at hx
      rcases hx with rfl | rfl | rfl <;> omega
  · obtain ⟨g0, k0⟩ := get_of (s := s) (pos := pos) (i := 0) (a := a) (by rw [e]; rfl)
    obtain ⟨g1, k1⟩ := get_of (s := s) (pos := pos) (i := 1) (a := b) (by rw [e]; rfl)
    obtain ⟨g2, k2⟩ := get_of (s := s) (pos := pos) (i := 2) (a := c) (by rw [e]; rfl)
    obtain ⟨g3, k3⟩ := get_of (s := s) (pos := pos) (i := 3) (a := d) (by rw [e]; rfl)
    unfold cont at h3 h4 h5
    have hv : 65536 ≤ a.toNat % 8 * 262144 + b.toNat % 64 * 4096 + c.toNat % 64 * 64 + d.toNat % 64 ∧ a.toNat % 8 * 262144 + b.toNat % 64 * 4096 + c.toNat % 64 * 64 + d.toNat % 64 ≤ 1114111 := by omega
    refine ⟨a.toNat % 8 * 262144 + b.toNat % 64 * 4096 + c.toNat % 64 * 64 + d.toNat % 64, ?_, ?_, hv.2, .inr (by omega), fun h => absurd h (by omega), fun _ x hx => ?_⟩
    · have c1 : ¬ a.toNat < 128 := by omega
      have c2 : (a.toNat / 32 == 6) = false := by rw [beq_eq_false_iff_ne]; omega
      have c2' : (a.toNat / 16 == 14) = false := by rw [beq_eq_false_iff_ne]; omega
      have c2'' : (a.toNat / 8 == 30) = true := by rw [beq_iff_eq]; omega
      have c3 : (b.toNat / 64 == 2) = true := by rw [beq_iff_eq]; omega
      have c3' : (c.toNat / 64 == 2) = true := by rw [beq_iff_eq]; omega
      have c3'' : (d.toNat / 64 == 2) = true := by rw [beq_iff_eq]; omega
      have c4 : decide (a.toNat % 8 * 262144 + b.toNat % 64 * 4096 + c.toNat % 64 * 64 + d.toNat % 64 ≥ 65536) = true := by simp; omega
      have c5 : Utf8.valid ((a.toNat % 8 * 262144 + b.toNat % 64 * 4096 + c.toNat % 64 * 64 + d.toNat % 64 : Nat) : Int) = true := by
        rw [Utf8.valid]
        simp only [Bool.or_eq_true, Bool.and_eq_true, decide_eq_true_eq]
        omega
      simp only [Utf8.decode, g0, g1, g2, g3, k1, k2, k3, c1, c2, c2', c2'', c3, c3', c3'', c4, c5, decide_true, Bool.and_true, if_true, if_false, Bool.false_eq_true]
    · rw [e]
      simp only [Lib.encodeRune, Lib.encodeRuneZ_four (r := ((a.toNat % 8 * 262144 + b.toNat % 64 * 4096 + c.toNat % 64 * 64 + d.toNat % 64 : Nat) : Int)) (by omega) (by omega), List.map_cons, List.map_nil]
      rw [enc_one _ a (by omega), enc_one _ b (by omega), enc_one _ c (by omega), enc_one _ d (by omega)]
      rfl
    · rw [e] at hx
      simp at hx
      rcases hx with rfl | rfl | rfl | rfl <;> omega

/-- A call that has appended. -/
structure App (w : World) (v : Value) (l : List UInt8) (e : Ending) (w' : World) : Prop where
  what : ∃ v', e = .returned v' ∧ AppTo w v w' v' l

theorem u8r : U8 Try.prog 34 5 := ⟨by kernel_rfl, by kernel_rfl, by kernel_rfl⟩

theorem runeC (r : Int) (C : Array Value) (h : C.toList = Lib.runeCells r) : C.toList = (Lib.encodeRune r).map B := by
  rw [h, ← Lib.byteCells_encodeRune]
  rfl

/-- A literal row. -/
theorem src_lit' {P : Program} {t e : TypeId} (U : U8 P t e) (w : World) (m : List UInt8) (C : Array Value) (hC : C.toList = m.map B) (n c : Nat) (hn : m.length = n) :
    Src P 1 t (.slice (some ⟨w.heap.size, 0, none⟩) n c) n (m.map B) (w.alloc (.cells C e)) := by
  subst hn
  exact src_lit U w m C hC c

set_option maxRecDepth 100000 in
set_option maxHeartbeats 1000000 in
theorem appendNA_two (v : Value) (l : List UInt8) (r : Int) (h0 : 128 ≤ r) (h1 : r ≤ 2047) (w : World) (h : Own w v l) (hl : l.length ≤ 1000000000) :
    Calls Try.prog 37 #[v, .int .i32 r] w (App w v (l ++ Lib.encodeRune r)) := by
  have hC : (#[.int .u8 (192 + r / 64), .int .u8 (128 + r % 64)] : Array Value).toList = (Lib.encodeRune r).map B := runeC r _ (by simp only [Lib.runeCells, Lib.encodeRuneZ_two (r := r) (by omega) (by omega)]; rfl)
  have hn : (Lib.encodeRune r).length = 2 := by simp only [Lib.encodeRune, Lib.encodeRuneZ_two (r := r) (by omega) (by omega)]; rfl
  have H := Lib.hid h
  have HC := Lib.hid hC
  have HN := Lib.hid hn
  clear h hC hn
  go_enter Try.func37, Try.ntmps37
  go_wp2_with (first
    | (at_builtin
       refine wpList_app u8r rfl (.tmp 14) (.tmp 23) 34 rfl ((AppTo.refl H.out).alloc _) rfl (Lib.encodeRune r) rfl (by rw [HN.out]; exact src_lit' u8r w _ _ HC.out 2 2 HN.out) (by rw [HN.out]; omega) ?_
       intro v1 w1 h1'
       have h1 := Lib.hid h1'
       clear h1'))
  go_ret
  exact ⟨_, rfl, h1.out⟩

set_option maxRecDepth 100000 in
set_option maxHeartbeats 1000000 in
theorem appendNA_lo (v : Value) (l : List UInt8) (r : Int) (h0 : 2048 ≤ r) (h1 : r < 55296) (w : World) (h : Own w v l) (hl : l.length ≤ 1000000000) :
    Calls Try.prog 37 #[v, .int .i32 r] w (App w v (l ++ Lib.encodeRune r)) := by
  have hC : (#[.int .u8 (224 + r / 4096), .int .u8 (128 + r / 64 % 64), .int .u8 (128 + r % 64)] : Array Value).toList = (Lib.encodeRune r).map B := runeC r _ (by simp only [Lib.runeCells, Lib.encodeRuneZ_three (r := r) (by omega)]; rfl)
  have hn : (Lib.encodeRune r).length = 3 := by simp only [Lib.encodeRune, Lib.encodeRuneZ_three (r := r) (by omega)]; rfl
  have H := Lib.hid h
  have HC := Lib.hid hC
  have HN := Lib.hid hn
  clear h hC hn
  go_enter Try.func37, Try.ntmps37
  go_wp2_with (first
    | (at_builtin
       refine wpList_app u8r rfl (.tmp 34) (.tmp 48) 34 rfl ((AppTo.refl H.out).alloc _) rfl (Lib.encodeRune r) rfl (by rw [HN.out]; exact src_lit' u8r w _ _ HC.out 3 3 HN.out) (by rw [HN.out]; omega) ?_
       intro v1 w1 h1'
       have h1 := Lib.hid h1'
       clear h1'))
  go_ret
  exact ⟨_, rfl, h1.out⟩

set_option maxRecDepth 100000 in
set_option maxHeartbeats 1000000 in
theorem appendNA_hi (v : Value) (l : List UInt8) (r : Int) (h0 : 57343 < r) (h1 : r ≤ 65535) (w : World) (h : Own w v l) (hl : l.length ≤ 1000000000) :
    Calls Try.prog 37 #[v, .int .i32 r] w (App w v (l ++ Lib.encodeRune r)) := by
  have hC : (#[.int .u8 (224 + r / 4096), .int .u8 (128 + r / 64 % 64), .int .u8 (128 + r % 64)] : Array Value).toList = (Lib.encodeRune r).map B := runeC r _ (by simp only [Lib.runeCells, Lib.encodeRuneZ_three (r := r) (by omega)]; rfl)
  have hn : (Lib.encodeRune r).length = 3 := by simp only [Lib.encodeRune, Lib.encodeRuneZ_three (r := r) (by omega)]; rfl
  have H := Lib.hid h
  have HC := Lib.hid hC
  have HN := Lib.hid hn
  clear h hC hn
  go_enter Try.func37, Try.ntmps37
  go_wp2_with (first
    | (at_builtin
       refine wpList_app u8r rfl (.tmp 34) (.tmp 48) 34 rfl ((AppTo.refl H.out).alloc _) rfl (Lib.encodeRune r) rfl (by rw [HN.out]; exact src_lit' u8r w _ _ HC.out 3 3 HN.out) (by rw [HN.out]; omega) ?_
       intro v1 w1 h1'
       have h1 := Lib.hid h1'
       clear h1'))
  go_ret
  exact ⟨_, rfl, h1.out⟩

set_option maxRecDepth 100000 in
set_option maxHeartbeats 1000000 in
theorem appendNA_four (v : Value) (l : List UInt8) (r : Int) (h0 : 65536 ≤ r) (h1 : r ≤ 1114111) (w : World) (h : Own w v l) (hl : l.length ≤ 1000000000) :
    Calls Try.prog 37 #[v, .int .i32 r] w (App w v (l ++ Lib.encodeRune r)) := by
  have hC : (#[.int .u8 (240 + r / 262144), .int .u8 (128 + r / 4096 % 64), .int .u8 (128 + r / 64 % 64), .int .u8 (128 + r % 64)] : Array Value).toList = (Lib.encodeRune r).map B := runeC r _ (by simp only [Lib.runeCells, Lib.encodeRuneZ_four (r := r) (by omega) (by omega)]; rfl)
  have hn : (Lib.encodeRune r).length = 4 := by simp only [Lib.encodeRune, Lib.encodeRuneZ_four (r := r) (by omega) (by omega)]; rfl
  have H := Lib.hid h
  have HC := Lib.hid hC
  have HN := Lib.hid hn
  clear h hC hn
  go_enter Try.func37, Try.ntmps37
  go_wp2_with (first
    | (at_builtin
       refine wpList_app u8r rfl (.tmp 57) (.tmp 76) 34 rfl ((AppTo.refl H.out).alloc _) rfl (Lib.encodeRune r) rfl (by rw [HN.out]; exact src_lit' u8r w _ _ HC.out 4 4 HN.out) (by rw [HN.out]; omega) ?_
       intro v1 w1 h1'
       have h1 := Lib.hid h1'
       clear h1'))
  go_ret
  exact ⟨_, rfl, h1.out⟩

theorem appendNA_any (v : Value) (l : List UInt8) (r : Nat) (h0 : 128 ≤ r) (h1 : r ≤ 1114111) (h2 : r < 55296 ∨ 57343 < r) (w : World) (h : Own w v l) (hl : l.length ≤ 1000000000) :
    Calls Try.prog 37 #[v, .int .i32 r] w (App w v (l ++ Lib.encodeRune r)) := by
  by_cases a1 : r ≤ 2047
  · exact appendNA_two v l r (by omega) (by omega) w h hl
  by_cases a2 : r < 55296
  · exact appendNA_lo v l r (by omega) (by omega) w h hl
  by_cases a3 : r ≤ 65535
  · exact appendNA_hi v l r (by omega) (by omega) w h hl
  · exact appendNA_four v l r (by omega) (by omega) w h hl

set_option maxRecDepth 100000 in
theorem appendRune_any (v : Value) (l : List UInt8) (r : Nat) (h1 : r ≤ 1114111) (h2 : r < 55296 ∨ 57343 < r) (w : World) (h : Own w v l) (hl : l.length ≤ 1000000000) :
    Calls Try.prog 30 #[v, .int .i32 r] w (App w v (l ++ Lib.encodeRune r)) := by
  have H := Lib.hid h
  clear h
  by_cases hr : r < 128
  · have hC : (#[.int .u8 (r : Int)] : Array Value).toList = (Lib.encodeRune r).map B := runeC r _ (by simp only [Lib.runeCells, Lib.encodeRuneZ_one (r := (r : Int)) (by omega) (by omega)]; rfl)
    have hn : (Lib.encodeRune (r : Int)).length = 1 := by simp only [Lib.encodeRune, Lib.encodeRuneZ_one (r := (r : Int)) (by omega) (by omega)]; rfl
    have HC := Lib.hid hC
    have HN := Lib.hid hn
    clear hC hn
    go_enter Try.func30, Try.ntmps30
    go_wp2_with (first
      | (at_builtin
         refine wpList_app u8r rfl (.tmp 8) (.tmp 11) 34 rfl ((AppTo.refl H.out).alloc _) rfl (Lib.encodeRune r) rfl (by rw [HN.out]; exact src_lit' u8r w _ _ HC.out 1 1 HN.out) (by rw [HN.out]; omega) ?_
         intro v1 w1 h1'
         have h1 := Lib.hid h1'
         clear h1'))
    go_ret
    exact ⟨_, rfl, h1.out⟩
  · go_enter Try.func30, Try.ntmps30
    go_wp2_with fail
    refine (appendNA_any v l r (by omega) h1 h2 _ H.out hl).mono ?_
    rintro e w1 ⟨v1, rfl, k1⟩
    have K1 := Lib.hid k1
    clear k1
    go_wp2_with fail
    go_ret
    exact ⟨_, rfl, K1.out⟩

end Go.Proofs.Ytalkajcndllipaa
