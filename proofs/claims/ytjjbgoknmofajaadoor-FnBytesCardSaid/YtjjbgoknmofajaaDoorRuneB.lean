/- 'utf8.AppendRune' on characters (over Grow). -/
import Derived.Test.YtjjbgoknmofajaaDoorGrow
import Derived.Test.YtjjbgoknmofajaaDoorDecode
namespace Go.Proofs.YtjjbgoknmofajaaDoor
open Go.RowKit

theorem u8r : U8 Tryd.prog 39 5 := ⟨by kernel_rfl, by kernel_rfl, by kernel_rfl⟩

theorem runeC (r : Int) (C : Array Value) (h : C.toList = Lib.runeCells r) : C.toList = (Lib.encodeRune r).map B := by
  rw [h, ← Lib.byteCells_encodeRune]
  rfl

/-- A literal row. -/
theorem src_lit' {P : Program} {t e : TypeId} (U : U8 P t e) (w : World) (m : List UInt8) (C : Array Value) (hC : C.toList = m.map B) (n c : Nat) (hn : m.length = n) :
    Src P 1 t (.slice (some ⟨w.heap.size, 0, none⟩) n c) n (m.map B) (w.alloc (.cells C e)) := by
  subst hn
  exact src_lit U w m C hC c

set_option maxRecDepth 100000 in
set_option maxHeartbeats 1000000 in
theorem appendNA_two (v : Value) (l : List UInt8) (r : Int) (h0 : 128 ≤ r) (h1 : r ≤ 2047) (w : World) (h : Own w v l) (hl : l.length ≤ 1000000000) :
    Calls Tryd.prog 71 #[v, .int .i32 r] w (App w v (l ++ Lib.encodeRune r)) := by
  have hC : (#[.int .u8 (192 + r / 64), .int .u8 (128 + r % 64)] : Array Value).toList = (Lib.encodeRune r).map B := runeC r _ (by simp only [Lib.runeCells, Lib.encodeRuneZ_two (r := r) (by omega) (by omega)]; rfl)
  have hn : (Lib.encodeRune r).length = 2 := by simp only [Lib.encodeRune, Lib.encodeRuneZ_two (r := r) (by omega) (by omega)]; rfl
  have H := Lib.hid h
  have HC := Lib.hid hC
  have HN := Lib.hid hn
  clear h hC hn
  go_enter Tryd.func71, Tryd.ntmps71
  go_wp2_with (first
    | (at_builtin
       refine wpList_app u8r rfl (.tmp 14) (.tmp 23) 39 rfl ((AppTo.refl H.out).alloc _) rfl (Lib.encodeRune r) rfl (by rw [HN.out]; exact src_lit' u8r w _ _ HC.out 2 2 HN.out) (by rw [HN.out]; omega) ?_
       intro v1 w1 h1'
       have h1 := Lib.hid h1'
       clear h1'))
  go_ret
  exact ⟨_, rfl, h1.out⟩

set_option maxRecDepth 100000 in
set_option maxHeartbeats 1000000 in
theorem appendNA_lo (v : Value) (l : List UInt8) (r : Int) (h0 : 2048 ≤ r) (h1 : r < 55296) (w : World) (h : Own w v l) (hl : l.length ≤ 1000000000) :
    Calls Tryd.prog 71 #[v, .int .i32 r] w (App w v (l ++ Lib.encodeRune r)) := by
  have hC : (#[.int .u8 (224 + r / 4096), .int .u8 (128 + r / 64 % 64), .int .u8 (128 + r % 64)] : Array Value).toList = (Lib.encodeRune r).map B := runeC r _ (by simp only [Lib.runeCells, Lib.encodeRuneZ_three (r := r) (by omega)]; rfl)
  have hn : (Lib.encodeRune r).length = 3 := by simp only [Lib.encodeRune, Lib.encodeRuneZ_three (r := r) (by omega)]; rfl
  have H := Lib.hid h
  have HC := Lib.hid hC
  have HN := Lib.hid hn
  clear h hC hn
  go_enter Tryd.func71, Tryd.ntmps71
  go_wp2_with (first
    | (at_builtin
       refine wpList_app u8r rfl (.tmp 34) (.tmp 48) 39 rfl ((AppTo.refl H.out).alloc _) rfl (Lib.encodeRune r) rfl (by rw [HN.out]; exact src_lit' u8r w _ _ HC.out 3 3 HN.out) (by rw [HN.out]; omega) ?_
       intro v1 w1 h1'
       have h1 := Lib.hid h1'
       clear h1'))
  go_ret
  exact ⟨_, rfl, h1.out⟩

set_option maxRecDepth 100000 in
set_option maxHeartbeats 1000000 in
theorem appendNA_hi (v : Value) (l : List UInt8) (r : Int) (h0 : 57343 < r) (h1 : r ≤ 65535) (w : World) (h : Own w v l) (hl : l.length ≤ 1000000000) :
    Calls Tryd.prog 71 #[v, .int .i32 r] w (App w v (l ++ Lib.encodeRune r)) := by
  have hC : (#[.int .u8 (224 + r / 4096), .int .u8 (128 + r / 64 % 64), .int .u8 (128 + r % 64)] : Array Value).toList = (Lib.encodeRune r).map B := runeC r _ (by simp only [Lib.runeCells, Lib.encodeRuneZ_three (r := r) (by omega)]; rfl)
  have hn : (Lib.encodeRune r).length = 3 := by simp only [Lib.encodeRune, Lib.encodeRuneZ_three (r := r) (by omega)]; rfl
  have H := Lib.hid h
  have HC := Lib.hid hC
  have HN := Lib.hid hn
  clear h hC hn
  go_enter Tryd.func71, Tryd.ntmps71
  go_wp2_with (first
    | (at_builtin
       refine wpList_app u8r rfl (.tmp 34) (.tmp 48) 39 rfl ((AppTo.refl H.out).alloc _) rfl (Lib.encodeRune r) rfl (by rw [HN.out]; exact src_lit' u8r w _ _ HC.out 3 3 HN.out) (by rw [HN.out]; omega) ?_
       intro v1 w1 h1'
       have h1 := Lib.hid h1'
       clear h1'))
  go_ret
  exact ⟨_, rfl, h1.out⟩

set_option maxRecDepth 100000 in
set_option maxHeartbeats 1000000 in
theorem appendNA_four (v : Value) (l : List UInt8) (r : Int) (h0 : 65536 ≤ r) (h1 : r ≤ 1114111) (w : World) (h : Own w v l) (hl : l.length ≤ 1000000000) :
    Calls Tryd.prog 71 #[v, .int .i32 r] w (App w v (l ++ Lib.encodeRune r)) := by
  have hC : (#[.int .u8 (240 + r / 262144), .int .u8 (128 + r / 4096 % 64), .int .u8 (128 + r / 64 % 64), .int .u8 (128 + r % 64)] : Array Value).toList = (Lib.encodeRune r).map B := runeC r _ (by simp only [Lib.runeCells, Lib.encodeRuneZ_four (r := r) (by omega) (by omega)]; rfl)
  have hn : (Lib.encodeRune r).length = 4 := by simp only [Lib.encodeRune, Lib.encodeRuneZ_four (r := r) (by omega) (by omega)]; rfl
  have H := Lib.hid h
  have HC := Lib.hid hC
  have HN := Lib.hid hn
  clear h hC hn
  go_enter Tryd.func71, Tryd.ntmps71
  go_wp2_with (first
    | (at_builtin
       refine wpList_app u8r rfl (.tmp 57) (.tmp 76) 39 rfl ((AppTo.refl H.out).alloc _) rfl (Lib.encodeRune r) rfl (by rw [HN.out]; exact src_lit' u8r w _ _ HC.out 4 4 HN.out) (by rw [HN.out]; omega) ?_
       intro v1 w1 h1'
       have h1 := Lib.hid h1'
       clear h1'))
  go_ret
  exact ⟨_, rfl, h1.out⟩

theorem appendNA_any (v : Value) (l : List UInt8) (r : Nat) (h0 : 128 ≤ r) (h1 : r ≤ 1114111) (h2 : r < 55296 ∨ 57343 < r) (w : World) (h : Own w v l) (hl : l.length ≤ 1000000000) :
    Calls Tryd.prog 71 #[v, .int .i32 r] w (App w v (l ++ Lib.encodeRune r)) := by
  by_cases a1 : r ≤ 2047
  · exact appendNA_two v l r (by omega) (by omega) w h hl
  by_cases a2 : r < 55296
  · exact appendNA_lo v l r (by omega) (by omega) w h hl
  by_cases a3 : r ≤ 65535
  · exact appendNA_hi v l r (by omega) (by omega) w h hl
  · exact appendNA_four v l r (by omega) (by omega) w h hl

set_option maxRecDepth 100000 in
theorem appendRune_any (v : Value) (l : List UInt8) (r : Nat) (h1 : r ≤ 1114111) (h2 : r < 55296 ∨ 57343 < r) (w : World) (h : Own w v l) (hl : l.length ≤ 1000000000) :
    Calls Tryd.prog 67 #[v, .int .i32 r] w (App w v (l ++ Lib.encodeRune r)) := by
  have H := Lib.hid h
  clear h
  by_cases hr : r < 128
  · have hC : (#[.int .u8 (r : Int)] : Array Value).toList = (Lib.encodeRune r).map B := runeC r _ (by simp only [Lib.runeCells, Lib.encodeRuneZ_one (r := (r : Int)) (by omega) (by omega)]; rfl)
    have hn : (Lib.encodeRune (r : Int)).length = 1 := by simp only [Lib.encodeRune, Lib.encodeRuneZ_one (r := (r : Int)) (by omega) (by omega)]; rfl
    have HC := Lib.hid hC
    have HN := Lib.hid hn
    clear hC hn
    go_enter Tryd.func67, Tryd.ntmps67
    go_wp2_with (first
      | (at_builtin
         refine wpList_app u8r rfl (.tmp 8) (.tmp 11) 39 rfl ((AppTo.refl H.out).alloc _) rfl (Lib.encodeRune r) rfl (by rw [HN.out]; exact src_lit' u8r w _ _ HC.out 1 1 HN.out) (by rw [HN.out]; omega) ?_
         intro v1 w1 h1'
         have h1 := Lib.hid h1'
         clear h1'))
    go_ret
    exact ⟨_, rfl, h1.out⟩
  · go_enter Tryd.func67, Tryd.ntmps67
    go_wp2_with fail
    refine (appendNA_any v l r (by omega) h1 h2 _ H.out hl).mono ?_
    rintro e w1 ⟨v1, rfl, k1⟩
    have K1 := Lib.hid k1
    clear k1
    go_wp2_with fail
    go_ret
    exact ⟨_, rfl, K1.out⟩

end Go.Proofs.YtjjbgoknmofajaaDoor
