/- The scanner of encoding/json: its states, but for the ends of values. -/
import Derived.Test.YtlgmdcaoogiooaaGreatDoorScanW
namespace Go.Proofs.YtlgmdcaoogiooaaGreatDoor
open Go.RowKit

set_option maxRecDepth 100000 in
set_option maxHeartbeats 1000000 in
theorem st_t (B b : Nat) (g : Cfg) (y : Int) (pv ev : Value) (c : Nat) (w : World) (h : Scn w B b g y pv ev) :
    Calls Tryz.prog 104 #[.pointer (some ⟨b, 0, none⟩), .int .u8 (c : Int)] w (SRes w B b g y pv ev (stepWant g y c 114 .tr)) := by
  obtain ⟨c0, c1, c2, c3, c4, f0, f1, f2, f3, f4⟩ := h.cells
  have hlt := h.lt
  have H := Lib.hid h
  clear h
  by_cases hq : c = 114
  · have hs : stepWant g y c 114 .tr = (g.to .tr, 0) := if_pos hq
    rw [hs]
    clear hs
    subst hq
    go_enter Tryz.func104, Tryz.ntmps104
    go_wp2_with fail
    go_ret
    exact SRes.went H.out .tr
  · have hs : stepWant g y c 114 .tr = (g.fail y, 11) := if_neg hq
    rw [hs]
    clear hs
    have n114 : ((c : Int) == 114) = false := by rw [beq_eq_false_iff_ne]; omega
    go_enter Tryz.func104, Tryz.ntmps104
    go_wp2_with fail
    refine (error_any B b g y _ ev _ _ (by decide) _ H.out).mono ?_
    intro e w' hr
    obtain ⟨k, rfl, hr⟩ := hr.handed
    have HR := Lib.hid hr
    clear hr
    go_wp2_with fail
    go_ret
    exact HR.out

set_option maxRecDepth 100000 in
set_option maxHeartbeats 1000000 in
theorem st_tr (B b : Nat) (g : Cfg) (y : Int) (pv ev : Value) (c : Nat) (w : World) (h : Scn w B b g y pv ev) :
    Calls Tryz.prog 115 #[.pointer (some ⟨b, 0, none⟩), .int .u8 (c : Int)] w (SRes w B b g y pv ev (stepWant g y c 117 .tru)) := by
  obtain ⟨c0, c1, c2, c3, c4, f0, f1, f2, f3, f4⟩ := h.cells
  have hlt := h.lt
  have H := Lib.hid h
  clear h
  by_cases hq : c = 117
  · have hs : stepWant g y c 117 .tru = (g.to .tru, 0) := if_pos hq
    rw [hs]
    clear hs
    subst hq
    go_enter Tryz.func115, Tryz.ntmps115
    go_wp2_with fail
    go_ret
    exact SRes.went H.out .tru
  · have hs : stepWant g y c 117 .tru = (g.fail y, 11) := if_neg hq
    rw [hs]
    clear hs
    have n117 : ((c : Int) == 117) = false := by rw [beq_eq_false_iff_ne]; omega
    go_enter Tryz.func115, Tryz.ntmps115
    go_wp2_with fail
    refine (error_any B b g y _ ev _ _ (by decide) _ H.out).mono ?_
    intro e w' hr
    obtain ⟨k, rfl, hr⟩ := hr.handed
    have HR := Lib.hid hr
    clear hr
    go_wp2_with fail
    go_ret
    exact HR.out

set_option maxRecDepth 100000 in
set_option maxHeartbeats 1000000 in
theorem st_tru (B b : Nat) (g : Cfg) (y : Int) (pv ev : Value) (c : Nat) (w : World) (h : Scn w B b g y pv ev) :
    Calls Tryz.prog 124 #[.pointer (some ⟨b, 0, none⟩), .int .u8 (c : Int)] w (SRes w B b g y pv ev (stepWant g y c 101 .ev)) := by
  obtain ⟨c0, c1, c2, c3, c4, f0, f1, f2, f3, f4⟩ := h.cells
  have hlt := h.lt
  have H := Lib.hid h
  clear h
  by_cases hq : c = 101
  · have hs : stepWant g y c 101 .ev = (g.to .ev, 0) := if_pos hq
    rw [hs]
    clear hs
    subst hq
    go_enter Tryz.func124, Tryz.ntmps124
    go_wp2_with fail
    go_ret
    exact SRes.went H.out .ev
  · have hs : stepWant g y c 101 .ev = (g.fail y, 11) := if_neg hq
    rw [hs]
    clear hs
    have n101 : ((c : Int) == 101) = false := by rw [beq_eq_false_iff_ne]; omega
    go_enter Tryz.func124, Tryz.ntmps124
    go_wp2_with fail
    refine (error_any B b g y _ ev _ _ (by decide) _ H.out).mono ?_
    intro e w' hr
    obtain ⟨k, rfl, hr⟩ := hr.handed
    have HR := Lib.hid hr
    clear hr
    go_wp2_with fail
    go_ret
    exact HR.out

set_option maxRecDepth 100000 in
set_option maxHeartbeats 1000000 in
theorem st_f (B b : Nat) (g : Cfg) (y : Int) (pv ev : Value) (c : Nat) (w : World) (h : Scn w B b g y pv ev) :
    Calls Tryz.prog 105 #[.pointer (some ⟨b, 0, none⟩), .int .u8 (c : Int)] w (SRes w B b g y pv ev (stepWant g y c 97 .fa)) := by
  obtain ⟨c0, c1, c2, c3, c4, f0, f1, f2, f3, f4⟩ := h.cells
  have hlt := h.lt
  have H := Lib.hid h
  clear h
  by_cases hq : c = 97
  · have hs : stepWant g y c 97 .fa = (g.to .fa, 0) := if_pos hq
    rw [hs]
    clear hs
    subst hq
    go_enter Tryz.func105, Tryz.ntmps105
    go_wp2_with fail
    go_ret
    exact SRes.went H.out .fa
  · have hs : stepWant g y c 97 .fa = (g.fail y, 11) := if_neg hq
    rw [hs]
    clear hs
    have n97 : ((c : Int) == 97) = false := by rw [beq_eq_false_iff_ne]; omega
    go_enter Tryz.func105, Tryz.ntmps105
    go_wp2_with fail
    refine (error_any B b g y _ ev _ _ (by decide) _ H.out).mono ?_
    intro e w' hr
    obtain ⟨k, rfl, hr⟩ := hr.handed
    have HR := Lib.hid hr
    clear hr
    go_wp2_with fail
    go_ret
    exact HR.out

set_option maxRecDepth 100000 in
set_option maxHeartbeats 1000000 in
theorem st_fa (B b : Nat) (g : Cfg) (y : Int) (pv ev : Value) (c : Nat) (w : World) (h : Scn w B b g y pv ev) :
    Calls Tryz.prog 116 #[.pointer (some ⟨b, 0, none⟩), .int .u8 (c : Int)] w (SRes w B b g y pv ev (stepWant g y c 108 .fal)) := by
  obtain ⟨c0, c1, c2, c3, c4, f0, f1, f2, f3, f4⟩ := h.cells
  have hlt := h.lt
  have H := Lib.hid h
  clear h
  by_cases hq : c = 108
  · have hs : stepWant g y c 108 .fal = (g.to .fal, 0) := if_pos hq
    rw [hs]
    clear hs
    subst hq
    go_enter Tryz.func116, Tryz.ntmps116
    go_wp2_with fail
    go_ret
    exact SRes.went H.out .fal
  · have hs : stepWant g y c 108 .fal = (g.fail y, 11) := if_neg hq
    rw [hs]
    clear hs
    have n108 : ((c : Int) == 108) = false := by rw [beq_eq_false_iff_ne]; omega
    go_enter Tryz.func116, Tryz.ntmps116
    go_wp2_with fail
    refine (error_any B b g y _ ev _ _ (by decide) _ H.out).mono ?_
    intro e w' hr
    obtain ⟨k, rfl, hr⟩ := hr.handed
    have HR := Lib.hid hr
    clear hr
    go_wp2_with fail
    go_ret
    exact HR.out

set_option maxRecDepth 100000 in
set_option maxHeartbeats 1000000 in
theorem st_fal (B b : Nat) (g : Cfg) (y : Int) (pv ev : Value) (c : Nat) (w : World) (h : Scn w B b g y pv ev) :
    Calls Tryz.prog 125 #[.pointer (some ⟨b, 0, none⟩), .int .u8 (c : Int)] w (SRes w B b g y pv ev (stepWant g y c 115 .fals)) := by
  obtain ⟨c0, c1, c2, c3, c4, f0, f1, f2, f3, f4⟩ := h.cells
  have hlt := h.lt
  have H := Lib.hid h
  clear h
  by_cases hq : c = 115
  · have hs : stepWant g y c 115 .fals = (g.to .fals, 0) := if_pos hq
    rw [hs]
    clear hs
    subst hq
    go_enter Tryz.func125, Tryz.ntmps125
    go_wp2_with fail
    go_ret
    exact SRes.went H.out .fals
  · have hs : stepWant g y c 115 .fals = (g.fail y, 11) := if_neg hq
    rw [hs]
    clear hs
    have n115 : ((c : Int) == 115) = false := by rw [beq_eq_false_iff_ne]; omega
    go_enter Tryz.func125, Tryz.ntmps125
    go_wp2_with fail
    refine (error_any B b g y _ ev _ _ (by decide) _ H.out).mono ?_
    intro e w' hr
    obtain ⟨k, rfl, hr⟩ := hr.handed
    have HR := Lib.hid hr
    clear hr
    go_wp2_with fail
    go_ret
    exact HR.out

set_option maxRecDepth 100000 in
set_option maxHeartbeats 1000000 in
theorem st_fals (B b : Nat) (g : Cfg) (y : Int) (pv ev : Value) (c : Nat) (w : World) (h : Scn w B b g y pv ev) :
    Calls Tryz.prog 129 #[.pointer (some ⟨b, 0, none⟩), .int .u8 (c : Int)] w (SRes w B b g y pv ev (stepWant g y c 101 .ev)) := by
  obtain ⟨c0, c1, c2, c3, c4, f0, f1, f2, f3, f4⟩ := h.cells
  have hlt := h.lt
  have H := Lib.hid h
  clear h
  by_cases hq : c = 101
  · have hs : stepWant g y c 101 .ev = (g.to .ev, 0) := if_pos hq
    rw [hs]
    clear hs
    subst hq
    go_enter Tryz.func129, Tryz.ntmps129
    go_wp2_with fail
    go_ret
    exact SRes.went H.out .ev
  · have hs : stepWant g y c 101 .ev = (g.fail y, 11) := if_neg hq
    rw [hs]
    clear hs
    have n101 : ((c : Int) == 101) = false := by rw [beq_eq_false_iff_ne]; omega
    go_enter Tryz.func129, Tryz.ntmps129
    go_wp2_with fail
    refine (error_any B b g y _ ev _ _ (by decide) _ H.out).mono ?_
    intro e w' hr
    obtain ⟨k, rfl, hr⟩ := hr.handed
    have HR := Lib.hid hr
    clear hr
    go_wp2_with fail
    go_ret
    exact HR.out

set_option maxRecDepth 100000 in
set_option maxHeartbeats 1000000 in
theorem st_n (B b : Nat) (g : Cfg) (y : Int) (pv ev : Value) (c : Nat) (w : World) (h : Scn w B b g y pv ev) :
    Calls Tryz.prog 106 #[.pointer (some ⟨b, 0, none⟩), .int .u8 (c : Int)] w (SRes w B b g y pv ev (stepWant g y c 117 .nu)) := by
  obtain ⟨c0, c1, c2, c3, c4, f0, f1, f2, f3, f4⟩ := h.cells
  have hlt := h.lt
  have H := Lib.hid h
  clear h
  by_cases hq : c = 117
  · have hs : stepWant g y c 117 .nu = (g.to .nu, 0) := if_pos hq
    rw [hs]
    clear hs
    subst hq
    go_enter Tryz.func106, Tryz.ntmps106
    go_wp2_with fail
    go_ret
    exact SRes.went H.out .nu
  · have hs : stepWant g y c 117 .nu = (g.fail y, 11) := if_neg hq
    rw [hs]
    clear hs
    have n117 : ((c : Int) == 117) = false := by rw [beq_eq_false_iff_ne]; omega
    go_enter Tryz.func106, Tryz.ntmps106
    go_wp2_with fail
    refine (error_any B b g y _ ev _ _ (by decide) _ H.out).mono ?_
    intro e w' hr
    obtain ⟨k, rfl, hr⟩ := hr.handed
    have HR := Lib.hid hr
    clear hr
    go_wp2_with fail
    go_ret
    exact HR.out

set_option maxRecDepth 100000 in
set_option maxHeartbeats 1000000 in
theorem st_nu (B b : Nat) (g : Cfg) (y : Int) (pv ev : Value) (c : Nat) (w : World) (h : Scn w B b g y pv ev) :
    Calls Tryz.prog 117 #[.pointer (some ⟨b, 0, none⟩), .int .u8 (c : Int)] w (SRes w B b g y pv ev (stepWant g y c 108 .nul)) := by
  obtain ⟨c0, c1, c2, c3, c4, f0, f1, f2, f3, f4⟩ := h.cells
  have hlt := h.lt
  have H := Lib.hid h
  clear h
  by_cases hq : c = 108
  · have hs : stepWant g y c 108 .nul = (g.to .nul, 0) := if_pos hq
    rw [hs]
    clear hs
    subst hq
    go_enter Tryz.func117, Tryz.ntmps117
    go_wp2_with fail
    go_ret
    exact SRes.went H.out .nul
  · have hs : stepWant g y c 108 .nul = (g.fail y, 11) := if_neg hq
    rw [hs]
    clear hs
    have n108 : ((c : Int) == 108) = false := by rw [beq_eq_false_iff_ne]; omega
    go_enter Tryz.func117, Tryz.ntmps117
    go_wp2_with fail
    refine (error_any B b g y _ ev _ _ (by decide) _ H.out).mono ?_
    intro e w' hr
    obtain ⟨k, rfl, hr⟩ := hr.handed
    have HR := Lib.hid hr
    clear hr
    go_wp2_with fail
    go_ret
    exact HR.out

set_option maxRecDepth 100000 in
set_option maxHeartbeats 1000000 in
theorem st_nul (B b : Nat) (g : Cfg) (y : Int) (pv ev : Value) (c : Nat) (w : World) (h : Scn w B b g y pv ev) :
    Calls Tryz.prog 126 #[.pointer (some ⟨b, 0, none⟩), .int .u8 (c : Int)] w (SRes w B b g y pv ev (stepWant g y c 108 .ev)) := by
  obtain ⟨c0, c1, c2, c3, c4, f0, f1, f2, f3, f4⟩ := h.cells
  have hlt := h.lt
  have H := Lib.hid h
  clear h
  by_cases hq : c = 108
  · have hs : stepWant g y c 108 .ev = (g.to .ev, 0) := if_pos hq
    rw [hs]
    clear hs
    subst hq
    go_enter Tryz.func126, Tryz.ntmps126
    go_wp2_with fail
    go_ret
    exact SRes.went H.out .ev
  · have hs : stepWant g y c 108 .ev = (g.fail y, 11) := if_neg hq
    rw [hs]
    clear hs
    have n108 : ((c : Int) == 108) = false := by rw [beq_eq_false_iff_ne]; omega
    go_enter Tryz.func126, Tryz.ntmps126
    go_wp2_with fail
    refine (error_any B b g y _ ev _ _ (by decide) _ H.out).mono ?_
    intro e w' hr
    obtain ⟨k, rfl, hr⟩ := hr.handed
    have HR := Lib.hid hr
    clear hr
    go_wp2_with fail
    go_ret
    exact HR.out

set_option maxRecDepth 100000 in
set_option maxHeartbeats 1000000 in
theorem st_u0 (B b : Nat) (g : Cfg) (y : Int) (pv ev : Value) (c : Nat) (w : World) (h : Scn w B b g y pv ev) :
    Calls Tryz.prog 121 #[.pointer (some ⟨b, 0, none⟩), .int .u8 (c : Int)] w (SRes w B b g y pv ev (stepHex g y c .u1)) := by
  obtain ⟨c0, c1, c2, c3, c4, f0, f1, f2, f3, f4⟩ := h.cells
  have hlt := h.lt
  have H := Lib.hid h
  clear h
  by_cases hq : isHex c
  · have hs : stepHex g y c .u1 = (g.to .u1, 0) := if_pos hq
    rw [hs]
    clear hs
    have q : ((48 : Int) ≤ c ∧ (c : Int) ≤ 57) ∨ ((97 : Int) ≤ c ∧ (c : Int) ≤ 102 ∧ (48 : Int) ≤ c ∧ ¬ (c : Int) ≤ 57) ∨ ((65 : Int) ≤ c ∧ (c : Int) ≤ 70 ∧ ¬ (97 : Int) ≤ c ∧ (48 : Int) ≤ c ∧ ¬ (c : Int) ≤ 57) := by unfold isHex at hq; omega
    clear hq
    rcases q with ⟨q1, q2⟩ | ⟨q1, q2, q3, q4⟩ | ⟨q1, q2, q3, q4, q5⟩
    all_goals
      go_enter Tryz.func121, Tryz.ntmps121
      go_wp2_with fail
      go_ret
      exact SRes.went H.out .u1
  · have hs : stepHex g y c .u1 = (g.fail y, 11) := if_neg hq
    rw [hs]
    clear hs
    have q1 : ¬ (48 : Int) ≤ c ∨ ((48 : Int) ≤ c ∧ ¬ (c : Int) ≤ 57) := by unfold isHex at hq; omega
    have q2 : ¬ (97 : Int) ≤ c ∨ ((97 : Int) ≤ c ∧ ¬ (c : Int) ≤ 102) := by unfold isHex at hq; omega
    have q3 : ¬ (65 : Int) ≤ c ∨ ((65 : Int) ≤ c ∧ ¬ (c : Int) ≤ 70) := by unfold isHex at hq; omega
    clear hq
    rcases q1 with q1 | ⟨q1, q1'⟩ <;> rcases q2 with q2 | ⟨q2, q2'⟩ <;> rcases q3 with q3 | ⟨q3, q3'⟩ <;> first
      | (exfalso; omega)
      | (go_enter Tryz.func121, Tryz.ntmps121
         go_wp2_with fail
         refine (error_any B b g y _ ev _ _ (by decide) _ H.out).mono ?_
         intro e w' hr
         obtain ⟨k, rfl, hr⟩ := hr.handed
         have HR := Lib.hid hr
         clear hr
         go_wp2_with fail
         go_ret
         exact HR.out)

set_option maxRecDepth 100000 in
set_option maxHeartbeats 1000000 in
theorem st_u1 (B b : Nat) (g : Cfg) (y : Int) (pv ev : Value) (c : Nat) (w : World) (h : Scn w B b g y pv ev) :
    Calls Tryz.prog 127 #[.pointer (some ⟨b, 0, none⟩), .int .u8 (c : Int)] w (SRes w B b g y pv ev (stepHex g y c .u2)) := by
  obtain ⟨c0, c1, c2, c3, c4, f0, f1, f2, f3, f4⟩ := h.cells
  have hlt := h.lt
  have H := Lib.hid h
  clear h
  by_cases hq : isHex c
  · have hs : stepHex g y c .u2 = (g.to .u2, 0) := if_pos hq
    rw [hs]
    clear hs
    have q : ((48 : Int) ≤ c ∧ (c : Int) ≤ 57) ∨ ((97 : Int) ≤ c ∧ (c : Int) ≤ 102 ∧ (48 : Int) ≤ c ∧ ¬ (c : Int) ≤ 57) ∨ ((65 : Int) ≤ c ∧ (c : Int) ≤ 70 ∧ ¬ (97 : Int) ≤ c ∧ (48 : Int) ≤ c ∧ ¬ (c : Int) ≤ 57) := by unfold isHex at hq; omega
    clear hq
    rcases q with ⟨q1, q2⟩ | ⟨q1, q2, q3, q4⟩ | ⟨q1, q2, q3, q4, q5⟩
    all_goals
      go_enter Tryz.func127, Tryz.ntmps127
      go_wp2_with fail
      go_ret
      exact SRes.went H.out .u2
  · have hs : stepHex g y c .u2 = (g.fail y, 11) := if_neg hq
    rw [hs]
    clear hs
    have q1 : ¬ (48 : Int) ≤ c ∨ ((48 : Int) ≤ c ∧ ¬ (c : Int) ≤ 57) := by unfold isHex at hq; omega
    have q2 : ¬ (97 : Int) ≤ c ∨ ((97 : Int) ≤ c ∧ ¬ (c : Int) ≤ 102) := by unfold isHex at hq; omega
    have q3 : ¬ (65 : Int) ≤ c ∨ ((65 : Int) ≤ c ∧ ¬ (c : Int) ≤ 70) := by unfold isHex at hq; omega
    clear hq
    rcases q1 with q1 | ⟨q1, q1'⟩ <;> rcases q2 with q2 | ⟨q2, q2'⟩ <;> rcases q3 with q3 | ⟨q3, q3'⟩ <;> first
      | (exfalso; omega)
      | (go_enter Tryz.func127, Tryz.ntmps127
         go_wp2_with fail
         refine (error_any B b g y _ ev _ _ (by decide) _ H.out).mono ?_
         intro e w' hr
         obtain ⟨k, rfl, hr⟩ := hr.handed
         have HR := Lib.hid hr
         clear hr
         go_wp2_with fail
         go_ret
         exact HR.out)

set_option maxRecDepth 100000 in
set_option maxHeartbeats 1000000 in
theorem st_u2 (B b : Nat) (g : Cfg) (y : Int) (pv ev : Value) (c : Nat) (w : World) (h : Scn w B b g y pv ev) :
    Calls Tryz.prog 130 #[.pointer (some ⟨b, 0, none⟩), .int .u8 (c : Int)] w (SRes w B b g y pv ev (stepHex g y c .u3)) := by
  obtain ⟨c0, c1, c2, c3, c4, f0, f1, f2, f3, f4⟩ := h.cells
  have hlt := h.lt
  have H := Lib.hid h
  clear h
  by_cases hq : isHex c
  · have hs : stepHex g y c .u3 = (g.to .u3, 0) := if_pos hq
    rw [hs]
    clear hs
    have q : ((48 : Int) ≤ c ∧ (c : Int) ≤ 57) ∨ ((97 : Int) ≤ c ∧ (c : Int) ≤ 102 ∧ (48 : Int) ≤ c ∧ ¬ (c : Int) ≤ 57) ∨ ((65 : Int) ≤ c ∧ (c : Int) ≤ 70 ∧ ¬ (97 : Int) ≤ c ∧ (48 : Int) ≤ c ∧ ¬ (c : Int) ≤ 57) := by unfold isHex at hq; omega
    clear hq
    rcases q with ⟨q1, q2⟩ | ⟨q1, q2, q3, q4⟩ | ⟨q1, q2, q3, q4, q5⟩
    all_goals
      go_enter Tryz.func130, Tryz.ntmps130
      go_wp2_with fail
      go_ret
      exact SRes.went H.out .u3
  · have hs : stepHex g y c .u3 = (g.fail y, 11) := if_neg hq
    rw [hs]
    clear hs
    have q1 : ¬ (48 : Int) ≤ c ∨ ((48 : Int) ≤ c ∧ ¬ (c : Int) ≤ 57) := by unfold isHex at hq; omega
    have q2 : ¬ (97 : Int) ≤ c ∨ ((97 : Int) ≤ c ∧ ¬ (c : Int) ≤ 102) := by unfold isHex at hq; omega
    have q3 : ¬ (65 : Int) ≤ c ∨ ((65 : Int) ≤ c ∧ ¬ (c : Int) ≤ 70) := by unfold isHex at hq; omega
    clear hq
    rcases q1 with q1 | ⟨q1, q1'⟩ <;> rcases q2 with q2 | ⟨q2, q2'⟩ <;> rcases q3 with q3 | ⟨q3, q3'⟩ <;> first
      | (exfalso; omega)
      | (go_enter Tryz.func130, Tryz.ntmps130
         go_wp2_with fail
         refine (error_any B b g y _ ev _ _ (by decide) _ H.out).mono ?_
         intro e w' hr
         obtain ⟨k, rfl, hr⟩ := hr.handed
         have HR := Lib.hid hr
         clear hr
         go_wp2_with fail
         go_ret
         exact HR.out)

set_option maxRecDepth 100000 in
set_option maxHeartbeats 1000000 in
theorem st_u3 (B b : Nat) (g : Cfg) (y : Int) (pv ev : Value) (c : Nat) (w : World) (h : Scn w B b g y pv ev) :
    Calls Tryz.prog 131 #[.pointer (some ⟨b, 0, none⟩), .int .u8 (c : Int)] w (SRes w B b g y pv ev (stepHex g y c .str)) := by
  obtain ⟨c0, c1, c2, c3, c4, f0, f1, f2, f3, f4⟩ := h.cells
  have hlt := h.lt
  have H := Lib.hid h
  clear h
  by_cases hq : isHex c
  · have hs : stepHex g y c .str = (g.to .str, 0) := if_pos hq
    rw [hs]
    clear hs
    have q : ((48 : Int) ≤ c ∧ (c : Int) ≤ 57) ∨ ((97 : Int) ≤ c ∧ (c : Int) ≤ 102 ∧ (48 : Int) ≤ c ∧ ¬ (c : Int) ≤ 57) ∨ ((65 : Int) ≤ c ∧ (c : Int) ≤ 70 ∧ ¬ (97 : Int) ≤ c ∧ (48 : Int) ≤ c ∧ ¬ (c : Int) ≤ 57) := by unfold isHex at hq; omega
    clear hq
    rcases q with ⟨q1, q2⟩ | ⟨q1, q2, q3, q4⟩ | ⟨q1, q2, q3, q4, q5⟩
    all_goals
      go_enter Tryz.func131, Tryz.ntmps131
      go_wp2_with fail
      go_ret
      exact SRes.went H.out .str
  · have hs : stepHex g y c .str = (g.fail y, 11) := if_neg hq
    rw [hs]
    clear hs
    have q1 : ¬ (48 : Int) ≤ c ∨ ((48 : Int) ≤ c ∧ ¬ (c : Int) ≤ 57) := by unfold isHex at hq; omega
    have q2 : ¬ (97 : Int) ≤ c ∨ ((97 : Int) ≤ c ∧ ¬ (c : Int) ≤ 102) := by unfold isHex at hq; omega
    have q3 : ¬ (65 : Int) ≤ c ∨ ((65 : Int) ≤ c ∧ ¬ (c : Int) ≤ 70) := by unfold isHex at hq; omega
    clear hq
    rcases q1 with q1 | ⟨q1, q1'⟩ <;> rcases q2 with q2 | ⟨q2, q2'⟩ <;> rcases q3 with q3 | ⟨q3, q3'⟩ <;> first
      | (exfalso; omega)
      | (go_enter Tryz.func131, Tryz.ntmps131
         go_wp2_with fail
         refine (error_any B b g y _ ev _ _ (by decide) _ H.out).mono ?_
         intro e w' hr
         obtain ⟨k, rfl, hr⟩ := hr.handed
         have HR := Lib.hid hr
         clear hr
         go_wp2_with fail
         go_ret
         exact HR.out)

set_option maxRecDepth 100000 in
set_option maxHeartbeats 1000000 in
theorem st_dot (B b : Nat) (g : Cfg) (y : Int) (pv ev : Value) (c : Nat) (w : World) (h : Scn w B b g y pv ev) :
    Calls Tryz.prog 113 #[.pointer (some ⟨b, 0, none⟩), .int .u8 (c : Int)] w (SRes w B b g y pv ev (stepDot g y c)) := by
  obtain ⟨c0, c1, c2, c3, c4, f0, f1, f2, f3, f4⟩ := h.cells
  have hlt := h.lt
  have H := Lib.hid h
  clear h
  by_cases hq : isDig c
  · have hs : stepDot g y c = (g.to .dot0, 0) := if_pos hq
    rw [hs]
    clear hs
    have q1 : (48 : Int) ≤ c := by unfold isDig at hq; omega
    have q2 : (c : Int) ≤ 57 := by unfold isDig at hq; omega
    clear hq
    go_enter Tryz.func113, Tryz.ntmps113
    go_wp2_with fail
    go_ret
    exact SRes.went H.out .dot0
  · have q : ¬ (48 : Int) ≤ c ∨ ((48 : Int) ≤ c ∧ ¬ (c : Int) ≤ 57) := by unfold isDig at hq; omega
    have hs : stepDot g y c = (g.fail y, 11) := if_neg hq
    rw [hs]
    clear hs hq
    rcases q with q | ⟨q, q'⟩
    all_goals
      go_enter Tryz.func113, Tryz.ntmps113
      go_wp2_with fail
      refine (error_any B b g y _ ev _ _ (by decide) _ H.out).mono ?_
      intro e w' hr
      obtain ⟨k, rfl, hr⟩ := hr.handed
      have HR := Lib.hid hr
      clear hr
      go_wp2_with fail
      go_ret
      exact HR.out

set_option maxRecDepth 100000 in
set_option maxHeartbeats 1000000 in
theorem st_esign (B b : Nat) (g : Cfg) (y : Int) (pv ev : Value) (c : Nat) (w : World) (h : Scn w B b g y pv ev) :
    Calls Tryz.prog 123 #[.pointer (some ⟨b, 0, none⟩), .int .u8 (c : Int)] w (SRes w B b g y pv ev (stepESign g y c)) := by
  obtain ⟨c0, c1, c2, c3, c4, f0, f1, f2, f3, f4⟩ := h.cells
  have hlt := h.lt
  have H := Lib.hid h
  clear h
  by_cases hq : isDig c
  · have hs : stepESign g y c = (g.to .e0, 0) := if_pos hq
    rw [hs]
    clear hs
    have q1 : (48 : Int) ≤ c := by unfold isDig at hq; omega
    have q2 : (c : Int) ≤ 57 := by unfold isDig at hq; omega
    clear hq
    go_enter Tryz.func123, Tryz.ntmps123
    go_wp2_with fail
    go_ret
    exact SRes.went H.out .e0
  · have q : ¬ (48 : Int) ≤ c ∨ ((48 : Int) ≤ c ∧ ¬ (c : Int) ≤ 57) := by unfold isDig at hq; omega
    have hs : stepESign g y c = (g.fail y, 11) := if_neg hq
    rw [hs]
    clear hs hq
    rcases q with q | ⟨q, q'⟩
    all_goals
      go_enter Tryz.func123, Tryz.ntmps123
      go_wp2_with fail
      refine (error_any B b g y _ ev _ _ (by decide) _ H.out).mono ?_
      intro e w' hr
      obtain ⟨k, rfl, hr⟩ := hr.handed
      have HR := Lib.hid hr
      clear hr
      go_wp2_with fail
      go_ret
      exact HR.out

set_option maxRecDepth 100000 in
set_option maxHeartbeats 1000000 in
theorem st_esc (B b : Nat) (g : Cfg) (y : Int) (pv ev : Value) (c : Nat) (w : World) (h : Scn w B b g y pv ev) :
    Calls Tryz.prog 112 #[.pointer (some ⟨b, 0, none⟩), .int .u8 (c : Int)] w (SRes w B b g y pv ev (stepEsc g y c)) := by
  obtain ⟨c0, c1, c2, c3, c4, f0, f1, f2, f3, f4⟩ := h.cells
  have hlt := h.lt
  have H := Lib.hid h
  clear h
  by_cases hq : isEsc c
  · have hs : stepEsc g y c = (g.to .str, 0) := if_pos hq
    rw [hs]
    clear hs
    unfold isEsc at hq
    rcases hq with rfl | rfl | rfl | rfl | rfl | rfl | rfl | rfl
    all_goals
      go_enter Tryz.func112, Tryz.ntmps112
      go_wp2_with fail
      go_ret
      exact SRes.went H.out .str
  have hne : ¬ isEsc c := hq
  unfold isEsc at hq
  have n98 : ((c : Int) == 98) = false := by rw [beq_eq_false_iff_ne]; omega
  have n102 : ((c : Int) == 102) = false := by rw [beq_eq_false_iff_ne]; omega
  have n110 : ((c : Int) == 110) = false := by rw [beq_eq_false_iff_ne]; omega
  have n114 : ((c : Int) == 114) = false := by rw [beq_eq_false_iff_ne]; omega
  have n116 : ((c : Int) == 116) = false := by rw [beq_eq_false_iff_ne]; omega
  have n92 : ((c : Int) == 92) = false := by rw [beq_eq_false_iff_ne]; omega
  have n47 : ((c : Int) == 47) = false := by rw [beq_eq_false_iff_ne]; omega
  have n34 : ((c : Int) == 34) = false := by rw [beq_eq_false_iff_ne]; omega
  by_cases hu : c = 117
  · have hs : stepEsc g y c = (g.to .u0, 0) := by unfold stepEsc; rw [if_neg hne]; exact if_pos hu
    rw [hs]
    clear hs hq hne
    subst hu
    go_enter Tryz.func112, Tryz.ntmps112
    go_wp2_with fail
    go_ret
    exact SRes.went H.out .u0
  · have hs : stepEsc g y c = (g.fail y, 11) := by unfold stepEsc; rw [if_neg hne]; exact if_neg hu
    rw [hs]
    clear hs hq hne
    have n117 : ((c : Int) == 117) = false := by rw [beq_eq_false_iff_ne]; omega
    go_enter Tryz.func112, Tryz.ntmps112
    go_wp2_with fail
    refine (error_any B b g y _ ev _ _ (by decide) _ H.out).mono ?_
    intro e w' hr
    obtain ⟨k, rfl, hr⟩ := hr.handed
    have HR := Lib.hid hr
    clear hr
    go_wp2_with fail
    go_ret
    exact HR.out

set_option maxRecDepth 100000 in
set_option maxHeartbeats 1000000 in
theorem st_str (B b : Nat) (g : Cfg) (y : Int) (pv ev : Value) (c : Nat) (w : World) (h : Scn w B b g y pv ev) :
    Calls Tryz.prog 101 #[.pointer (some ⟨b, 0, none⟩), .int .u8 (c : Int)] w (SRes w B b g y pv ev (stepStr g y c)) := by
  obtain ⟨c0, c1, c2, c3, c4, f0, f1, f2, f3, f4⟩ := h.cells
  have hlt := h.lt
  have H := Lib.hid h
  clear h
  by_cases q34 : c = 34
  · have hs : stepStr g y c = (g.to .ev, 0) := if_pos q34
    rw [hs]
    clear hs
    subst q34
    go_enter Tryz.func101, Tryz.ntmps101
    go_wp2_with fail
    go_ret
    exact SRes.went H.out .ev
  have n34 : ((c : Int) == 34) = false := by rw [beq_eq_false_iff_ne]; omega
  by_cases q92 : c = 92
  · have hs : stepStr g y c = (g.to .esc, 0) := by unfold stepStr; rw [if_neg q34]; exact if_pos q92
    rw [hs]
    clear hs
    subst q92
    go_enter Tryz.func101, Tryz.ntmps101
    go_wp2_with fail
    go_ret
    exact SRes.went H.out .esc
  have n92 : ((c : Int) == 92) = false := by rw [beq_eq_false_iff_ne]; omega
  by_cases q32 : c < 32
  · have hs : stepStr g y c = (g.fail y, 11) := by unfold stepStr; rw [if_neg q34, if_neg q92]; exact if_pos q32
    rw [hs]
    have z : (c : Int) < 32 := by omega
    clear hs
    go_enter Tryz.func101, Tryz.ntmps101
    go_wp2_with fail
    refine (error_any B b g y _ ev _ _ (by decide) _ H.out).mono ?_
    intro e w' hr
    obtain ⟨k, rfl, hr⟩ := hr.handed
    have HR := Lib.hid hr
    clear hr
    go_wp2_with fail
    go_ret
    exact HR.out
  · have hs : stepStr g y c = (g, 0) := by unfold stepStr; rw [if_neg q34, if_neg q92]; exact if_neg q32
    rw [hs]
    have z : ¬ (c : Int) < 32 := by omega
    clear hs
    go_enter Tryz.func101, Tryz.ntmps101
    go_wp2_with fail
    go_ret
    exact SRes.same H.out

set_option maxRecDepth 100000 in
set_option maxHeartbeats 1000000 in
theorem st_neg (B b : Nat) (g : Cfg) (y : Int) (pv ev : Value) (c : Nat) (w : World) (h : Scn w B b g y pv ev) :
    Calls Tryz.prog 102 #[.pointer (some ⟨b, 0, none⟩), .int .u8 (c : Int)] w (SRes w B b g y pv ev (stepNeg g y c)) := by
  obtain ⟨c0, c1, c2, c3, c4, f0, f1, f2, f3, f4⟩ := h.cells
  have hlt := h.lt
  have H := Lib.hid h
  clear h
  by_cases q48 : c = 48
  · have hs : stepNeg g y c = (g.to .s0, 0) := if_pos q48
    rw [hs]
    clear hs
    subst q48
    go_enter Tryz.func102, Tryz.ntmps102
    go_wp2_with fail
    go_ret
    exact SRes.went H.out .s0
  have n48 : ((c : Int) == 48) = false := by rw [beq_eq_false_iff_ne]; omega
  by_cases hq : 49 ≤ c ∧ c ≤ 57
  · have hs : stepNeg g y c = (g.to .s1, 0) := by unfold stepNeg; rw [if_neg q48]; exact if_pos hq
    rw [hs]
    have q1 : (49 : Int) ≤ c := by omega
    have q2 : (c : Int) ≤ 57 := by omega
    clear hs hq
    go_enter Tryz.func102, Tryz.ntmps102
    go_wp2_with fail
    go_ret
    exact SRes.went H.out .s1
  · have hs : stepNeg g y c = (g.fail y, 11) := by unfold stepNeg; rw [if_neg q48]; exact if_neg hq
    rw [hs]
    have q : ¬ (49 : Int) ≤ c ∨ ((49 : Int) ≤ c ∧ ¬ (c : Int) ≤ 57) := by omega
    clear hs hq
    rcases q with q | ⟨q, q'⟩
    all_goals
      go_enter Tryz.func102, Tryz.ntmps102
      go_wp2_with fail
      refine (error_any B b g y _ ev _ _ (by decide) _ H.out).mono ?_
      intro e w' hr
      obtain ⟨k, rfl, hr⟩ := hr.handed
      have HR := Lib.hid hr
      clear hr
      go_wp2_with fail
      go_ret
      exact HR.out

set_option maxRecDepth 100000 in
set_option maxHeartbeats 1000000 in
theorem st_e (B b : Nat) (g : Cfg) (y : Int) (pv ev : Value) (c : Nat) (w : World) (h : Scn w B b g y pv ev) :
    Calls Tryz.prog 114 #[.pointer (some ⟨b, 0, none⟩), .int .u8 (c : Int)] w (SRes w B b g y pv ev (stepE g y c)) := by
  obtain ⟨c0, c1, c2, c3, c4, f0, f1, f2, f3, f4⟩ := h.cells
  have hlt := h.lt
  have H := Lib.hid h
  clear h
  by_cases hq : c = 43 ∨ c = 45
  · have hs : stepE g y c = (g.to .esign, 0) := if_pos hq
    rw [hs]
    clear hs
    rcases hq with rfl | rfl
    all_goals
      go_enter Tryz.func114, Tryz.ntmps114
      go_wp2_with fail
      go_ret
      exact SRes.went H.out .esign
  · have hs : stepE g y c = stepESign g y c := if_neg hq
    rw [hs]
    clear hs
    have n43 : ((c : Int) == 43) = false := by rw [beq_eq_false_iff_ne]; omega
    have n45 : ((c : Int) == 45) = false := by rw [beq_eq_false_iff_ne]; omega
    go_enter Tryz.func114, Tryz.ntmps114
    go_wp2_with fail
    refine (st_esign B b g y _ ev c _ H.out).mono ?_
    intro e w' hr
    obtain ⟨k, rfl, hr⟩ := hr.handed
    have HR := Lib.hid hr
    clear hr
    go_wp2_with fail
    go_ret
    exact HR.out

set_option maxRecDepth 100000 in
set_option maxHeartbeats 1000000 in
theorem st_err (B b : Nat) (g : Cfg) (y : Int) (pv ev : Value) (c : Nat) (w : World) (h : Scn w B b g y pv ev) :
    Calls Tryz.prog 118 #[.pointer (some ⟨b, 0, none⟩), .int .u8 (c : Int)] w (SRes w B b g y pv ev (g, 11)) := by
  have H := Lib.hid h
  clear h
  go_enter Tryz.func118, Tryz.ntmps118
  go_wp2_with fail
  go_ret
  exact SRes.same H.out

set_option maxRecDepth 100000 in
set_option maxHeartbeats 1000000 in
theorem st_bs (B b : Nat) (g : Cfg) (y : Int) (pv ev : Value) (c : Nat) (w : World) (h : Scn w B b g y pv ev) :
    Calls Tryz.prog 111 #[.pointer (some ⟨b, 0, none⟩), .int .u8 (c : Int)] w (SRes w B b g y pv ev (stepBs g y c)) := by
  obtain ⟨c0, c1, c2, c3, c4, f0, f1, f2, f3, f4⟩ := h.cells
  have hlt := h.lt
  have H := Lib.hid h
  clear h
  by_cases hsp : isSp c
  · have hs : stepBs g y c = (g, 9) := if_pos hsp
    rw [hs]
    clear hs
    go_enter Tryz.func111, Tryz.ntmps111
    go_wp2_with fail
    refine (space_yes c hsp _).mono ?_
    rintro e w' ⟨rfl, rfl⟩
    go_wp2_with fail
    go_ret
    exact SRes.same H.out
  by_cases hq : c = 34
  · have hs : stepBs g y c = (g.to .str, 1) := by unfold stepBs; rw [if_neg hsp]; exact if_pos hq
    rw [hs]
    clear hs
    have HSp := Lib.hid hsp
    clear hsp
    subst hq
    go_enter Tryz.func111, Tryz.ntmps111
    go_wp2_with fail
    refine (space_no 34 HSp.out _).mono ?_
    rintro e w' ⟨rfl, rfl⟩
    go_wp2_with fail
    go_ret
    exact SRes.went H.out .str
  · have hs : stepBs g y c = (g.fail y, 11) := by unfold stepBs; rw [if_neg hsp]; exact if_neg hq
    rw [hs]
    clear hs
    have n34 : ((c : Int) == 34) = false := by rw [beq_eq_false_iff_ne]; omega
    go_enter Tryz.func111, Tryz.ntmps111
    go_wp2_with fail
    refine (space_no c hsp _).mono ?_
    rintro e w' ⟨rfl, rfl⟩
    go_wp2_with fail
    refine (error_any B b g y _ ev _ _ (by decide) _ H.out).mono ?_
    intro e w' hr
    obtain ⟨k, rfl, hr⟩ := hr.handed
    have HR := Lib.hid hr
    clear hr
    go_wp2_with fail
    go_ret
    exact HR.out

set_option maxRecDepth 100000 in
set_option maxHeartbeats 1000000 in
theorem st_et (B b : Nat) (g : Cfg) (y : Int) (pv ev : Value) (c : Nat) (w : World) (h : Scn w B b g y pv ev) :
    Calls Tryz.prog 119 #[.pointer (some ⟨b, 0, none⟩), .int .u8 (c : Int)] w (SRes w B b g y pv ev (stepEt g y c)) := by
  obtain ⟨c0, c1, c2, c3, c4, f0, f1, f2, f3, f4⟩ := h.cells
  have hlt := h.lt
  have H := Lib.hid h
  clear h
  by_cases hsp : isSp c
  · have hs : stepEt g y c = (g, 10) := if_pos hsp
    rw [hs]
    clear hs
    go_enter Tryz.func119, Tryz.ntmps119
    go_wp2_with fail
    refine (space_yes c hsp _).mono ?_
    rintro e w' ⟨rfl, rfl⟩
    go_wp2_with fail
    go_ret
    exact SRes.same H.out
  · have hs : stepEt g y c = (g.fail y, 10) := if_neg hsp
    rw [hs]
    clear hs
    go_enter Tryz.func119, Tryz.ntmps119
    go_wp2_with fail
    refine (space_no c hsp _).mono ?_
    rintro e w' ⟨rfl, rfl⟩
    go_wp2_with fail
    refine (error_any B b g y _ ev _ _ (by decide) _ H.out).mono ?_
    rintro e w' ⟨pv', ev', rfl, hr⟩
    have HR := Lib.hid hr
    clear hr
    go_wp2_with fail
    go_ret
    exact ⟨pv', ev', rfl, HR.out⟩

end Go.Proofs.YtlgmdcaoogiooaaGreatDoor
