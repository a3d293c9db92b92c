/- The thin package's quoting and unquoting of strings; 'every8'. -/
import Derived.Test.YtjjbgoknmofajaaDoorOutL
import Derived.Test.YtjjbgoknmofajaaDoorFits
import Derived.Test.YtjjbgoknmofajaaDoorMade
namespace Go.Proofs.YtjjbgoknmofajaaDoor.Wire
open Go.RowKit Go.Proofs.YtjjbgoknmofajaaDoor

/-- A text and a yes or no, quoted. -/
structure QStr (w : World) (l0 l : List UInt8) (e : Ending) (w' : World) : Prop where
  below : Below w.heap.size w w'
  what : ∃ (q : List UInt8) (ok : Bool), Quoted f0 l q ∧ q.length ≤ 8 * l.length ∧ (ok = true ↔ Text l) ∧ e = .returned (.tuple #[.string ⟨(l0 ++ 34 :: (q ++ [34])).toArray⟩, .bool ok])

structure UStr (w : World) (l0 l : List UInt8) (e : Ending) (w' : World) : Prop where
  below : Below w.heap.size w w'
  what : ∃ (q : List UInt8) (ok : Bool), UnqAll l q ok ∧ e = .returned (.tuple #[.string ⟨(l0 ++ q).toArray⟩, .bool ok])

theorem app_new {w w' : World} {v v' : Value} {l : List UInt8} {n : Nat} (h : AppTo w v w' v' l) (hn : n ≤ w.heap.size) (hv : ∀ a, baseOf v = some a → n ≤ a.block) : Below n w w' := h.kept.below hn hv

set_option maxRecDepth 100000 in
set_option maxHeartbeats 2000000 in
theorem implQuote_all (f : Nat → Nat) (u1 u2 : TypeId) (x1 x2 : Value) (p s : ByteArray) (w : World) (hW : World5 f u1 u2 x1 x2 w) (hf : EscAll f) (hp : p.size ≤ 90000) (hs : s.size ≤ 90000) :
    Calls Tryd.prog 20 #[.string p, .string s] w (QStr w p.data.toList s.data.toList) := by
  have HW := Lib.hid hW
  have HF := Lib.hid hf
  have h5 := hW.w4.size
  clear hW hf
  go_enter Tryd.func20, Tryd.ntmps20
  go_wp2_with (first
    | (refine wpList_conv u8q rfl (.tmp 9) 9 rfl string9q rfl (by unfold maxLen; omega) ?_
       intro c1 w1 o1 b1 z1
       have O1 := Lib.hid o1
       have B1 := Lib.hid b1
       have Z1 := Lib.hid z1
       clear o1 b1 z1))
  have hb : ∀ a, baseOf (.slice (some ⟨w.heap.size, 0, none⟩) p.size c1) = some a → a.block = w.heap.size := fun a ea => by simp [baseOf] at ea; subst ea; rfl
  refine (appQ_str f u1 u2 x1 x2 _ p.data.toList s _ (HW.out.below B1.out) HF.out O1.out (fun a ea => by have := hb a ea; omega) (by rw [size_eq]; omega) (by omega)).mono ?_
  rintro e w2 ⟨q, ok, v2, x, h1, h2, k2, h4, hx, rfl⟩
  have hb2 : Below w.heap.size w w2 := B1.out.trans (app_new k2 (by have := B1.out.size; exact this) (fun a ea => by have := hb a ea; omega))
  have hconv := run_toString u8q w2.drew 9 string9q k2.own.drew
  have HB := Lib.hid hb2
  have H1 := Lib.hid h1
  have H2 := Lib.hid h2
  have H4 := Lib.hid h4
  clear k2 hb2 hb h1 h2 h4
  cases ok with
  | true =>
    obtain rfl := hx.1 rfl
    clear hx
    go_wp2_with fail
    go_region
    all_goals go_wp2_with fail
    all_goals go_ret2
    all_goals exact ⟨HB.out.drew, q, true, H1.out, H2.out, by simpa using H4.out, rfl⟩
  | false =>
    obtain ⟨ue, xe, rfl⟩ := hx.2 rfl
    clear hx
    go_wp2_with fail
    go_region
    all_goals go_wp2_with fail
    all_goals go_ret2
    all_goals exact ⟨HB.out.drew, q, false, H1.out, H2.out, H4.out, rfl⟩

set_option maxRecDepth 100000 in
set_option maxHeartbeats 2000000 in
theorem implUnquote_all (u1 u2 : TypeId) (x1 x2 : Value) (p s : ByteArray) (w : World) (hW : W4 u1 u2 x1 x2 w) (hp : p.size ≤ 90000) (hs : s.size ≤ 90000) :
    Calls Tryd.prog 21 #[.string p, .string s] w (UStr w p.data.toList s.data.toList) := by
  have HW := Lib.hid hW
  have h5 := hW.size
  clear hW
  go_enter Tryd.func21, Tryd.ntmps21
  go_wp2_with (first
    | (refine wpList_conv u8q rfl (.tmp 9) 9 rfl string9q rfl (by unfold maxLen; omega) ?_
       intro c1 w1 o1 b1 z1
       have O1 := Lib.hid o1
       have B1 := Lib.hid b1
       have Z1 := Lib.hid z1
       clear o1 b1 z1))
  have hb : ∀ a, baseOf (.slice (some ⟨w.heap.size, 0, none⟩) p.size c1) = some a → a.block = w.heap.size := fun a ea => by simp [baseOf] at ea; subst ea; rfl
  refine (appU_str u1 u2 x1 x2 _ p.data.toList s _ (HW.out.below B1.out) O1.out (fun a ea => by have := hb a ea; omega) (by rw [size_eq]; omega) (by omega)).mono ?_
  rintro e w2 ⟨q, ok, v2, x, h1, h2, k2, hx, rfl⟩
  have hb2 : Below w.heap.size w w2 := B1.out.trans (app_new k2 (by have := B1.out.size; exact this) (fun a ea => by have := hb a ea; omega))
  have hconv := run_toString u8q w2.drew 9 string9q k2.own.drew
  have HB := Lib.hid hb2
  have H1 := Lib.hid h1
  clear k2 hb2 hb h1 h2
  cases ok with
  | true =>
    obtain rfl := hx.1 rfl
    clear hx
    go_wp2_with fail
    go_region
    all_goals go_wp2_with fail
    all_goals go_ret2
    all_goals exact ⟨HB.out.drew, q, true, H1.out, rfl⟩
  | false =>
    obtain ⟨ue, xe, rfl⟩ := hx.2 rfl
    clear hx
    go_wp2_with fail
    go_region
    all_goals go_wp2_with fail
    all_goals go_ret2
    all_goals exact ⟨HB.out.drew, q, false, H1.out, rfl⟩

/-- What 'every8' tells. -/
structure Ev (w : World) (t some' : ByteArray) (e : Ending) (w' : World) : Prop where
  what : ∃ r, e = .returned (.bool r) ∧ (r = true → ∀ c ∈ t.data.toList, c ∈ some'.data.toList)
  world : ∃ n, w' = w.drewN n

theorem mem_take_succ {l : List UInt8} {k : Nat} {c : UInt8} (hk : k < l.length) (h : l[k] = c) : c ∈ l.take (k + 1) := by
  rw [List.mem_take_iff_getElem]
  exact ⟨k, by omega, h⟩

theorem mem_take_mono {l : List UInt8} {k : Nat} {c : UInt8} (h : c ∈ l.take k) : c ∈ l.take (k + 1) := by
  rw [List.mem_take_iff_getElem] at h ⊢
  obtain ⟨j, hj, e⟩ := h
  exact ⟨j, by omega, e⟩

set_option maxRecDepth 100000 in
set_option maxHeartbeats 2000000 in
theorem every8_any (t sm : ByteArray) (ht : t.size ≤ 100000) (hsm : sm.size ≤ 1000) (w : World) :
    Calls Tryd.prog 19 #[.string t, .string sm] w (Ev w t sm) := by
  go_enter Tryd.func19, Tryd.ntmps19
  go_wp2_with fail
  go_loopw [10] (fun i wr => ∃ k n : Nat, i = .int .i64 k ∧ k ≤ t.size ∧ (∀ c ∈ t.data.toList.take k, c ∈ sm.data.toList) ∧ wr = w.drewN n) (fun i _ => t.size - (intOf i).toNat)
  case atStart => exact ⟨0, 0, rfl, Nat.zero_le _, fun c h => by simp at h, rfl⟩
  case round =>
    obtain ⟨k, n, rfl, hk, hall, rfl⟩ := hrel
    have HA := Lib.hid hall
    clear hall
    by_cases hk2 : k < t.size
    · have hk0 : (0 : Int) ≤ (k : Int) := by omega
      have hk1 : (k : Int) < (t.size : Int) := by omega
      have hkl : k < t.data.toList.length := by rw [size_eq]; exact hk2
      obtain ⟨c, hc⟩ : ∃ c : UInt8, c = t[k]'hk2 := ⟨_, rfl⟩
      have HC := Lib.hid hc
      go_wp2_with fail
      go_loopw [6, 15] (fun fd i wr => ∃ (j m : Nat) (b : Bool), i = .int .i64 j ∧ j ≤ sm.size ∧ fd = .bool b ∧ (b = true → c ∈ sm.data.toList.take j) ∧ wr = w.drewN m) (fun _ i _ => sm.size - (intOf i).toNat)
      case atStart => exact ⟨0, n, false, rfl, Nat.zero_le _, rfl, fun h => (by cases h), rfl⟩
      case round =>
        obtain ⟨j, m, b, rfl, hj, rfl, hb, rfl⟩ := hrel
        have HBm := Lib.hid hb
        clear hb
        by_cases hj2 : j < sm.size
        · have hj0 : (0 : Int) ≤ (j : Int) := by omega
          have hj1 : (j : Int) < (sm.size : Int) := by omega
          obtain ⟨d, hd⟩ : ∃ d : UInt8, d = sm[j]'hj2 := ⟨_, rfl⟩
          have hjl : j < sm.data.toList.length := by rw [size_eq]; exact hj2
          cases b with
          | true =>
            clear hc hd
            go_wp2_with fail
            go_big_quiet (fail)
            go_wp2_with fail
            exact ⟨⟨j + 1, _, true, by simp, by omega, rfl, fun _ => mem_take_mono (by simpa using HBm.out), rfl⟩, by simp only [intOf]; omega⟩
          | false =>
            have HD := Lib.hid hd
            by_cases e : c = d
            · have heq : (((t[k]'hk2).toNat : Nat) : Int) == (((sm[j]'hj2).toNat : Nat) : Int) := by rw [beq_iff_eq, ← hc, ← hd, e]
              clear hc hd
              go_wp2_with fail
              go_big_quiet (fail)
              go_wp2_with fail
              exact ⟨⟨j + 1, _, true, by simp, by omega, rfl, fun _ => mem_take_succ hjl (by rw [e, HD.out]; rfl), rfl⟩, by simp only [intOf]; omega⟩
            · have heq : ((((t[k]'hk2).toNat : Nat) : Int) == (((sm[j]'hj2).toNat : Nat) : Int)) = false := by rw [← hc, ← hd]; exact u8_ne e
              clear hc hd
              go_wp2_with fail
              go_big_quiet (fail)
              go_wp2_with fail
              exact ⟨⟨j + 1, _, false, by simp, by omega, rfl, fun h => (by cases h), rfl⟩, by simp only [intOf]; omega⟩
        · obtain rfl : j = sm.size := by omega
          clear hc
          cases b with
          | true =>
            have hin : c ∈ sm.data.toList := by
              have : c ∈ sm.data.toList.take sm.size := by simpa using HBm.out
              rwa [List.take_of_length_le (by rw [size_eq]; exact Nat.le_refl _)] at this
            have HIN := Lib.hid hin
            clear hin
            go_wp2_with fail
            refine ⟨⟨k + 1, m, by simp, by omega, fun c' hc' => ?_, rfl⟩, by simp only [intOf]; omega⟩
            rw [List.take_succ_eq_append_getElem hkl, List.mem_append, List.mem_singleton] at hc'
            rcases hc' with h | h
            · exact HA.out c' h
            · rw [h]
              have : t.data.toList[k] = c := HC.out.symm
              rw [this]
              exact HIN.out
          | false =>
            go_wp2_with fail
            go_ret
            exact ⟨⟨false, rfl, fun h => (by cases h)⟩, m, rfl⟩
    · obtain rfl : k = t.size := by omega
      go_wp2_with fail
      go_ret
      refine ⟨⟨true, rfl, fun _ c hc => HA.out c (by rwa [List.take_of_length_le (by rw [size_eq]; exact Nat.le_refl _)])⟩, n, rfl⟩

end Go.Proofs.YtjjbgoknmofajaaDoor.Wire
