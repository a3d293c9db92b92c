/- The text of printed ASCII: quoting. -/
import Derived.Test.YtjjbgoknmofajaaDoorGrow
import Derived.Deep.QuietTactic
import Derived.BigQuiet
import Derived.Deep.RegionLaw
import Derived.Maps.AppendAt
namespace Go.Proofs.YtjjbgoknmofajaaDoor
open Go.RowKit

/-- Printed ASCII without quotation marks and backslashes. -/
def Plain (l : List UInt8) : Prop := ∀ c ∈ l, 32 ≤ c.toNat ∧ c.toNat ≤ 126 ∧ c.toNat ≠ 34 ∧ c.toNat ≠ 92

/-- The table of what may want an escape. -/
structure EscTab (f : Nat → Nat) (W : World) : Prop where
  cell : ∀ c, c < 128 → W.cell? ⟨0, c, none⟩ = some (.int .u8 ((f c : Nat) : Int))
  free : ∀ c, 32 ≤ c → c ≤ 126 → c ≠ 34 → c ≠ 92 → f c = 0 ∨ c = 60 ∨ c = 62 ∨ c = 38

theorem EscTab.below {f : Nat → Nat} {W W' : World} {n : Nat} (h : EscTab f W) (hb : Below n W W') (hn : 0 < n) : EscTab f W' :=
  ⟨fun c hc => (cell_of_heap (hb.block 0 hn) c).trans (h.cell c hc), h.free⟩

set_option maxRecDepth 100000 in
set_option maxHeartbeats 1000000 in
theorem getNone_any (m : Int) (hm : m = 512 ∨ m = 1024 ∨ m = 4) (w : World) :
    Calls Tryd.prog 43 #[.agg #[.int .u64 0, .int .u64 0], .int .u64 m] w fun e w' => e = .returned (.bool false) ∧ ∃ o, w' = w.alloc o := by
  rcases hm with rfl | rfl | rfl
  · have e1 : bits .and .u64 0 512 = 0 := by decide +kernel
    go_enter Tryd.func43, Tryd.ntmps43
    go_wp2
    go_ret
    exact ⟨rfl, _, rfl⟩
  · have e1 : bits .and .u64 0 1024 = 0 := by decide +kernel
    go_enter Tryd.func43, Tryd.ntmps43
    go_wp2
    go_ret
    exact ⟨rfl, _, rfl⟩
  · have e1 : bits .and .u64 0 4 = 0 := by decide +kernel
    go_enter Tryd.func43, Tryd.ntmps43
    go_wp2
    go_ret
    exact ⟨rfl, _, rfl⟩

theorem grow_int (v : Value) (l : List UInt8) (m : Int) (n : Nat) (hm : m = (n : Int)) (w : World) (h : Own w v l) (hb : l.length + n ≤ 1099511627776) :
    Calls Tryd.prog 42 #[v, .int .i64 m] w (App w v l) := by
  subst hm
  exact grow_any v l n w h hb

set_option maxRecDepth 100000 in
set_option maxHeartbeats 2000000 in
theorem quotePlain_any (f : Nat → Nat) (v0 : Value) (l0 l : List UInt8) (b n cap fb : Nat) (w : World) (hT : EscTab f w) (hn : n = l.length) (hown : Own w v0 l0) (h0 : ∀ a, baseOf v0 = some a → a.block ≠ 0)
    (hb : b < w.heap.size) (hne : ∀ a, baseOf v0 = some a → a.block ≠ b) (hbytes : Bytes w b 0 l) (hlen : l.length ≤ cap)
    (hf0 : w.cell? ⟨fb, 0, none⟩ = some (.int .u64 0)) (hf1 : w.cell? ⟨fb, 1, none⟩ = some (.int .u64 0)) (hfb : fb < w.heap.size) (hnf : ∀ a, baseOf v0 = some a → a.block ≠ fb)
    (hsz : l0.length + l.length ≤ 100000) (hp : Plain l) :
    Calls Tryd.prog 28 #[v0, .slice (some ⟨b, 0, none⟩) n cap, .pointer (some ⟨fb, 0, none⟩)] w fun e w' => ∃ v', e = .returned (.tuple #[v', .nilIface]) ∧ AppTo w v0 w' v' (l0 ++ [34] ++ l ++ [34]) := by
  have h0s : 0 < w.heap.size := by have := Go.block_lt_of_cell (hT.cell 0 (by decide)); exact this
  have HT := Lib.hid hT
  have HO := Lib.hid hown
  have H0 := Lib.hid h0
  have HNE := Lib.hid hne
  have HBY := Lib.hid hbytes
  have HF0 := Lib.hid hf0
  have HF1 := Lib.hid hf1
  have HNF := Lib.hid hnf
  have HP := Lib.hid hp
  have HN := Lib.hid hn
  have hnc : n ≤ cap := by omega
  have hn1 : n ≤ 100000 := by omega
  have hl0 : l0.length ≤ 100000 := by omega
  clear hT hown h0 hne hbytes hf0 hf1 hnf hp hn hlen
  go_enter Tryd.func28, Tryd.ntmps28
  go_wp2_with fail
  refine (grow_int v0 l0 _ (n + 2) (by omega) _ HO.out (by omega)).mono ?_
  rintro e w1 ⟨v1, rfl, k1⟩
  have K1 := Lib.hid k1
  clear k1
  go_wp2_with (first
    | (at_builtin
       refine wpList_app u8q rfl (.tmp 20) (.tmp 21) 39 rfl (K1.out.alloc _) (by rfl) [34] (by rfl) (by exact src_block u8q (by exact heap_alloc_new w1 _) [34] (by rfl) 1) (by simp; omega) ?_
       intro v2 w2 k2
       have K2 := Lib.hid k2
       clear k2))
  go_loopw [0, 8, 9, 10] (fun v i t h wr => ∃ k : Nat, t = .int .i64 k ∧ k ≤ n ∧ i = .int .i64 0 ∧ h = .bool false ∧ AppTo w v0 wr v (l0 ++ [34])) (fun _ _ t _ _ => n - (intOf t).toNat)
  case atStart => exact ⟨0, rfl, Nat.zero_le _, rfl, rfl, K2.out⟩
  case round =>
    obtain ⟨k, rfl, hk, rfl, rfl, happ⟩ := hrel
    have HA := Lib.hid happ
    clear happ
    by_cases hk2 : k < n
    · have hkl : k < l.length := by have := HN.out; omega
      have hk0 : (0 : Int) ≤ (k : Int) := by omega
      have hk1 : (k : Int) < (n : Int) := by omega
      have hlt : decide ((k : Int) < (n : Int)) = true := decide_eq_true hk1
      obtain ⟨p1, p2, p3, p4⟩ := HP.out l[k] (List.getElem_mem _)
      have hc := (HBY.out.kept HA.out.kept hb HNE.out).at0 k hkl
      obtain ⟨a, ha⟩ : ∃ a : Nat, a = (l[k]).toNat := ⟨_, rfl⟩
      rw [← ha] at hc p1 p2 p3 p4
      have ht := (HA.out.cell a h0s H0.out).trans (HT.out.cell a (by omega))
      have ha1 : (a : Int) < 128 := by omega
      have ha2 : (0 : Int) ≤ (a : Int) := by omega
      have hg0 := (HA.out.cell 0 hfb HNF.out).trans HF0.out
      have hg1 := (HA.out.cell 1 hfb HNF.out).trans HF1.out
      have HG0 := Lib.hid hg0
      have HG1 := Lib.hid hg1
      clear ha hg0 hg1
      by_cases hz : f a = 0
      · rw [hz] at ht
        clear hz
        go_wp2_with fail
        exact ⟨⟨k + 1, by simp, by omega, rfl, rfl, HA.out⟩, by simp only [intOf]; omega⟩
      · have hnz : (((f a : Nat) : Int) == 0) = false := by rw [beq_eq_false_iff_ne]; omega
        have h6 := (HT.out.free a p1 p2 p3 p4).resolve_left hz
        have HG := HG0
        have hg0 := HG0.out
        have hg1 := HG1.out
        clear p1 p2 p3 p4 hz
        rcases h6 with rfl | rfl | rfl
        · clear ha1 ha2
          go_wp2_with (first
            | (go_at_call 43
               refine (getNone_any 512 (.inl rfl) _).mono ?_
               rintro e w3 ⟨rfl, o, rfl⟩))
          exact ⟨⟨k + 1, by simp, by omega, rfl, rfl, HA.out.alloc o⟩, by simp only [intOf]; omega⟩
        · clear ha1 ha2
          go_wp2_with (first
            | (go_at_call 43
               refine (getNone_any 512 (.inl rfl) _).mono ?_
               rintro e w3 ⟨rfl, o, rfl⟩))
          exact ⟨⟨k + 1, by simp, by omega, rfl, rfl, HA.out.alloc o⟩, by simp only [intOf]; omega⟩
        · clear ha1 ha2
          go_wp2_with (first
            | (go_at_call 43
               refine (getNone_any 512 (.inl rfl) _).mono ?_
               rintro e w3 ⟨rfl, o, rfl⟩))
          exact ⟨⟨k + 1, by simp, by omega, rfl, rfl, HA.out.alloc o⟩, by simp only [intOf]; omega⟩
    · obtain rfl : k = n := by omega
      have hlt : decide ((k : Int) < (k : Int)) = false := decide_eq_false (by omega)
      have hby := (HBY.out.kept HA.out.kept hb HNE.out)
      have HB2 := Lib.hid hby
      have hkn : k = l.length := HN.out
      have HKN := Lib.hid hkn
      clear hby hkn
      go_wp2_with (first
        | (at_builtin
           refine wpList_app u8q rfl (.tmp 129) (.tmp 133) 39 rfl HA.out (by rfl) l (by rfl) (by rw [HKN.out]; exact HB2.out.src u8q _) (by simp; omega) ?_
           intro v3 w3 k3
           have K3 := Lib.hid k3
           clear k3)
        | (at_builtin
           refine wpList_app u8q rfl (.tmp 135) (.tmp 136) 39 rfl (K3.out.alloc _) (by rfl) [34] (by rfl) (by exact src_block u8q (by exact heap_alloc_new w3 _) [34] (by rfl) 1) (by simp; omega) ?_
           intro v4 w4 k4
           have K4 := Lib.hid k4
           clear k4))
      go_ret2
      exact ⟨v4, rfl, K4.out⟩

end Go.Proofs.YtjjbgoknmofajaaDoor
