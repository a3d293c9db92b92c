/- The text of printed ASCII: unquoting. -/
import Derived.Test.YtjjbgoknmofajaaDoorQPlain
namespace Go.Proofs.YtjjbgoknmofajaaDoor
open Go.RowKit

set_option maxRecDepth 100000 in
set_option maxHeartbeats 1000000 in
theorem noEscape_yes (a : Nat) (h1 : 32 ≤ a) (h2 : a ≤ 126) (h3 : a ≠ 34) (h4 : a ≠ 92) (w : World) :
    Calls Tryd.prog 62 #[.int .u8 (a : Int)] w fun e w' => w' = w ∧ e = .returned (.bool true) := by
  have e1 : (a : Int) < 128 := by omega
  have e2 : (32 : Int) ≤ (a : Int) := by omega
  have e3 : ((a : Int) != 92) = true := by rw [bne_iff_ne]; omega
  have e4 : ((a : Int) != 34) = true := by rw [bne_iff_ne]; omega
  have e5 : ((a : Int) == 92) = false := by rw [beq_eq_false_iff_ne]; omega
  have e6 : ((a : Int) == 34) = false := by rw [beq_eq_false_iff_ne]; omega
  go_enter Tryd.func62, Tryd.ntmps62
  go_wp2
  go_ret
  exact ⟨rfl, rfl⟩

set_option maxRecDepth 100000 in
theorem noEscape_no (w : World) :
    Calls Tryd.prog 62 #[.int .u8 34] w fun e w' => w' = w ∧ e = .returned (.bool false) := by
  go_enter Tryd.func62, Tryd.ntmps62
  go_wp2
  go_ret
  exact ⟨rfl, rfl⟩

theorem Bytes.mid {w : World} {b : Nat} {l : List UInt8} (h : Bytes w b 0 l) (x m y : List UInt8) (hl : l = x ++ m ++ y) : Bytes w b x.length m := by
  intro j hj
  have h1 := h (x.length + j) (by rw [hl]; simp; omega)
  rw [Nat.zero_add] at h1
  rw [h1, hl, List.getElem?_map, List.getElem?_map, List.append_assoc, List.getElem?_append_right (by omega), List.getElem?_append_left (by omega), Nat.add_sub_cancel_left]

set_option maxRecDepth 100000 in
set_option maxHeartbeats 4000000 in
theorem unquotePlain_any (v0 : Value) (l0 l : List UInt8) (b n cap : Nat) (w : World) (hn : n = l.length + 2) (hown : Own w v0 l0)
    (hb : b < w.heap.size) (hne : ∀ a, baseOf v0 = some a → a.block ≠ b) (hbytes : Bytes w b 0 (34 :: (l ++ [34]))) (hlen : n ≤ cap)
    (hsz : l0.length + l.length ≤ 100000) (hp : Plain l) :
    Calls Tryd.prog 52 #[v0, .slice (some ⟨b, 0, none⟩) n cap] w fun e w' => ∃ v', e = .returned (.tuple #[v', .nilIface]) ∧ AppTo w v0 w' v' (l0 ++ l) := by
  have HO := Lib.hid hown
  have HNE := Lib.hid hne
  have HBY := Lib.hid hbytes
  have HP := Lib.hid hp
  have HN := Lib.hid hn
  have hn1 : n ≤ 100002 := by omega
  have hn2 : 2 ≤ n := by omega
  have hl0 : l0.length ≤ 100000 := by omega
  have hn3 : (0 : Int) < (n : Int) := by omega
  have hn4 : ((n : Int) == 0) = false := by rw [beq_eq_false_iff_ne]; omega
  clear hown hne hbytes hp hn
  go_enter Tryd.func52, Tryd.ntmps52
  go_wp2_with fail
  refine (grow_int v0 l0 _ n rfl _ HO.out (by omega)).mono ?_
  rintro e w1 ⟨v1, rfl, k1⟩
  have hc0 := (HBY.out.kept k1.kept hb HNE.out).at0 0 (by simp)
  have K1 := Lib.hid k1
  clear k1
  go_wp2_with fail
  go_loopw [0, 5, 6, 7] (fun v x i t wr => t = .int .i64 1 ∧ i = .int .i64 1 ∧ v = v1 ∧ x = .nilIface ∧ wr = w1) (fun _ _ _ _ _ => 0)
  case atStart => exact ⟨rfl, rfl, rfl, rfl, rfl⟩
  case round =>
    obtain ⟨rfl, rfl, rfl, rfl, rfl⟩ := hrel
    have h1n : (1 : Int) < (n : Int) := by omega
    go_wp2_with fail
    go_loopw [7] (fun t w2 => ∃ k : Nat, t = .int .i64 k ∧ 1 ≤ k ∧ k ≤ l.length + 1 ∧ w2 = wr) (fun t _ => n - (intOf t).toNat)
    case atStart => exact ⟨1, rfl, by omega, by omega, rfl⟩
    case round =>
      obtain ⟨k, rfl, hk0, hk, rfl⟩ := hrel
      have hk2 : k < n := by have := HN.out; omega
      have hk3 : (0 : Int) ≤ (k : Int) := by omega
      have hk4 : (k : Int) < (n : Int) := by omega
      have hlt : decide ((k : Int) < (n : Int)) = true := decide_eq_true hk4
      have hB := HBY.out.kept K1.out.kept hb HNE.out
      have hc := hB.at0 k (by simp; omega)
      by_cases hkl : k ≤ l.length
      · obtain ⟨m, rfl⟩ : ∃ m, k = m + 1 := ⟨k - 1, by omega⟩
        have hml : m < l.length := by omega
        have hget : (34 :: (l ++ [34]))[m + 1]'(by simp; omega) = l[m] := by simp [List.getElem_append_left hml]
        rw [hget] at hc
        obtain ⟨p1, p2, p3, p4⟩ := HP.out l[m] (List.getElem_mem _)
        obtain ⟨a, ha⟩ : ∃ a : Nat, a = (l[m]).toNat := ⟨_, rfl⟩
        rw [← ha] at hc p1 p2 p3 p4
        clear hget ha hB
        go_wp2_with (first
          | (go_at_call 62
             refine (noEscape_yes a p1 p2 p3 p4 _).mono ?_
             rintro e w3 ⟨rfl, rfl⟩))
        exact ⟨⟨m + 1 + 1, by simp, by omega, by omega, trivial⟩, by simp only [intOf]; omega⟩
      · obtain rfl : k = l.length + 1 := by omega
        have hget : (34 :: (l ++ [34]))[l.length + 1]'(by simp) = 34 := by simp
        rw [hget] at hc
        have hmid := hB.mid [34] l [34] rfl
        have HM := Lib.hid hmid
        have hend : ¬ ((l.length : Int) + 1 + 1 < (n : Int)) := by have := HN.out; omega
        clear hget hB hmid
        go_wp2_with (first
          | (go_at_call 62
             refine (noEscape_no _).mono ?_
             rintro e w3 ⟨rfl, rfl⟩)
          | (at_builtin
             refine wpList_app u8q rfl (.tmp 77) (.tmp 81) 39 rfl K1.out (by rfl) l (by rfl) (by exact HM.out.src u8q _) (by omega) ?_
             intro v3 w4 k3
             have K3 := Lib.hid k3
             clear k3))
        go_ret2
        exact ⟨v3, rfl, K3.out⟩

end Go.Proofs.YtjjbgoknmofajaaDoor
