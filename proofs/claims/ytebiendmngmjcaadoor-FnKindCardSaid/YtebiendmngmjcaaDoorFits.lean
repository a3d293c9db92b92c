/- 'fits8': are all texts at most 1000 bytes long? -/
import Derived.Test.YtebiendmngmjcaaDoorChecked
import Derived.Test.YtebiendmngmjcaaDoorLib
namespace Go.Proofs.YtebiendmngmjcaaDoor
open Go.RowKit

def fitsB (ss : List ByteArray) : Bool := ss.all fun s => decide (s.size ≤ 1000)

theorem fitsB_true {ss : List ByteArray} (h : ∀ j (h : j < ss.length), ss[j].size ≤ 1000) : fitsB ss = true := by
  unfold fitsB
  rw [List.all_eq_true]
  intro s hs
  obtain ⟨j, hj, rfl⟩ := List.getElem_of_mem hs
  simpa using h j hj

theorem fitsB_false {ss : List ByteArray} (k : Nat) (hk : k < ss.length) (h : 1000 < ss[k].size) : fitsB ss = false := by
  unfold fitsB
  rw [List.all_eq_false]
  exact ⟨ss[k], List.getElem_mem hk, by simpa using h⟩

set_option maxHeartbeats 400000 in
theorem fits8_any (ss : List ByteArray) (b n cap : Nat) (w : World) (hn : n = ss.length) (hl : ss.length ≤ 1000) (hc : Strs w b ss) (hm : ∀ j (h : j < ss.length), ss[j].size ≤ 9223372036854775807) :
    Calls Tryd.prog 6 #[.slice (some ⟨b, 0, none⟩) n cap] w fun e w' => e = .returned (.bool (fitsB ss)) ∧ w = w' := by
  subst hn
  have HC := Lib.hid hc
  have HM := Lib.hid hm
  clear hc hm
  go_enter Tryd.func6, Tryd.ntmps6
  go_wp2
  go_loop [7] (fun i => ∃ k : Nat, k ≤ ss.length ∧ i = .int .i64 k ∧ ∀ j (h : j < ss.length), j < k → ss[j].size ≤ 1000) (fun i => ss.length - (intOf i).toNat)
  case atStart => exact ⟨0, Nat.zero_le _, rfl, fun j _ h => absurd h (Nat.not_lt_zero _)⟩
  case round =>
    obtain ⟨k, hk, rfl, hall⟩ := hrel
    have HA := Lib.hid hall
    clear hall
    by_cases hlt : k < ss.length
    · have hck := HC.out k hlt
      have hmk := HM.out k hlt
      obtain ⟨s, hs⟩ : ∃ s, s = ss[k] := ⟨_, rfl⟩
      rw [← hs] at hck hmk
      have HS := Lib.hid hs
      clear hs
      by_cases hz : s.size ≤ 1000
      · go_wp2
        go_round
        case rel => exact ⟨k + 1, by omega, by go_num, fun j hj hjk => by
          by_cases e : j = k
          · subst e; rw [← HS.out]; exact hz
          · exact HA.out j hj (by omega)⟩
        case measure => simp [intOf]; omega
      · go_wp2
        go_ret
        exact ⟨by rw [fitsB_false k hlt (by rw [← HS.out]; omega)]; rfl, rfl⟩
    · go_wp2
      go_ret
      exact ⟨by rw [fitsB_true (fun j hj => HA.out j hj (by omega))]; rfl, rfl⟩

end Go.Proofs.YtebiendmngmjcaaDoor
