/- 'short10': are all texts at most 4000 bytes long? -/
import Derived.Test.YtifemmjblamfkaaDoorChecked
import Derived.Test.YtifemmjblamfkaaDoorLib
namespace Go.Proofs.YtifemmjblamfkaaDoor
open Go.RowKit

def shortB (ss : List ByteArray) : Bool := ss.all fun s => decide (s.size ≤ 4000)

theorem shortB_true {ss : List ByteArray} (h : ∀ j (h : j < ss.length), ss[j].size ≤ 4000) : shortB ss = true := by
  unfold shortB
  rw [List.all_eq_true]
  intro s hs
  obtain ⟨j, hj, rfl⟩ := List.getElem_of_mem hs
  simpa using h j hj

theorem shortB_false {ss : List ByteArray} (k : Nat) (hk : k < ss.length) (h : 4000 < ss[k].size) : shortB ss = false := by
  unfold shortB
  rw [List.all_eq_false]
  exact ⟨ss[k], List.getElem_mem hk, by simpa using h⟩

set_option maxHeartbeats 400000 in
theorem short10_any (ss : List ByteArray) (b n cap : Nat) (w : World) (hn : n = ss.length) (hl : ss.length ≤ 1000) (hc : Strs w b ss) (hm : ∀ j (h : j < ss.length), ss[j].size ≤ 9223372036854775807) :
    Calls Tryd.prog 5 #[.slice (some ⟨b, 0, none⟩) n cap] w fun e w' => e = .returned (.bool (shortB ss)) ∧ w = w' := by
  subst hn
  have HC := Lib.hid hc
  have HM := Lib.hid hm
  clear hc hm
  go_enter Tryd.func5, Tryd.ntmps5
  go_wp2
  go_loop [7] (fun i => ∃ k : Nat, k ≤ ss.length ∧ i = .int .i64 k ∧ ∀ j (h : j < ss.length), j < k → ss[j].size ≤ 4000) (fun i => ss.length - (intOf i).toNat)
  case atStart => exact ⟨0, Nat.zero_le _, rfl, fun j _ h => absurd h (Nat.not_lt_zero _)⟩
  case round =>
    obtain ⟨k, hk, rfl, hall⟩ := hrel
    have HA := Lib.hid hall
    clear hall
    by_cases hlt : k < ss.length
    · have hck := HC.out k hlt
      have hmk := HM.out k hlt
      obtain ⟨s, hs⟩ : ∃ s, s = ss[k] := ⟨_, rfl⟩
      rw [← hs] at hck hmk
      have HS := Lib.hid hs
      clear hs
      by_cases hz : s.size ≤ 4000
      · go_wp2
        go_round
        case rel => exact ⟨k + 1, by omega, by go_num, fun j hj hjk => by
          by_cases e : j = k
          · subst e; rw [← HS.out]; exact hz
          · exact HA.out j hj (by omega)⟩
        case measure => simp [intOf]; omega
      · go_wp2
        go_ret
        exact ⟨by rw [shortB_false k hlt (by rw [← HS.out]; omega)]; rfl, rfl⟩
    · go_wp2
      go_ret
      exact ⟨by rw [shortB_true (fun j hj => HA.out j hj (by omega))]; rfl, rfl⟩

end Go.Proofs.YtifemmjblamfkaaDoor
