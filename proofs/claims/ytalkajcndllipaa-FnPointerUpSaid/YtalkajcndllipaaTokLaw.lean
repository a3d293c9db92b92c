/- FnPointerTokens: its walk. -/
import Derived.Test.YtalkajcndllipaaSpecTok
namespace Go.Proofs.Ytalkajcndllipaa
open Go.RowKit

theorem TextsAt.below {w w' : World} {n g : Nat} {ts : List (List UInt8)} (h : TextsAt w g ts) (hb : Below n w w') (hg : g < n) : TextsAt w' g ts :=
  fun j hj => (cell_of_heap (hb.block g hg) j).trans (h j hj)

set_option maxRecDepth 100000 in
set_option maxHeartbeats 1000000 in
theorem sameTexts_any (a b ca cb : Nat) (ts : List (List UInt8)) (w : World) (ha : TextsAt w a ts) (hb : TextsAt w b ts) (hl : ts.length ≤ 1000000) :
    Calls Try.prog 12 #[.slice (some ⟨a, 0, none⟩) ts.length ca, .slice (some ⟨b, 0, none⟩) ts.length cb] w fun e w' => w' = w ∧ e = .returned (.bool true) := by
  obtain ⟨n, hn⟩ : ∃ n, n = ts.length := ⟨_, rfl⟩
  rw [← hn]
  rw [← hn] at hl
  have HN := Lib.hid hn
  have HA := Lib.hid ha
  have HB := Lib.hid hb
  clear hn ha hb
  go_enter Try.func12, Try.ntmps12
  go_wp2_with fail
  go_loopw [14] (fun t wr => ∃ k : Nat, t = .int .i64 k ∧ k ≤ n ∧ wr = w) (fun t _ => n - (intOf t).toNat)
  case atStart => exact ⟨0, rfl, Nat.zero_le _, rfl⟩
  case round =>
    obtain ⟨k, rfl, hk, rfl⟩ := hrel
    by_cases hk2 : k < n
    · have hk0 : (0 : Int) ≤ (k : Int) := by omega
      have hk1 : (k : Int) < (n : Int) := by omega
      have hkt : k < ts.length := by rw [← HN.out]; exact hk2
      have h1 : wr.cell? ⟨a, k, none⟩ = some (.string ⟨(ts[k]).toArray⟩) := HA.out k hkt
      have h2 : wr.cell? ⟨b, k, none⟩ = some (.string ⟨(ts[k]).toArray⟩) := HB.out k hkt
      obtain ⟨s, hs⟩ : ∃ s : ByteArray, s = ⟨(ts[k]).toArray⟩ := ⟨_, rfl⟩
      rw [← hs] at h1 h2
      clear hs
      have heq : (s.toList == s.toList) = true := by rw [beq_iff_eq]
      have hne : (s.toList != s.toList) = false := by simp
      go_wp2_with fail
      exact ⟨⟨k + 1, by simp, by omega, trivial⟩, by simp only [intOf]; omega⟩
    · obtain rfl : k = n := by omega
      go_wp2_with fail
      go_ret
      exact ⟨rfl, rfl⟩

end Go.Proofs.Ytalkajcndllipaa
namespace Go.Proofs.Ytalkajcndllipaa.PtrTokens
open Go.RowKit Go.Proofs.Ytalkajcndllipaa

set_option maxRecDepth 100000 in
set_option maxHeartbeats 1000000 in
theorem walk (p : ByteArray) (hp : p.size ≤ maxLen) (w : World) :
    Calls Try.prog 4 #[.string p] w fun e w' => e = .returned (.bool true) ∧ Below w.heap.size w w' := by
  unfold maxLen at hp
  by_cases h1 : 2147483647 < p.size
  · go_enter Try.func4, Try.ntmps4
    go_wp2
    go_ret
    exact ⟨rfl, Below.refl _ _⟩
  go_enter Try.func4, Try.ntmps4
  go_wp2_with fail
  refine (pointers10_any p (by omega) _ _ _ (by simp)).mono ?_
  rintro e w1 ⟨rfl, b, rfl, hb⟩
  cases b with
  | false =>
    clear hb
    go_wp2_with fail
    go_ret
    exact ⟨rfl, (Below.refl _ _).alloc (Nat.le_refl _) _⟩
  | true =>
    have hp2 : p.size ≤ 4000 := by have := (hb rfl).2; rw [size_eq] at this; exact this
    obtain ⟨ts, hts⟩ := (hb rfl).1.toks
    have hlen := hts.len
    rw [size_eq] at hlen
    have HT := Lib.hid hts
    clear hb hts
    go_wp2_with fail
    refine (implTokens_any p ts _ HT.out (by omega)).mono ?_
    rintro e w2 ⟨b2, g, c, rfl, t2, g2, l2⟩
    have B2 := Lib.hid b2
    have T2 := Lib.hid t2
    clear b2 t2
    go_wp2_with fail
    refine (specTokens_any p ts _ HT.out (by omega)).mono ?_
    rintro e w3 ⟨b3, g', c', rfl, t3, g3, l3⟩
    have B3 := Lib.hid b3
    have T3 := Lib.hid t3
    clear b3 t3
    go_wp2_with fail
    refine (sameTexts_any g g' c c' ts _ (T2.out.below B3.out l2) T3.out (by omega)).mono ?_
    rintro e w4 ⟨rfl, rfl⟩
    go_wp2_with fail
    go_ret
    exact ⟨rfl, below_step (below_step ((Below.refl _ _).alloc (Nat.le_refl _) _) B2.out) B3.out⟩

end Go.Proofs.Ytalkajcndllipaa.PtrTokens
