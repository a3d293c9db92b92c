/- The reference's digits of a number. -/
import Derived.Test.YtifemmjblamfkaaChecked
import Derived.Test.YtifemmjblamfkaaLib
import Derived.Test.YtifemmjblamfkaaDig
namespace Go.Proofs.Ytifemmjblamfkaa
open Go.RowKit

theorem u8d : U8 Try.prog 39 5 := ⟨by kernel_rfl, by kernel_rfl, by kernel_rfl⟩
theorem string9d : Try.prog.underlying 9 = some .string := by kernel_rfl

/-- 1 for an empty slice. -/
def lenZ : Value → Nat
  | .slice _ 0 _ => 1
  | _ => 0

theorem digC (m : Nat) : (#[.int .u8 (48 + (m : Int) % 10)] : Array Value).toList = [UInt8.ofNat (48 + m % 10)].map B := by
  have := Dig.digit_toNat (n := m % 10) (Nat.mod_lt _ (by omega))
  simp only [List.map_cons, List.map_nil, B, this]
  simp

/-- Behind some rounds: m is left, out is written. -/
def DInv (n m : Nat) (out : List UInt8) : Prop := m ≤ n ∧ ((out = [] ∧ m = n) ∨ (out ≠ [] ∧ Dig.dig n = (if m = 0 then [] else Dig.dig m) ++ out))

theorem DInv.step {n m : Nat} {out : List UInt8} (hn : n < 10 ^ 24) (h : DInv n m out) (hm : 0 < m ∨ out = []) : DInv n (m / 10) ([UInt8.ofNat (48 + m % 10)] ++ out) := by
  obtain ⟨h1, h2⟩ := h
  refine ⟨by omega, .inr ⟨by simp, ?_⟩⟩
  have hs := Dig.dig_step m (by omega)
  have key : Dig.dig m = (if m / 10 = 0 then [] else Dig.dig (m / 10)) ++ [UInt8.ofNat (48 + m % 10)] := by
    rw [hs]
    by_cases h10 : m < 10
    · have e : m / 10 = 0 := by omega
      have e2 : m % 10 = m := by omega
      simp [h10, e, e2]
    · have e : m / 10 ≠ 0 := by omega
      simp [h10, e]
  rcases h2 with ⟨rfl, rfl⟩ | ⟨h2, h3⟩
  · simpa using key
  · have : m ≠ 0 := by
      rcases hm with hm | hm
      · omega
      · exact absurd hm h2
    rw [h3, if_neg this, key]
    simp

theorem DInv.done {n : Nat} {out : List UInt8} (h : DInv n 0 out) (ho : out ≠ []) : Dig.dig n = out := by
  rcases h.2 with ⟨h1, _⟩ | ⟨_, h2⟩
  · exact absurd h1 ho
  · simpa using h2

theorem DInv.len {n m : Nat} {out : List UInt8} (h : DInv n m out) (hn : n < 18446744073709551616) : out.length ≤ 20 := by
  rcases h.2 with ⟨rfl, _⟩ | ⟨_, h2⟩
  · simp
  · obtain ⟨c, t, e, hl, _⟩ := Dig.dig64 n hn
    have := congrArg List.length (e.symm.trans h2)
    simp at this
    omega

theorem wrapN {m : Nat} (h : m < 18446744073709551616) : IntKind.u64.wrap ((m : Int) / 10) = ((m / 10 : Nat) : Int) := by
  rw [show ((m : Int) / 10) = ((m / 10 : Nat) : Int) by omega]
  simp only [IntKind.wrap, IntKind.bits, IntKind.signed]
  simp
  omega

/-- One round's end. -/
theorem decRound {n m : Nat} {out : List UInt8} {w wr w1 : World} {v1 : Value} {ao : Option Addr} {cap len1 : Nat} {k : Int} (hk : k = ((m / 10 : Nat) : Int)) (hn : n < 18446744073709551616) {T : TypeId} {C : Array Value} {x : List UInt8}
    (hx : x = [UInt8.ofNat (48 + m % 10)]) (hb : Below w.heap.size w wr) (hI : DInv n m out) (hm : 0 < m ∨ out = [])
    (h : AppTo (wr.alloc (.cells C T)) (.slice (some ⟨wr.heap.size, 0, none⟩) len1 len1) w1 v1 (x ++ out)) :
    (∃ (m : Nat) (out : List UInt8) (ao : Option Addr) (cap : Nat), Value.int IntKind.u64 k = .int .u64 m ∧ v1 = .slice ao out.length cap ∧ Own w1 (.slice ao out.length cap) out ∧ Below w.heap.size w w1 ∧ (∀ a, ao = some a → w.heap.size ≤ a.block) ∧ DInv n m out) ∧
      2 * (intOf (.int .u64 k)).toNat + lenZ v1 < 2 * (intOf (.int .u64 (m : Int))).toNat + lenZ (.slice ao out.length cap) := by
  subst hk hx
  obtain ⟨ao1, cap1, rfl, _⟩ := h.own.form
  refine ⟨⟨m / 10, _, ao1, cap1, rfl, rfl, h.own, ?_, fun a ha => ?_, hI.step (by omega) hm⟩, ?_⟩
  · refine (hb.alloc hb.size _).trans (h.kept.below (by have := hb.size; simp; omega) (fun a ha => ?_))
    cases ha
    exact hb.size
  · rcases h.pos with e | e
    · rw [show baseOf (.slice ao1 ([UInt8.ofNat (48 + m % 10)] ++ out).length cap1) = ao1 from rfl, ha] at e
      cases e
      exact hb.size
    · have := e a ha
      have h2 := hb.size
      simp at this
      omega
  · have e : lenZ (.slice ao1 ([UInt8.ofNat (48 + m % 10)] ++ out).length cap1) = 0 := by
      rw [List.length_append, List.length_singleton, Nat.add_comm]; rfl
    rw [e]
    simp only [intOf, Int.toNat_natCast]
    rcases hm with hm | rfl
    · omega
    · have e2 : lenZ (.slice ao ([] : List UInt8).length cap) = 1 := rfl
      omega

set_option maxRecDepth 100000 in
set_option maxHeartbeats 400000 in
theorem decimals_any (n : Nat) (hn : n < 18446744073709551616) (w : World) :
    Calls Try.prog 19 #[.int .u64 n] w fun e w' => e = .returned (.string ⟨(Dig.dig n).toArray⟩) ∧ Below w.heap.size w w' := by
  have HN := Lib.hid hn
  clear hn
  go_enter Try.func19, Try.ntmps19
  go_wp2
  go_loopw [0, 3] (fun t v wr => ∃ (m : Nat) (out : List UInt8) (ao : Option Addr) (cap : Nat), t = .int .u64 m ∧ v = .slice ao out.length cap ∧ Own wr (.slice ao out.length cap) out ∧ Below w.heap.size w wr ∧ (∀ a, ao = some a → w.heap.size ≤ a.block) ∧ DInv n m out)
    (fun t v _ => 2 * (intOf t).toNat + lenZ v)
  case atStart =>
    refine ⟨n, [], _, _, rfl, rfl, Own.lit w 5 #[] [] rfl (by simp) _ _ rfl rfl, Below.alloc (Below.refl _ w) (Nat.le_refl _) _, fun a ha => ?_, ⟨Nat.le_refl _, .inl ⟨rfl, rfl⟩⟩⟩
    cases ha
    exact Nat.le_refl _
  case round =>
    obtain ⟨m, out, ao, cap, rfl, rfl, hown, hb, hao, hinv⟩ := hrel
    have HO := Lib.hid hown
    have HB := Lib.hid hb
    have HA := Lib.hid hao
    have HI := Lib.hid hinv
    have HL := Lib.hid (hinv.len HN.out)
    clear hown hb hao hinv
    by_cases hm : 0 < m
    · go_wp2_with (first
        | (at_builtin
           refine wpList_app u8d rfl (.tmp 18) (.tmp 19) 39 rfl (AppTo.refl (Own.lit wr 5 #[.int .u8 (48 + (m : Int) % 10)] [UInt8.ofNat (48 + m % 10)] (digC m) (by simp [maxLen]) _ _ rfl rfl)) rfl out rfl ((HO.out.alloc _).src u8d) (by have := HL.out; simp; omega) ?_
           intro v1 w1 h1'
           have h1 := Lib.hid h1'
           clear h1'))
      exact decRound (wrapN (Nat.lt_of_le_of_lt HI.out.1 HN.out)) HN.out rfl HB.out HI.out (.inl hm) h1.out
    · have hm0 : m = 0 := by omega
      subst hm0
      clear hm
      cases out with
      | nil =>
        go_wp2_with (first
          | (at_builtin
             refine wpList_app u8d rfl (.tmp 18) (.tmp 19) 39 rfl (AppTo.refl (Own.lit wr 5 #[.int .u8 48] [48] rfl (by simp [maxLen]) _ _ rfl rfl)) rfl [] rfl ((HO.out.alloc _).src u8d) (by simp) ?_
             intro v1 w1 h1'
             have h1 := Lib.hid h1'
             clear h1'))
        exact decRound (m := 0) rfl HN.out rfl HB.out HI.out (.inr rfl) h1.out
      | cons c out =>
        have hz : (((out.length : Nat) : Int) + 1 == 0) = false := by rw [beq_eq_false_iff_ne]; omega
        go_wp2_with (first
          | (refine wpList_toString u8d rfl (.tmp 21) _ rfl string9d rfl HO.out ?_))
        go_ret
        rw [HI.out.done (by simp)]
        exact ⟨rfl, HB.out⟩

theorem unsigned_any (n : Nat) (hn : n < 18446744073709551616) (w : World) :
    Calls Try.prog 11 #[.int .u64 n] w fun e w' => e = .returned (.string ⟨(Dig.dig n).toArray⟩) ∧ Below w.heap.size w w' := by
  have HN := Lib.hid hn
  clear hn
  go_enter Try.func11, Try.ntmps11
  go_wp2_with (go_at_call 19; refine (decimals_any n HN.out _).mono ?_; rintro e w1 ⟨rfl, b1⟩; have B1 := Lib.hid b1; clear b1)
  go_ret
  exact ⟨rfl, B1.out⟩
end Go.Proofs.Ytifemmjblamfkaa
