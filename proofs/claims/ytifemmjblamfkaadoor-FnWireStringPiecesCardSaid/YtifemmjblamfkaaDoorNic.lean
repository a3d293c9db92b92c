/- The errors of reading: a wrong character's; how they are told. -/
import Derived.Test.YtifemmjblamfkaaDoorDecR
import Derived.LaidEql
import Derived.Stop.Asserts
import Derived.RowKitTokens
namespace Go.Proofs.YtifemmjblamfkaaDoor
open Go.RowKit Go.Extern.Stop Go.Stop Go.Extern

theorem u8n : U8 Tryd.prog 45 5 := ⟨by kernel_rfl, by kernel_rfl, by kernel_rfl⟩

/-- An error of a text that is wrong. -/
def Bad (err : Value) : Prop := ∃ q, err = .iface 69 (.pointer (some ⟨q, 0, none⟩))

set_option maxRecDepth 100000 in
set_option maxHeartbeats 2000000 in
theorem nic_any (l : List UInt8) (hne : l ≠ []) (b off len cap : Nat) (t : ByteArray) (w : World) (hlen : len = l.length) (hcap : len ≤ cap) (hB : Bytes w b off l) (hb : b < w.heap.size) (hT : Lib.Utf8Tabs 2 3 w) :
    Calls Tryd.prog 19 #[.slice (some ⟨b, off, none⟩) len cap, .string t] w fun e w' => Below w.heap.size w w' ∧ ∃ err, e = .returned err ∧ Bad err := by
  have HB := Lib.hid hB
  have HN := Lib.hid hne
  subst hlen
  clear hB hne
  go_enter Tryd.func19, Tryd.ntmps19
  go_wp2_with fail
  refine (decRune_any l HN.out b off _ cap _ rfl HB.out hT).mono ?_
  rintro e w1 ⟨hb1, r, n, rfl, hr⟩
  have hn := hr.le HN.out
  have B1 := Lib.hid hb1
  have hn0 : (0 : Int) ≤ (n : Int) := by omega
  have hn1 : (n : Int) ≤ (cap : Int) := by omega
  have hn2 : (n : Int) ≤ (l.length : Int) := by omega
  have hby := (HB.out.below hb1 hb).sub 0 n
  rw [List.drop_zero, Nat.add_zero] at hby
  have hln : (l.take n).length = n := by rw [List.length_take]; omega
  obtain ⟨S, hS⟩ : ∃ S : ByteArray, S = ⟨(l.take n).toArray⟩ := ⟨_, rfl⟩
  have hcv : (convert 45 9 (.slice (some ⟨b, off, none⟩) n cap)).run Tryd.prog w1 = .ok (.string S) w1 := by
    have := hby.toStr u8n w1 9 (by kernel_rfl) cap
    rw [hln] at this
    rw [hS]
    exact this
  clear hb1 hr hby hln hS
  go_wp2_with fail
  go_ret
  exact ⟨B1.out.trans ((Below.refl _ w1).alloc B1.out.size _), _, rfl, _, rfl⟩

end Go.Proofs.YtifemmjblamfkaaDoor
