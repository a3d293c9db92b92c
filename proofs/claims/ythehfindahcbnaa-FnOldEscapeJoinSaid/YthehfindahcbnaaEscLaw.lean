/- The law 'escaping goes part by part': the calls above the walk. -/
import Derived.Test.YthehfindahcbnaaEscWalk
import Derived.WalkSpells
import Derived.WalkLawsBesides
namespace Go.Proofs.Ythehfindahcbnaa
open Go.RowKit

theorem zzEscape_any (v0 : Value) (l0 l : List UInt8) (b n cap : Nat) (w : World) (hn : n = l.length) (hown : Own w v0 l0) (hb : b < w.heap.size) (hne : ∀ a, baseOf v0 = some a → a.block ≠ b)
    (hbytes : Bytes w b 0 l) (hlen : l.length ≤ cap) (hcap : cap ≤ 9223372036854775807) (hsz : l0.length + 6 * l.length ≤ 1000000000) :
    Calls Try.prog 12 #[v0, .slice (some ⟨b, 0, none⟩) n cap] w fun e w' => ∃ v', e = .returned v' ∧ AppTo w v0 w' v' (l0 ++ Esc.H l) := by
  have H := Lib.hid (htmlEscape_any v0 l0 l b n cap w hn hown hb hne hbytes hlen hcap hsz)
  clear hn hown hne hbytes hlen hcap hsz
  go_enter Try.func12, Try.ntmps12
  go_wp2_with (go_at_call 13; refine H.out.mono ?_; rintro e w' ⟨v', rfl, h⟩; have H2 := Lib.hid h; clear h)
  go_ret
  exact ⟨_, rfl, H2.out⟩

theorem string9 : Try.prog.underlying 9 = some .string := by kernel_rfl

set_option maxHeartbeats 400000 in
theorem oldSafe_any (s t R : ByteArray) (w : World) (hs : s.size ≤ 100000) (ht : t.size ≤ 100000) (hR : R.data.toList = s.data.toList ++ Esc.H t.data.toList) :
    Calls Try.prog 8 #[.string s, .string t] w fun e w' => e = .returned (.string R) ∧ Below w.heap.size w w' := by
  have HR := Lib.hid hR
  clear hR
  go_enter Try.func8, Try.ntmps8
  go_wp2_with (first
    | (refine wpList_conv u8 rfl (.tmp 5) 9 rfl string9 rfl (by unfold maxLen; omega) ?_; intro c1 w1 o1 b1 z1; have O1 := Lib.hid o1; have Z1 := Lib.hid z1; have B1 := Lib.hid b1; clear o1 z1 b1)
    | (refine wpList_conv u8 rfl (.tmp 7) 9 rfl string9 rfl (by unfold maxLen; omega) ?_; intro c2 w2 o2 b2 z2; have O2 := Lib.hid o2; have Z2 := Lib.hid z2; have B2 := Lib.hid b2; clear o2 z2 b2)
    | (go_at_call 12; have X := O2.out.slice; refine (zzEscape_any _ s.data.toList t.data.toList _ _ _ _ X.1 (O1.out.below B2.out ?a1) X.2.2.2.1 ?a2 X.2.2.2.2 X.2.1 (by have := X.2.2.1; unfold maxLen at this; omega) (by rw [size_eq, size_eq]; omega)).mono ?_; rotate_right; rintro e w3 ⟨v3, rfl, h3⟩; have H3 := Lib.hid h3; clear h3 X)
    | (refine wpList_toString u8 rfl (.tmp 9) 9 rfl string9 rfl H3.out.own ?_))
  case a1 =>
    intro a ha
    simp [baseOf] at ha
    subst ha
    have := Z1.out
    show w.heap.size < w1.heap.size
    omega
  case a2 =>
    intro a ha
    simp [baseOf] at ha
    subst ha
    have := Z1.out
    simp
    omega
  go_ret
  refine ⟨?_, ?_⟩
  · exact congrArg (fun x => Ending.returned (Value.string x)) (bytes_ext (by rw [HR.out]))
  · have := Z1.out
    have := Z2.out
    exact B1.out.trans ((B2.out.mono (by omega)).trans (H3.out.kept.below (by omega) (fun a ha => by simp [baseOf] at ha; subst ha; exact Nat.le_refl _)))
end Go.Proofs.Ythehfindahcbnaa
