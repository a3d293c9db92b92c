/- jsonwire's AppendUnquote at any bytes. -/
import Derived.Test.YtjjbgoknmofajaaDoorUnqS
import Derived.Test.YtjjbgoknmofajaaDoorUnqG
import Derived.Test.YtjjbgoknmofajaaDoorUnqH
import Derived.Test.YtjjbgoknmofajaaDoorAppQ
import Derived.Deep.RegionLaw
namespace Go.Proofs.YtjjbgoknmofajaaDoor.Wire
open Go.RowKit Go.Proofs.YtjjbgoknmofajaaDoor

/-- Nil, or an error. -/
def ErrIs (ok : Bool) (x : Value) : Prop := (ok = true → x = .nilIface) ∧ (ok = false → ∃ u y, x = .iface u y)

theorem err_no {u : TypeId} {y : Value} : ErrIs false (.iface u y) := ⟨fun h => (by cases h), fun _ => ⟨u, y, rfl⟩⟩

/-- Between two rounds. -/
structure XInv (w : World) (v0 : Value) (l0 l : List UInt8) (v : Value) (st k : Nat) (wr : World) (out : List UInt8) (ok : Bool) (x : Value) : Prop where
  app : AppTo w v0 wr v (l0 ++ out)
  ui : UI l out st k ok
  len : out.length ≤ 3 * st
  err : ErrIs ok x

/-- What the call leaves. -/
structure URet (w : World) (v0 : Value) (l0 l : List UInt8) (e : Ending) (w' : World) : Prop where
  what : ∃ q ok v' x, Unq (l.drop 1) q ok ∧ q.length ≤ 3 * l.length + 8 ∧ AppTo w v0 w' v' (l0 ++ q) ∧ ErrIs ok x ∧ e = .returned (.tuple #[v', x])

theorem enc_bad' : Lib.encodeRune ((65533 : Nat) : Int) = bad := by decide +kernel

theorem newChar' (l : List UInt8) (hne : l ≠ []) (b off len cap : Nat) (s : ByteArray) (w : World) (hlen : len = l.length) (hB : Bytes w b off l) (hT : Lib.Utf8Tabs 3 4 w) (hlt : b < w.heap.size) (hc : l.length ≤ cap) :
    Calls Tryd.prog 61 #[.slice (some ⟨b, off, none⟩) len cap, .string s] w (Err w) := by
  subst hlen
  exact newChar_any l hne b off cap s w hB hT hlt hc

theorem newEsc' (l : List UInt8) (b off len cap : Nat) (w : World) (hlen : len = l.length) (hB : Bytes w b off l) :
    Calls Tryd.prog 64 #[.slice (some ⟨b, off, none⟩) len cap] w (Err w) := by
  subst hlen
  exact newEsc_any l b off cap w hB

theorem pref0_any (lower : Bool) (l : List UInt8) (hl : l.length < 6) (b off len cap : Nat) (w : World) (hlen : len = l.length) (hB : Bytes w b off l) :
    Calls Tryd.prog 63 #[.slice (some ⟨b, off, none⟩) len cap, .bool lower] w fun e w' => w' = w ∧ e = .returned (.bool (prefB lower l)) := by
  subst hlen
  exact prefix_any lower l hl b off cap w hB

theorem prefix0 (a : Option Addr) (len c : Nat) (lower : Bool) (w : World) (hl : len = 0) :
    Calls Tryd.prog 63 #[.slice a len c, .bool lower] w fun e w' => w' = w ∧ e = .returned (.bool true) := by
  subst hl
  go_enter Tryd.func63, Tryd.ntmps63
  go_wp2_with fail
  go_loopw [9] (fun i wr => wr = w ∧ i = .int .i64 0) (fun _ _ => 0)
  case atStart => exact ⟨rfl, rfl⟩
  case round =>
    obtain ⟨rfl, rfl⟩ := hrel
    go_wp2_with fail
    go_ret
    exact ⟨rfl, rfl⟩

theorem full' (l : List UInt8) (hne : l ≠ []) (b off len cap : Nat) (w : World) (hlen : len = l.length) (hB : Bytes w b off l) (hT : Lib.Utf8Tabs 3 4 w) (hb : b < w.heap.size) :
    Calls Tryd.prog 69 #[.slice (some ⟨b, off, none⟩) len cap] w fun e w' => e = .returned (.bool (fullB l)) ∧ Below w.heap.size w w' := by
  subst hlen
  exact fullRune_any l hne b off cap w hB hT hb

theorem parse4_none (l : List UInt8) (hl : l.length = 4) (hx : hex4 l = none) (b off len cap : Nat) (w : World) (hlen : len = 4) (hB : Bytes w b off l) :
    Calls Tryd.prog 65 #[.slice (some ⟨b, off, none⟩) len cap] w fun e w' => w' = w ∧ e = .returned (.tuple #[.int .u16 0, .bool false]) := by
  subst hlen
  refine (parse4_any l hl b off cap w hB).mono ?_
  rintro e w' ⟨rfl, rfl⟩
  exact ⟨rfl, by rw [hx]; rfl⟩

theorem parse4_some (l : List UInt8) {x : Nat} (hl : l.length = 4) (hx : hex4 l = some x) (b off len cap : Nat) (w : World) (hlen : len = 4) (hB : Bytes w b off l) :
    Calls Tryd.prog 65 #[.slice (some ⟨b, off, none⟩) len cap] w fun e w' => w' = w ∧ e = .returned (.tuple #[.int .u16 (x : Int), .bool true]) := by
  subst hlen
  refine (parse4_any l hl b off cap w hB).mono ?_
  rintro e w' ⟨rfl, rfl⟩
  exact ⟨rfl, by rw [hx]; rfl⟩

theorem noEsc34 (w : World) :
    Calls Tryd.prog 62 #[.int .u8 34] w fun e w' => w' = w ∧ e = .returned (.bool false) :=
  noEsc_any 34 w

theorem noEsc92 (w : World) :
    Calls Tryd.prog 62 #[.int .u8 92] w fun e w' => w' = w ∧ e = .returned (.bool false) :=
  noEsc_any 92 w

theorem parse4I (l : List UInt8) {x : Nat} (hl : l.length = 4) (hx : hex4 l = some x) (X : Int) (hX : (x : Int) = X) (b off len cap : Nat) (w : World) (hlen : len = 4) (hB : Bytes w b off l) :
    Calls Tryd.prog 65 #[.slice (some ⟨b, off, none⟩) len cap] w fun e w' => w' = w ∧ e = .returned (.tuple #[.int .u16 X, .bool true]) := by
  subst hX
  exact parse4_some l hl hx b off len cap w hlen hB

theorem surrI (X : Int) (w : World) (h1 : 55296 ≤ X) (h2 : X < 57344) :
    Calls Tryd.prog 66 #[.int .i32 X] w fun e w' => w' = w ∧ e = .returned (.bool true) := by
  obtain ⟨r, rfl⟩ := Int.eq_ofNat_of_zero_le (show 0 ≤ X by omega)
  have hd : decide (55296 ≤ r ∧ r < 57344) = true := decide_eq_true (by omega)
  refine (surr_any r w).mono ?_
  rintro e w' ⟨rfl, rfl⟩
  rw [hd]
  exact ⟨rfl, rfl⟩

theorem surrI_no (X : Int) (w : World) (h0 : 0 ≤ X) (h : ¬(55296 ≤ X ∧ X < 57344)) :
    Calls Tryd.prog 66 #[.int .i32 X] w fun e w' => w' = w ∧ e = .returned (.bool false) := by
  obtain ⟨r, rfl⟩ := Int.eq_ofNat_of_zero_le h0
  have hd : decide (55296 ≤ r ∧ r < 57344) = false := decide_eq_false (by omega)
  refine (surr_any r w).mono ?_
  rintro e w' ⟨rfl, rfl⟩
  rw [hd]
  exact ⟨rfl, rfl⟩

theorem dec16I (a b : Nat) (X Y : Int) (hX : (a : Int) = X) (hY : (b : Int) = Y) (ha : 55296 ≤ a ∧ a < 57344) (hb : b < 65536) (v : Nat) (V : Int) (hv : (pairV a b).getD 65533 = v) (hV : (v : Int) = V) (w : World) :
    Calls Tryd.prog 68 #[.int .i32 X, .int .i32 Y] w fun e w' => w' = w ∧ e = .returned (.int .i32 V) := by
  subst hX hY
  refine (dec16_any a b ha.1 ha.2 hb w).mono ?_
  rintro e w' ⟨rfl, rfl⟩
  rw [hv, hV]
  exact ⟨rfl, rfl⟩

theorem appRuneI (v : Value) (l : List UInt8) (r : Nat) (R : Int) (hR : (r : Int) = R) (q : List UInt8) (h1 : r ≤ 1114111) (h2 : r < 55296 ∨ 57343 < r) (hq : Lib.encodeRune (r : Int) = q) (w : World) (h : Own w v l) (hl : l.length ≤ 1000000000) :
    Calls Tryd.prog 67 #[v, .int .i32 R] w (App w v (l ++ q)) := by
  subst hR hq
  exact appendRune_any v l r h1 h2 w h hl

set_option maxRecDepth 100000 in
set_option maxHeartbeats 60000000 in
theorem appUnq_any (u1 u2 : TypeId) (x1 x2 : Value) (v0 : Value) (l0 l : List UInt8) (b n cap : Nat) (w : World) (hl : ∃ l1, l = 34 :: l1) (hn : n = l.length) (hown : Own w v0 l0) (h0 : ∀ a, baseOf v0 = some a → 5 ≤ a.block) (h5 : 5 ≤ w.heap.size)
    (hE1 : w.cell? ⟨1, 0, none⟩ = some (.iface u1 x1)) (hE2 : w.cell? ⟨2, 0, none⟩ = some (.iface u2 x2)) (hU : Lib.Utf8Tabs 3 4 w)
    (hb : b < w.heap.size) (hne : ∀ a, baseOf v0 = some a → a.block ≠ b) (hbytes : Bytes w b 0 l) (hlen : n ≤ cap) (hl0 : l0.length ≤ 100000) (hlz : l.length ≤ 100000) :
    Calls Tryd.prog 52 #[v0, .slice (some ⟨b, 0, none⟩) n cap] w (URet w v0 l0 l) := by
  have HO := Lib.hid hown
  have H0 := Lib.hid h0
  have HE1 := Lib.hid hE1
  have HE2 := Lib.hid hE2
  have HU := Lib.hid hU
  have HNE := Lib.hid hne
  have HBY := Lib.hid hbytes
  have HN := Lib.hid hn
  have hn1 : n ≤ 100000 := by omega
  obtain ⟨l1, hl⟩ := hl
  have hn2 : 1 ≤ n := by rw [hn, hl]; simp
  have hn3 : (0 : Int) < (n : Int) := by omega
  have hn4 : ((n : Int) == 0) = false := by rw [beq_eq_false_iff_ne]; omega
  have hc0 := hbytes.at0 0 (by omega)
  have hg0 : l[0]'(by omega) = 34 := by simp [hl]
  rw [hg0] at hc0
  have hui0 : UI l [] 1 1 true := UI.start (by omega)
  have HUI0 := Lib.hid hui0
  have HC0 := Lib.hid hc0
  clear hown h0 hE1 hE2 hU hne hbytes hn hl hg0 hui0 hc0
  go_enter Tryd.func52, Tryd.ntmps52
  go_wp2_with fail
  refine (grow_int v0 l0 _ n (by rfl) _ HO.out (by omega)).mono ?_
  rintro e w1 ⟨v1, rfl, k1⟩
  have hc0 := (k1.cell 0 hb HNE.out).trans HC0.out
  have K1 := Lib.hid k1
  clear k1
  go_wp2_with fail
  go_loopw [0, 5, 6, 7] (fun v x i t wr => ∃ (k st : Nat) (out : List UInt8) (bb : Bool), t = .int .i64 k ∧ k ≤ n ∧ i = .int .i64 st ∧ XInv w v0 l0 l v st k wr out bb x) (fun _ _ _ t _ => n - (intOf t).toNat)
  case atStart => exact ⟨1, 1, [], true, rfl, hn2, rfl, by rw [List.append_nil]; exact K1.out, HUI0.out, Nat.zero_le _, fun _ => rfl, fun h => by cases h⟩
  case round =>
    obtain ⟨k0, st, out, bb, rfl, hk0, rfl, hinv⟩ := hrel
    obtain ⟨happ, hui, hol, herr⟩ := hinv
    have HAP0 := Lib.hid happ
    have HUI1 := Lib.hid hui
    have HErr := Lib.hid herr
    have hst0 := hui.2.1
    have hst1 := hui.1
    clear happ hui herr
    have hE2w := (HAP0.out.cell 0 (by omega) (fun x hx => by have := H0.out x hx; omega)).trans HE2.out
    have hbw := Lib.hid (HBY.out.kept HAP0.out.kept hb HNE.out)
    by_cases hk02 : k0 < n
    · have hk03 : (k0 : Int) < (n : Int) := by omega
      have hk04 : (0 : Int) ≤ (k0 : Int) := by omega
      go_wp2_with fail
      go_loopw [7] (fun t w2 => ∃ k : Nat, t = .int .i64 k ∧ k0 ≤ k ∧ k ≤ n ∧ UI l out st k bb ∧ w2 = wr) (fun t _ => n - (intOf t).toNat)
      case atStart => exact ⟨k0, rfl, Nat.le_refl _, hk0, HUI1.out, rfl⟩
      case round =>
        obtain ⟨k, rfl, hk1, hk, hui, rfl⟩ := hrel
        have HUI := Lib.hid hui
        clear hui
        have hst : st ≤ k := by omega
        by_cases hk2 : k < n
        · have hkl : k < l.length := by have := HN.out; omega
          have hk3 : (0 : Int) ≤ (k : Int) := by omega
          have hk4 : (k : Int) < (n : Int) := by omega
          have hlt : decide ((k : Int) < (n : Int)) = true := decide_eq_true hk4
          have hcs1 : (st : Int) < (cap : Int) := by omega
          have hc := hbw.out.at0 k hkl
          have hd := List.drop_eq_getElem_cons hkl
          obtain ⟨c, hcc⟩ : ∃ c, c = l[k] := ⟨_, rfl⟩
          rw [← hcc] at hc hd
          obtain ⟨a, ha⟩ : ∃ a : Nat, a = c.toNat := ⟨_, rfl⟩
          rw [← ha] at hc
          have HD := Lib.hid hd
          have HA := Lib.hid ha
          clear hcc hd ha
          cases hpl : plainB a with
          | true =>
            have hp : a < 128 ∧ 32 ≤ a ∧ a ≠ 92 ∧ a ≠ 34 := by simpa [plainB, and_assoc] using hpl
            have hstep : step (l.drop k) = .go 1 ((l.drop k).take 1) true := step_char HD.out (fun e => hp.2.2.2 (by rw [HA.out, e]; rfl)) (fun e => hp.2.2.1 (by rw [HA.out, e]; rfl)) (by rw [← HA.out]; exact hp.2.1) (.inl ⟨rfl, c, _, HD.out, by rw [← HA.out]; exact hp.1⟩)
            have hnx := HUI.out.plain hstep (by omega)
            have HNX := Lib.hid hnx
            have HPL := Lib.hid hpl
            clear hp hstep hnx hpl
            as_aux_lemma =>
              go_wp2_with (first
                | (go_at_call 62
                   refine (noEsc_any a _).mono ?_
                   rintro e w2 ⟨rfl, rfl⟩
                   rw [HPL.out]))
              exact ⟨⟨k + 1, by simp, by omega, by omega, HNX.out, trivial⟩, by simp only [intOf]; omega⟩
          | false =>
            have HPL := Lib.hid hpl
            have hnp : ¬ (a < 128 ∧ 32 ≤ a ∧ a ≠ 92 ∧ a ≠ 34) := by simpa [plainB, and_assoc] using hpl
            clear hpl
            by_cases h34 : a = 34
            · subst h34
              have hc34 : c = 34 := UInt8.toNat_inj.1 (by rw [← HA.out]; rfl)
              have hstep : step (l.drop k) = .stop [] (l.drop (k + 1)).isEmpty := step_quote (by rw [HD.out, hc34])
              by_cases hlast : k + 1 < n
              · have hl2 : (k : Int) + 1 < (n : Int) := by omega
                have hemp : (l.drop (k + 1)).isEmpty = false := by
                  rw [List.isEmpty_eq_false_iff]
                  intro e
                  have := congrArg List.length e
                  rw [List.length_drop, List.length_nil] at this
                  have := HN.out
                  omega
                rw [hemp] at hstep
                have hu := HUI.out.stop hstep
                simp only [List.append_nil, Bool.and_false] at hu
                have HUN := Lib.hid hu
                clear hu
                have hne1 : l.drop (k + 1) ≠ [] := fun e => by rw [e] at hemp; cases hemp
                have HNe1 := Lib.hid hne1
                clear hc34 hstep hnp hne1 hemp
                as_aux_lemma =>
                  go_wp2_with (first
                    | (go_at_call 62
                       refine (noEsc34 _).mono ?_
                       rintro e w2 ⟨rfl, rfl⟩)
                    | (at_builtin
                       refine wpList_app u8q rfl (.tmp 77) (.tmp 81) 39 rfl HAP0.out (by rfl) ((l.drop st).take (k - st)) rfl (by exact hbw.out.src_in0 u8q st (k - st) _ (by omega)) (by simp; omega) ?_
                       intro v3 w3 k3
                       have K3 := Lib.hid k3
                       have hE2x := (k3.cell 0 (by omega) (fun x hx => by have := H0.out x hx; omega)).trans HE2.out
                       have HB3 := Lib.hid (HBY.out.kept k3.kept hb HNE.out)
                       clear k3)
                    | (go_at_call 61
                       refine (newChar' (l.drop (k + 1)) HNe1.out b (k + 1) _ _ _ _ (by rw [List.length_drop, HN.out]) (by have := HB3.out.sub (k + 1) (l.length - (k + 1)); rw [Nat.zero_add, List.take_of_length_le (by rw [List.length_drop]; omega)] at this; exact this) (utf8_app HU.out K3.out h5 H0.out) (by have := K3.out.kept.size; omega) (by rw [List.length_drop]; have := HN.out; omega)).mono ?_
                       rintro e w4 ⟨b4, ue, xe, rfl⟩
                       have K4 := Lib.hid (app_below K3.out b4)
                       clear b4))
                  go_ret2
                  exact ⟨_, _, _, _, HUN.out, (by simp only [List.length_append, List.length_take, List.length_drop]; have := HN.out; omega), by simpa [List.append_assoc] using K4.out, err_no, rfl⟩
              · have hl2 : ¬ (k : Int) + 1 < (n : Int) := by omega
                have hemp : l.drop (k + 1) = [] := List.drop_of_length_le (by have := HN.out; omega)
                rw [hemp] at hstep
                have hu := HUI.out.stop hstep
                simp only [List.append_nil, List.isEmpty_nil, Bool.and_true] at hu
                have HUN := Lib.hid hu
                clear hu hc34 hstep hnp hemp
                as_aux_lemma =>
                  go_wp2_with (first
                    | (go_at_call 62
                       refine (noEsc34 _).mono ?_
                       rintro e w2 ⟨rfl, rfl⟩)
                    | (at_builtin
                       refine wpList_app u8q rfl (.tmp 77) (.tmp 81) 39 rfl HAP0.out (by rfl) ((l.drop st).take (k - st)) rfl (by exact hbw.out.src_in0 u8q st (k - st) _ (by omega)) (by simp; omega) ?_
                       intro v3 w3 k3
                       have K3 := Lib.hid k3
                       have hE2x := (k3.cell 0 (by omega) (fun x hx => by have := H0.out x hx; omega)).trans HE2.out
                       have HB3 := Lib.hid (HBY.out.kept k3.kept hb HNE.out)
                       clear k3))
                  go_ret2
                  exact ⟨_, _, _, _, HUN.out, (by simp only [List.length_append, List.length_take, List.length_drop]; have := HN.out; omega), by simpa [List.append_assoc] using K3.out, HErr.out, rfl⟩
            · have n34 : ((a : Int) == 34) = false := by rw [beq_eq_false_iff_ne]; omega
              have hsub : Bytes wr b k (l.drop k) := by
                have := hbw.out.sub k (l.length - k)
                rw [Nat.zero_add, List.take_of_length_le (by rw [List.length_drop]; omega)] at this
                exact this
              have HSub := Lib.hid hsub
              have HUw := Lib.hid (utf8_app HU.out HAP0.out h5 H0.out)
              clear hsub
              by_cases h92 : a = 92
              · subst h92
                have hc92 : c = 92 := UInt8.toNat_inj.1 (by rw [← HA.out]; rfl)
                rw [hc92] at HD
                clear hc92 hnp
                by_cases hs2 : n < k + 2
                · have i2 : (n : Int) < (k : Int) + 2 := by omega
                  have hone : l.drop k = [92] := by rw [HD.out, List.drop_of_length_le (by have := HN.out; omega)]
                  have hu := HUI.out.stop (step_short hone)
                  simp only [List.append_nil, Bool.and_false] at hu
                  have HUN := Lib.hid hu
                  clear hu
                  clear hone
                  as_aux_lemma =>
                    go_wp2_with (first
                      | (go_at_call 62
                         refine (noEsc92 _).mono ?_
                         rintro e w2 ⟨rfl, rfl⟩)
                      | (go_at_call 38
                         refine (decRune_any (l.drop k) (by rw [HD.out]; exact List.cons_ne_nil _ _) b k (n - k) (cap - k) _ (by rw [List.length_drop, HN.out]) HSub.out HUw.out).mono ?_
                         rintro e w2 ⟨b2, r, rn, rfl, hread⟩
                         have HAP := Lib.hid (app_below HAP0.out b2)
                         have HBB := Lib.hid (HBY.out.kept HAP.out.kept hb HNE.out)
                         obtain ⟨q1, q2, q3⟩ := hread.back 1 (.inl ⟨rfl, 92, _, HD.out, by decide⟩)
                         have q4 : r = 92 := by rw [q3, HD.out]; rfl
                         subst q1
                         subst q4
                         clear b2 hread q2 q3)
                      | (at_builtin
                         refine wpList_app u8q rfl (.tmp 112) (.tmp 116) 39 rfl HAP.out (by rfl) ((l.drop st).take (k - st)) rfl (by exact HBB.out.src_in0 u8q st (k - st) _ (by omega)) (by simp; omega) ?_
                         intro v3 w3 k3
                         have K3 := Lib.hid k3
                         have hE2x := (k3.cell 0 (by omega) (fun x hx => by have := H0.out x hx; omega)).trans HE2.out
                         have HB3 := Lib.hid (HBY.out.kept k3.kept hb HNE.out)
                         clear k3))
                    go_big_quiet (fail)
                    go_wp2_with fail
                    go_ret2
                    refine ⟨_, _, v3, _, HUN.out, (by simp only [List.length_append, List.length_take, List.length_drop]; have := HN.out; omega), ?_, err_no, rfl⟩
                    have hk := K3.out
                    exact app_drewN (by simpa [List.append_assoc] using hk) _
                · have i2 : ¬ (n : Int) < (k : Int) + 2 := by omega
                  have hkl1 : k + 1 < l.length := by have := HN.out; omega
                  have hd2 := List.drop_eq_getElem_cons hkl1
                  obtain ⟨c2, hcc2⟩ : ∃ c2, c2 = l[k + 1] := ⟨_, rfl⟩
                  obtain ⟨a2, ha2⟩ : ∃ a2 : Nat, a2 = c2.toNat := ⟨_, rfl⟩
                  rw [← hcc2] at hd2
                  have hl2 : l.drop k = 92 :: c2 :: l.drop (k + 2) := by rw [HD.out, hd2]
                  have HL2 := Lib.hid hl2
                  have HA2 := Lib.hid ha2
                  have HC2 := Lib.hid hcc2
                  clear hd2 hcc2 ha2 hl2
                  by_cases s34 : a2 = 34
                  · subst s34
                    have hcv : c2 = 34 := UInt8.toNat_inj.1 (by rw [← HA2.out]; rfl)
                    rw [hcv] at HL2
                    have hstep : step (l.drop k) = .go 2 [34] true := step_simple HL2.out (by decide)
                    have hnx := HUI.out.esc hstep (by omega)
                    rw [Bool.and_true] at hnx
                    have HNX := Lib.hid hnx
                    clear hcv hstep hnx
                    as_aux_lemma =>
                      go_wp2_with (first
                        | (go_at_call 62
                           refine (noEsc92 _).mono ?_
                           rintro e w2 ⟨rfl, rfl⟩)
                        | (go_at_call 38
                           refine (decRune_any (l.drop k) (by rw [HD.out]; exact List.cons_ne_nil _ _) b k (n - k) (cap - k) _ (by rw [List.length_drop, HN.out]) HSub.out HUw.out).mono ?_
                           rintro e w2 ⟨b2, r, rn, rfl, hread⟩
                           have HAP := Lib.hid (app_below HAP0.out b2)
                           have HBB := Lib.hid (HBY.out.kept HAP.out.kept hb HNE.out)
                           obtain ⟨q1, q2, q3⟩ := hread.back 1 (.inl ⟨rfl, 92, _, HD.out, by decide⟩)
                           have q4 : r = 92 := by rw [q3, HD.out]; rfl
                           subst q1
                           subst q4
                           clear b2 hread q2 q3)
                        | (at_builtin
                           refine wpList_app u8q rfl (.tmp 112) (.tmp 116) 39 rfl HAP.out (by rfl) ((l.drop st).take (k - st)) rfl (by exact HBB.out.src_in0 u8q st (k - st) _ (by omega)) (by simp; omega) ?_
                           intro v3 w3 k3
                           have K3 := Lib.hid k3
                           have hE2x := (k3.cell 0 (by omega) (fun x hx => by have := H0.out x hx; omega)).trans HE2.out
                           have HB3 := Lib.hid (HBY.out.kept k3.kept hb HNE.out)
                           have hc2 := HB3.out.at0 (k + 1) hkl1
                           rw [← HC2.out, ← HA2.out] at hc2
                           clear k3)
                        | (at_builtin
                           refine wpList_app u8q rfl (.tmp 144) (.tmp 146) 39 rfl (K3.out.alloc _) (by rfl) [34] (by rfl) (by exact src_block u8q (by exact heap_alloc_new w3 _) [34] (by rfl) 1) (by simp; omega) ?_
                           intro v4 w4 k4
                           have K4 := Lib.hid k4
                           clear k4))
                      exact ⟨⟨k + 2, k + 2, _, bb, by simp, by omega, by simp, by simpa [List.append_assoc] using K4.out, by simpa [List.append_assoc] using HNX.out, by simp only [List.length_append, List.length_take, List.length_drop, List.length_cons, List.length_nil]; omega, HErr.out⟩, by simp only [intOf]; omega⟩
                  have m34 : ((a2 : Int) == 34) = false := by rw [beq_eq_false_iff_ne]; omega
                  by_cases s92 : a2 = 92
                  · subst s92
                    have hcv : c2 = 92 := UInt8.toNat_inj.1 (by rw [← HA2.out]; rfl)
                    rw [hcv] at HL2
                    have hstep : step (l.drop k) = .go 2 [92] true := step_simple HL2.out (by decide)
                    have hnx := HUI.out.esc hstep (by omega)
                    rw [Bool.and_true] at hnx
                    have HNX := Lib.hid hnx
                    clear hcv hstep hnx
                    as_aux_lemma =>
                      go_wp2_with (first
                        | (go_at_call 62
                           refine (noEsc92 _).mono ?_
                           rintro e w2 ⟨rfl, rfl⟩)
                        | (go_at_call 38
                           refine (decRune_any (l.drop k) (by rw [HD.out]; exact List.cons_ne_nil _ _) b k (n - k) (cap - k) _ (by rw [List.length_drop, HN.out]) HSub.out HUw.out).mono ?_
                           rintro e w2 ⟨b2, r, rn, rfl, hread⟩
                           have HAP := Lib.hid (app_below HAP0.out b2)
                           have HBB := Lib.hid (HBY.out.kept HAP.out.kept hb HNE.out)
                           obtain ⟨q1, q2, q3⟩ := hread.back 1 (.inl ⟨rfl, 92, _, HD.out, by decide⟩)
                           have q4 : r = 92 := by rw [q3, HD.out]; rfl
                           subst q1
                           subst q4
                           clear b2 hread q2 q3)
                        | (at_builtin
                           refine wpList_app u8q rfl (.tmp 112) (.tmp 116) 39 rfl HAP.out (by rfl) ((l.drop st).take (k - st)) rfl (by exact HBB.out.src_in0 u8q st (k - st) _ (by omega)) (by simp; omega) ?_
                           intro v3 w3 k3
                           have K3 := Lib.hid k3
                           have hE2x := (k3.cell 0 (by omega) (fun x hx => by have := H0.out x hx; omega)).trans HE2.out
                           have HB3 := Lib.hid (HBY.out.kept k3.kept hb HNE.out)
                           have hc2 := HB3.out.at0 (k + 1) hkl1
                           rw [← HC2.out, ← HA2.out] at hc2
                           clear k3)
                        | (at_builtin
                           refine wpList_app u8q rfl (.tmp 144) (.tmp 146) 39 rfl (K3.out.alloc _) (by rfl) [92] (by rfl) (by exact src_block u8q (by exact heap_alloc_new w3 _) [92] (by rfl) 1) (by simp; omega) ?_
                           intro v4 w4 k4
                           have K4 := Lib.hid k4
                           clear k4))
                      exact ⟨⟨k + 2, k + 2, _, bb, by simp, by omega, by simp, by simpa [List.append_assoc] using K4.out, by simpa [List.append_assoc] using HNX.out, by simp only [List.length_append, List.length_take, List.length_drop, List.length_cons, List.length_nil]; omega, HErr.out⟩, by simp only [intOf]; omega⟩
                  have m92 : ((a2 : Int) == 92) = false := by rw [beq_eq_false_iff_ne]; omega
                  by_cases s47 : a2 = 47
                  · subst s47
                    have hcv : c2 = 47 := UInt8.toNat_inj.1 (by rw [← HA2.out]; rfl)
                    rw [hcv] at HL2
                    have hstep : step (l.drop k) = .go 2 [47] true := step_simple HL2.out (by decide)
                    have hnx := HUI.out.esc hstep (by omega)
                    rw [Bool.and_true] at hnx
                    have HNX := Lib.hid hnx
                    clear hcv hstep hnx
                    as_aux_lemma =>
                      go_wp2_with (first
                        | (go_at_call 62
                           refine (noEsc92 _).mono ?_
                           rintro e w2 ⟨rfl, rfl⟩)
                        | (go_at_call 38
                           refine (decRune_any (l.drop k) (by rw [HD.out]; exact List.cons_ne_nil _ _) b k (n - k) (cap - k) _ (by rw [List.length_drop, HN.out]) HSub.out HUw.out).mono ?_
                           rintro e w2 ⟨b2, r, rn, rfl, hread⟩
                           have HAP := Lib.hid (app_below HAP0.out b2)
                           have HBB := Lib.hid (HBY.out.kept HAP.out.kept hb HNE.out)
                           obtain ⟨q1, q2, q3⟩ := hread.back 1 (.inl ⟨rfl, 92, _, HD.out, by decide⟩)
                           have q4 : r = 92 := by rw [q3, HD.out]; rfl
                           subst q1
                           subst q4
                           clear b2 hread q2 q3)
                        | (at_builtin
                           refine wpList_app u8q rfl (.tmp 112) (.tmp 116) 39 rfl HAP.out (by rfl) ((l.drop st).take (k - st)) rfl (by exact HBB.out.src_in0 u8q st (k - st) _ (by omega)) (by simp; omega) ?_
                           intro v3 w3 k3
                           have K3 := Lib.hid k3
                           have hE2x := (k3.cell 0 (by omega) (fun x hx => by have := H0.out x hx; omega)).trans HE2.out
                           have HB3 := Lib.hid (HBY.out.kept k3.kept hb HNE.out)
                           have hc2 := HB3.out.at0 (k + 1) hkl1
                           rw [← HC2.out, ← HA2.out] at hc2
                           clear k3)
                        | (at_builtin
                           refine wpList_app u8q rfl (.tmp 144) (.tmp 146) 39 rfl (K3.out.alloc _) (by rfl) [47] (by rfl) (by exact src_block u8q (by exact heap_alloc_new w3 _) [47] (by rfl) 1) (by simp; omega) ?_
                           intro v4 w4 k4
                           have K4 := Lib.hid k4
                           clear k4))
                      exact ⟨⟨k + 2, k + 2, _, bb, by simp, by omega, by simp, by simpa [List.append_assoc] using K4.out, by simpa [List.append_assoc] using HNX.out, by simp only [List.length_append, List.length_take, List.length_drop, List.length_cons, List.length_nil]; omega, HErr.out⟩, by simp only [intOf]; omega⟩
                  have m47 : ((a2 : Int) == 47) = false := by rw [beq_eq_false_iff_ne]; omega
                  by_cases s98 : a2 = 98
                  · subst s98
                    have hcv : c2 = 98 := UInt8.toNat_inj.1 (by rw [← HA2.out]; rfl)
                    rw [hcv] at HL2
                    have hstep : step (l.drop k) = .go 2 [8] true := step_simple HL2.out (by decide)
                    have hnx := HUI.out.esc hstep (by omega)
                    rw [Bool.and_true] at hnx
                    have HNX := Lib.hid hnx
                    clear hcv hstep hnx
                    as_aux_lemma =>
                      go_wp2_with (first
                        | (go_at_call 62
                           refine (noEsc92 _).mono ?_
                           rintro e w2 ⟨rfl, rfl⟩)
                        | (go_at_call 38
                           refine (decRune_any (l.drop k) (by rw [HD.out]; exact List.cons_ne_nil _ _) b k (n - k) (cap - k) _ (by rw [List.length_drop, HN.out]) HSub.out HUw.out).mono ?_
                           rintro e w2 ⟨b2, r, rn, rfl, hread⟩
                           have HAP := Lib.hid (app_below HAP0.out b2)
                           have HBB := Lib.hid (HBY.out.kept HAP.out.kept hb HNE.out)
                           obtain ⟨q1, q2, q3⟩ := hread.back 1 (.inl ⟨rfl, 92, _, HD.out, by decide⟩)
                           have q4 : r = 92 := by rw [q3, HD.out]; rfl
                           subst q1
                           subst q4
                           clear b2 hread q2 q3)
                        | (at_builtin
                           refine wpList_app u8q rfl (.tmp 112) (.tmp 116) 39 rfl HAP.out (by rfl) ((l.drop st).take (k - st)) rfl (by exact HBB.out.src_in0 u8q st (k - st) _ (by omega)) (by simp; omega) ?_
                           intro v3 w3 k3
                           have K3 := Lib.hid k3
                           have hE2x := (k3.cell 0 (by omega) (fun x hx => by have := H0.out x hx; omega)).trans HE2.out
                           have HB3 := Lib.hid (HBY.out.kept k3.kept hb HNE.out)
                           have hc2 := HB3.out.at0 (k + 1) hkl1
                           rw [← HC2.out, ← HA2.out] at hc2
                           clear k3)
                        | (at_builtin
                           refine wpList_app u8q rfl (.tmp 152) (.tmp 153) 39 rfl (K3.out.alloc _) (by rfl) [8] (by rfl) (by exact src_block u8q (by exact heap_alloc_new w3 _) [8] (by rfl) 1) (by simp; omega) ?_
                           intro v4 w4 k4
                           have K4 := Lib.hid k4
                           clear k4))
                      exact ⟨⟨k + 2, k + 2, _, bb, by simp, by omega, by simp, by simpa [List.append_assoc] using K4.out, by simpa [List.append_assoc] using HNX.out, by simp only [List.length_append, List.length_take, List.length_drop, List.length_cons, List.length_nil]; omega, HErr.out⟩, by simp only [intOf]; omega⟩
                  have m98 : ((a2 : Int) == 98) = false := by rw [beq_eq_false_iff_ne]; omega
                  by_cases s102 : a2 = 102
                  · subst s102
                    have hcv : c2 = 102 := UInt8.toNat_inj.1 (by rw [← HA2.out]; rfl)
                    rw [hcv] at HL2
                    have hstep : step (l.drop k) = .go 2 [12] true := step_simple HL2.out (by decide)
                    have hnx := HUI.out.esc hstep (by omega)
                    rw [Bool.and_true] at hnx
                    have HNX := Lib.hid hnx
                    clear hcv hstep hnx
                    as_aux_lemma =>
                      go_wp2_with (first
                        | (go_at_call 62
                           refine (noEsc92 _).mono ?_
                           rintro e w2 ⟨rfl, rfl⟩)
                        | (go_at_call 38
                           refine (decRune_any (l.drop k) (by rw [HD.out]; exact List.cons_ne_nil _ _) b k (n - k) (cap - k) _ (by rw [List.length_drop, HN.out]) HSub.out HUw.out).mono ?_
                           rintro e w2 ⟨b2, r, rn, rfl, hread⟩
                           have HAP := Lib.hid (app_below HAP0.out b2)
                           have HBB := Lib.hid (HBY.out.kept HAP.out.kept hb HNE.out)
                           obtain ⟨q1, q2, q3⟩ := hread.back 1 (.inl ⟨rfl, 92, _, HD.out, by decide⟩)
                           have q4 : r = 92 := by rw [q3, HD.out]; rfl
                           subst q1
                           subst q4
                           clear b2 hread q2 q3)
                        | (at_builtin
                           refine wpList_app u8q rfl (.tmp 112) (.tmp 116) 39 rfl HAP.out (by rfl) ((l.drop st).take (k - st)) rfl (by exact HBB.out.src_in0 u8q st (k - st) _ (by omega)) (by simp; omega) ?_
                           intro v3 w3 k3
                           have K3 := Lib.hid k3
                           have hE2x := (k3.cell 0 (by omega) (fun x hx => by have := H0.out x hx; omega)).trans HE2.out
                           have HB3 := Lib.hid (HBY.out.kept k3.kept hb HNE.out)
                           have hc2 := HB3.out.at0 (k + 1) hkl1
                           rw [← HC2.out, ← HA2.out] at hc2
                           clear k3)
                        | (at_builtin
                           refine wpList_app u8q rfl (.tmp 159) (.tmp 160) 39 rfl (K3.out.alloc _) (by rfl) [12] (by rfl) (by exact src_block u8q (by exact heap_alloc_new w3 _) [12] (by rfl) 1) (by simp; omega) ?_
                           intro v4 w4 k4
                           have K4 := Lib.hid k4
                           clear k4))
                      exact ⟨⟨k + 2, k + 2, _, bb, by simp, by omega, by simp, by simpa [List.append_assoc] using K4.out, by simpa [List.append_assoc] using HNX.out, by simp only [List.length_append, List.length_take, List.length_drop, List.length_cons, List.length_nil]; omega, HErr.out⟩, by simp only [intOf]; omega⟩
                  have m102 : ((a2 : Int) == 102) = false := by rw [beq_eq_false_iff_ne]; omega
                  by_cases s110 : a2 = 110
                  · subst s110
                    have hcv : c2 = 110 := UInt8.toNat_inj.1 (by rw [← HA2.out]; rfl)
                    rw [hcv] at HL2
                    have hstep : step (l.drop k) = .go 2 [10] true := step_simple HL2.out (by decide)
                    have hnx := HUI.out.esc hstep (by omega)
                    rw [Bool.and_true] at hnx
                    have HNX := Lib.hid hnx
                    clear hcv hstep hnx
                    as_aux_lemma =>
                      go_wp2_with (first
                        | (go_at_call 62
                           refine (noEsc92 _).mono ?_
                           rintro e w2 ⟨rfl, rfl⟩)
                        | (go_at_call 38
                           refine (decRune_any (l.drop k) (by rw [HD.out]; exact List.cons_ne_nil _ _) b k (n - k) (cap - k) _ (by rw [List.length_drop, HN.out]) HSub.out HUw.out).mono ?_
                           rintro e w2 ⟨b2, r, rn, rfl, hread⟩
                           have HAP := Lib.hid (app_below HAP0.out b2)
                           have HBB := Lib.hid (HBY.out.kept HAP.out.kept hb HNE.out)
                           obtain ⟨q1, q2, q3⟩ := hread.back 1 (.inl ⟨rfl, 92, _, HD.out, by decide⟩)
                           have q4 : r = 92 := by rw [q3, HD.out]; rfl
                           subst q1
                           subst q4
                           clear b2 hread q2 q3)
                        | (at_builtin
                           refine wpList_app u8q rfl (.tmp 112) (.tmp 116) 39 rfl HAP.out (by rfl) ((l.drop st).take (k - st)) rfl (by exact HBB.out.src_in0 u8q st (k - st) _ (by omega)) (by simp; omega) ?_
                           intro v3 w3 k3
                           have K3 := Lib.hid k3
                           have hE2x := (k3.cell 0 (by omega) (fun x hx => by have := H0.out x hx; omega)).trans HE2.out
                           have HB3 := Lib.hid (HBY.out.kept k3.kept hb HNE.out)
                           have hc2 := HB3.out.at0 (k + 1) hkl1
                           rw [← HC2.out, ← HA2.out] at hc2
                           clear k3)
                        | (at_builtin
                           refine wpList_app u8q rfl (.tmp 166) (.tmp 167) 39 rfl (K3.out.alloc _) (by rfl) [10] (by rfl) (by exact src_block u8q (by exact heap_alloc_new w3 _) [10] (by rfl) 1) (by simp; omega) ?_
                           intro v4 w4 k4
                           have K4 := Lib.hid k4
                           clear k4))
                      exact ⟨⟨k + 2, k + 2, _, bb, by simp, by omega, by simp, by simpa [List.append_assoc] using K4.out, by simpa [List.append_assoc] using HNX.out, by simp only [List.length_append, List.length_take, List.length_drop, List.length_cons, List.length_nil]; omega, HErr.out⟩, by simp only [intOf]; omega⟩
                  have m110 : ((a2 : Int) == 110) = false := by rw [beq_eq_false_iff_ne]; omega
                  by_cases s114 : a2 = 114
                  · subst s114
                    have hcv : c2 = 114 := UInt8.toNat_inj.1 (by rw [← HA2.out]; rfl)
                    rw [hcv] at HL2
                    have hstep : step (l.drop k) = .go 2 [13] true := step_simple HL2.out (by decide)
                    have hnx := HUI.out.esc hstep (by omega)
                    rw [Bool.and_true] at hnx
                    have HNX := Lib.hid hnx
                    clear hcv hstep hnx
                    as_aux_lemma =>
                      go_wp2_with (first
                        | (go_at_call 62
                           refine (noEsc92 _).mono ?_
                           rintro e w2 ⟨rfl, rfl⟩)
                        | (go_at_call 38
                           refine (decRune_any (l.drop k) (by rw [HD.out]; exact List.cons_ne_nil _ _) b k (n - k) (cap - k) _ (by rw [List.length_drop, HN.out]) HSub.out HUw.out).mono ?_
                           rintro e w2 ⟨b2, r, rn, rfl, hread⟩
                           have HAP := Lib.hid (app_below HAP0.out b2)
                           have HBB := Lib.hid (HBY.out.kept HAP.out.kept hb HNE.out)
                           obtain ⟨q1, q2, q3⟩ := hread.back 1 (.inl ⟨rfl, 92, _, HD.out, by decide⟩)
                           have q4 : r = 92 := by rw [q3, HD.out]; rfl
                           subst q1
                           subst q4
                           clear b2 hread q2 q3)
                        | (at_builtin
                           refine wpList_app u8q rfl (.tmp 112) (.tmp 116) 39 rfl HAP.out (by rfl) ((l.drop st).take (k - st)) rfl (by exact HBB.out.src_in0 u8q st (k - st) _ (by omega)) (by simp; omega) ?_
                           intro v3 w3 k3
                           have K3 := Lib.hid k3
                           have hE2x := (k3.cell 0 (by omega) (fun x hx => by have := H0.out x hx; omega)).trans HE2.out
                           have HB3 := Lib.hid (HBY.out.kept k3.kept hb HNE.out)
                           have hc2 := HB3.out.at0 (k + 1) hkl1
                           rw [← HC2.out, ← HA2.out] at hc2
                           clear k3)
                        | (at_builtin
                           refine wpList_app u8q rfl (.tmp 173) (.tmp 174) 39 rfl (K3.out.alloc _) (by rfl) [13] (by rfl) (by exact src_block u8q (by exact heap_alloc_new w3 _) [13] (by rfl) 1) (by simp; omega) ?_
                           intro v4 w4 k4
                           have K4 := Lib.hid k4
                           clear k4))
                      exact ⟨⟨k + 2, k + 2, _, bb, by simp, by omega, by simp, by simpa [List.append_assoc] using K4.out, by simpa [List.append_assoc] using HNX.out, by simp only [List.length_append, List.length_take, List.length_drop, List.length_cons, List.length_nil]; omega, HErr.out⟩, by simp only [intOf]; omega⟩
                  have m114 : ((a2 : Int) == 114) = false := by rw [beq_eq_false_iff_ne]; omega
                  by_cases s116 : a2 = 116
                  · subst s116
                    have hcv : c2 = 116 := UInt8.toNat_inj.1 (by rw [← HA2.out]; rfl)
                    rw [hcv] at HL2
                    have hstep : step (l.drop k) = .go 2 [9] true := step_simple HL2.out (by decide)
                    have hnx := HUI.out.esc hstep (by omega)
                    rw [Bool.and_true] at hnx
                    have HNX := Lib.hid hnx
                    clear hcv hstep hnx
                    as_aux_lemma =>
                      go_wp2_with (first
                        | (go_at_call 62
                           refine (noEsc92 _).mono ?_
                           rintro e w2 ⟨rfl, rfl⟩)
                        | (go_at_call 38
                           refine (decRune_any (l.drop k) (by rw [HD.out]; exact List.cons_ne_nil _ _) b k (n - k) (cap - k) _ (by rw [List.length_drop, HN.out]) HSub.out HUw.out).mono ?_
                           rintro e w2 ⟨b2, r, rn, rfl, hread⟩
                           have HAP := Lib.hid (app_below HAP0.out b2)
                           have HBB := Lib.hid (HBY.out.kept HAP.out.kept hb HNE.out)
                           obtain ⟨q1, q2, q3⟩ := hread.back 1 (.inl ⟨rfl, 92, _, HD.out, by decide⟩)
                           have q4 : r = 92 := by rw [q3, HD.out]; rfl
                           subst q1
                           subst q4
                           clear b2 hread q2 q3)
                        | (at_builtin
                           refine wpList_app u8q rfl (.tmp 112) (.tmp 116) 39 rfl HAP.out (by rfl) ((l.drop st).take (k - st)) rfl (by exact HBB.out.src_in0 u8q st (k - st) _ (by omega)) (by simp; omega) ?_
                           intro v3 w3 k3
                           have K3 := Lib.hid k3
                           have hE2x := (k3.cell 0 (by omega) (fun x hx => by have := H0.out x hx; omega)).trans HE2.out
                           have HB3 := Lib.hid (HBY.out.kept k3.kept hb HNE.out)
                           have hc2 := HB3.out.at0 (k + 1) hkl1
                           rw [← HC2.out, ← HA2.out] at hc2
                           clear k3)
                        | (at_builtin
                           refine wpList_app u8q rfl (.tmp 180) (.tmp 181) 39 rfl (K3.out.alloc _) (by rfl) [9] (by rfl) (by exact src_block u8q (by exact heap_alloc_new w3 _) [9] (by rfl) 1) (by simp; omega) ?_
                           intro v4 w4 k4
                           have K4 := Lib.hid k4
                           clear k4))
                      exact ⟨⟨k + 2, k + 2, _, bb, by simp, by omega, by simp, by simpa [List.append_assoc] using K4.out, by simpa [List.append_assoc] using HNX.out, by simp only [List.length_append, List.length_take, List.length_drop, List.length_cons, List.length_nil]; omega, HErr.out⟩, by simp only [intOf]; omega⟩
                  have m116 : ((a2 : Int) == 116) = false := by rw [beq_eq_false_iff_ne]; omega
                  by_cases s117 : a2 = 117
                  · subst s117
                    have hcv : c2 = 117 := UInt8.toNat_inj.1 (by rw [← HA2.out]; rfl)
                    rw [hcv] at HL2
                    clear hcv
                    have hdl : (l.drop k).length = n - k := by rw [List.length_drop, HN.out]
                    have HDL := Lib.hid hdl
                    clear hdl
                    by_cases hs6 : n < k + 6
                    · have i6 : (n : Int) < (k : Int) + 6 := by omega
                      have hu := HUI.out.stop (step_u_short HL2.out (by rw [HDL.out]; omega))
                      simp only [List.append_nil, Bool.and_false] at hu
                      have HUN := Lib.hid hu
                      clear hu
                      as_aux_lemma =>
                        go_wp2_with (first
                          | (go_at_call 62
                             refine (noEsc92 _).mono ?_
                             rintro e w2 ⟨rfl, rfl⟩)
                          | (go_at_call 38
                             refine (decRune_any (l.drop k) (by rw [HD.out]; exact List.cons_ne_nil _ _) b k (n - k) (cap - k) _ (by rw [List.length_drop, HN.out]) HSub.out HUw.out).mono ?_
                             rintro e w2 ⟨b2, r, rn, rfl, hread⟩
                             have HAP := Lib.hid (app_below HAP0.out b2)
                             have HBB := Lib.hid (HBY.out.kept HAP.out.kept hb HNE.out)
                             obtain ⟨q1, q2, q3⟩ := hread.back 1 (.inl ⟨rfl, 92, _, HD.out, by decide⟩)
                             have q4 : r = 92 := by rw [q3, HD.out]; rfl
                             subst q1
                             subst q4
                             clear b2 hread q2 q3)
                          | (at_builtin
                             refine wpList_app u8q rfl (.tmp 112) (.tmp 116) 39 rfl HAP.out (by rfl) ((l.drop st).take (k - st)) rfl (by exact HBB.out.src_in0 u8q st (k - st) _ (by omega)) (by simp; omega) ?_
                             intro v3 w3 k3
                             have K3 := Lib.hid k3
                             have hE2x := (k3.cell 0 (by omega) (fun x hx => by have := H0.out x hx; omega)).trans HE2.out
                             have HB3 := Lib.hid (HBY.out.kept k3.kept hb HNE.out)
                             have hc2 := HB3.out.at0 (k + 1) hkl1
                             rw [← HC2.out, ← HA2.out] at hc2
                             clear k3))
                        refine (pref0_any false (l.drop k) (by rw [HDL.out]; omega) b k _ _ _ HDL.out.symm (by have := HB3.out.sub k (l.length - k); rw [Nat.zero_add, List.take_of_length_le (by rw [List.length_drop]; omega)] at this; exact this)).mono ?_
                        rintro e w4 ⟨rfl, rfl⟩
                        cases hpf : prefB false (l.drop k) with
                        | true =>
                          have HPF := Lib.hid hpf
                          clear hpf
                          go_wp2_with fail
                          go_big_quiet (fail)
                          go_wp2_with fail
                          go_ret2
                          refine ⟨_, _, v3, _, HUN.out, (by simp only [List.length_append, List.length_take, List.length_drop]; have := HN.out; omega), ?_, err_no, rfl⟩
                          have hk := K3.out
                          exact app_drewN (by simpa [List.append_assoc] using hk) _
                        | false =>
                          have HPF := Lib.hid hpf
                          clear hpf
                          go_wp2_with fail
                          refine (newEsc' (l.drop k) b k _ _ _ HDL.out.symm (by have := HB3.out.sub k (l.length - k); rw [Nat.zero_add, List.take_of_length_le (by rw [List.length_drop]; omega)] at this; exact this)).mono ?_
                          rintro e w5 ⟨b5, ue, xe, rfl⟩
                          have K5 := Lib.hid (app_below K3.out b5)
                          clear b5
                          go_wp2_with fail
                          go_ret2
                          exact ⟨_, _, _, _, HUN.out, (by simp only [List.length_append, List.length_take, List.length_drop]; have := HN.out; omega), by simpa [List.append_assoc] using K5.out, err_no, rfl⟩
                    · have i6 : ¬ (n : Int) < (k : Int) + 6 := by omega
                      have hl4 : ((l.drop (k + 2)).take 4).length = 4 := by rw [List.length_take, List.length_drop]; have := HN.out; omega
                      have HL4 := Lib.hid hl4
                      clear hl4
                      as_aux_lemma =>
                        go_wp2_with (first
                          | (go_at_call 62
                             refine (noEsc92 _).mono ?_
                             rintro e w2 ⟨rfl, rfl⟩)
                          | (go_at_call 38
                             refine (decRune_any (l.drop k) (by rw [HD.out]; exact List.cons_ne_nil _ _) b k (n - k) (cap - k) _ (by rw [List.length_drop, HN.out]) HSub.out HUw.out).mono ?_
                             rintro e w2 ⟨b2, r, rn, rfl, hread⟩
                             have HAP := Lib.hid (app_below HAP0.out b2)
                             have HBB := Lib.hid (HBY.out.kept HAP.out.kept hb HNE.out)
                             obtain ⟨q1, q2, q3⟩ := hread.back 1 (.inl ⟨rfl, 92, _, HD.out, by decide⟩)
                             have q4 : r = 92 := by rw [q3, HD.out]; rfl
                             subst q1
                             subst q4
                             clear b2 hread q2 q3)
                          | (at_builtin
                             refine wpList_app u8q rfl (.tmp 112) (.tmp 116) 39 rfl HAP.out (by rfl) ((l.drop st).take (k - st)) rfl (by exact HBB.out.src_in0 u8q st (k - st) _ (by omega)) (by simp; omega) ?_
                             intro v3 w3 k3
                             have K3 := Lib.hid k3
                             have hE2x := (k3.cell 0 (by omega) (fun x hx => by have := H0.out x hx; omega)).trans HE2.out
                             have HB3 := Lib.hid (HBY.out.kept k3.kept hb HNE.out)
                             have hc2 := HB3.out.at0 (k + 1) hkl1
                             rw [← HC2.out, ← HA2.out] at hc2
                             clear k3))
                        cases hx1 : hex4 ((l.drop (k + 2)).take 4) with
                        | none =>
                          have HX1 := Lib.hid hx1
                          clear hx1
                          have hu := HUI.out.stop (step_u_bad HL2.out (by rw [HDL.out]; omega) (by rw [List.drop_drop]; exact HX1.out))
                          simp only [List.append_nil, Bool.and_false] at hu
                          have HUN := Lib.hid hu
                          clear hu
                          refine (parse4_none ((l.drop (k + 2)).take 4) HL4.out HX1.out b (k + 2) _ _ _ (by omega) (by have := HB3.out.sub (k + 2) 4; rwa [Nat.zero_add] at this)).mono ?_
                          rintro e w4 ⟨rfl, rfl⟩
                          go_wp2_with fail
                          refine (newEsc' ((l.drop k).take 6) b k _ _ _ (by rw [List.length_take, HDL.out]; omega) (by have := HB3.out.sub k 6; rwa [Nat.zero_add] at this)).mono ?_
                          rintro e w5 ⟨b5, ue, xe, rfl⟩
                          have K5 := Lib.hid (app_below K3.out b5)
                          clear b5
                          go_wp2_with fail
                          go_ret2
                          exact ⟨_, _, _, _, HUN.out, (by simp only [List.length_append, List.length_take, List.length_drop]; have := HN.out; omega), by simpa [List.append_assoc] using K5.out, err_no, rfl⟩
                        | some x1 =>
                          have HX1 := Lib.hid hx1
                          have hstep := step_u_val (v := x1) HL2.out (by rw [HDL.out]; omega) (by rw [List.drop_drop]; exact HX1.out)
                          have HStep := Lib.hid hstep
                          have HB1 := Lib.hid (hex4_lt hx1)
                          obtain ⟨X, hX⟩ : ∃ X : Int, (x1 : Int) = X := ⟨_, rfl⟩
                          have hX0 : 0 ≤ X := by omega
                          have hX1 : X < 65536 := by have := HB1.out; omega
                          have HXI := Lib.hid hX
                          clear hx1 hstep hX
                          refine (parse4I ((l.drop (k + 2)).take 4) HL4.out HX1.out X HXI.out b (k + 2) _ _ _ (by omega) (by have := HB3.out.sub (k + 2) 4; rwa [Nat.zero_add] at this)).mono ?_
                          rintro e w4 ⟨rfl, rfl⟩
                          go_wp2_with fail
                          by_cases hsr : 55296 ≤ x1 ∧ x1 < 57344
                          · have HSR := Lib.hid hsr
                            clear hsr
                            refine (surrI X _ (by have := HSR.out; have := HXI.out; omega) (by have := HSR.out; have := HXI.out; omega)).mono ?_
                            rintro e w5 ⟨rfl, rfl⟩
                            by_cases hs12 : n < k + 12
                            · have i12 : (n : Int) < (k : Int) + 6 + 6 := by omega
                              by_cases hn6 : n = k + 6
                              · have HPF := Lib.hid (show prefB true (l.drop (k + 6)) = true by rw [List.drop_of_length_le (by have := HN.out; omega)]; rfl)
                                have hz0 : n - (k + 6) = 0 := by omega
                                have hz1 : (k : Int) + 6 ≤ (n : Int) := by omega
                                go_wp2_with fail
                                all_goals
                                  refine (prefix0 _ _ _ true _ (by omega)).mono ?_
                                  rintro e w6 ⟨rfl, rfl⟩
                                  as_aux_lemma =>
                                    have hst2 := HStep.out.trans (unit_cut HSR.out (by rw [HDL.out]; omega) (by rw [List.drop_drop]; exact HPF.out))
                                    have hu := HUI.out.stop hst2
                                    rw [Bool.and_false] at hu
                                    have HUN := Lib.hid hu
                                    clear hst2 hu
                                    go_wp2_with fail
                                    go_region_with (go_at_call 67; refine (appRuneI v3 _ 65533 65533 (by rfl) bad (by decide) (by decide) enc_bad' _ (K3.out.drew).own (by simp; omega)).mono ?_; rintro e w8 ⟨v8, rfl, k8⟩; have K8 := Lib.hid (K3.out.drew.trans k8); have hE2z := (K8.out.cell 0 (by omega) (fun x hx => by have := H0.out x hx; omega)).trans HE2.out; clear k8)
                                    all_goals go_wp2_with fail
                                    all_goals go_ret2
                                    all_goals exact ⟨_, _, v8, _, HUN.out, (by simp only [bad, List.length_append, List.length_take, List.length_drop, List.length_cons, List.length_nil]; have := HN.out; omega), by simpa [List.append_assoc] using K8.out, err_no, rfl⟩
                              have hn7 : (k : Int) + 6 < (n : Int) := by omega
                              have hn8 : (k : Int) + 6 < (cap : Int) := by omega
                              clear hn6
                              have hdl6 : n - (k + 6) = (l.drop (k + 6)).length := by rw [List.length_drop, HN.out]
                              have HD6 := Lib.hid hdl6
                              clear hdl6
                              go_wp2_with fail
                              refine (pref0_any true (l.drop (k + 6)) (by rw [← HD6.out]; omega) b (k + 6) _ _ _ HD6.out (by have := HB3.out.sub (k + 6) (l.length - (k + 6)); rw [Nat.zero_add, List.take_of_length_le (by rw [List.length_drop]; omega)] at this; exact this)).mono ?_
                              rintro e w6 ⟨rfl, rfl⟩
                              cases hpf : prefB true (l.drop (k + 6)) with
                              | true =>
                                have HPF := Lib.hid hpf
                                clear hpf
                                as_aux_lemma =>
                                  have hst2 := HStep.out.trans (unit_cut HSR.out (by rw [HDL.out]; omega) (by rw [List.drop_drop]; exact HPF.out))
                                  have hu := HUI.out.stop hst2
                                  rw [Bool.and_false] at hu
                                  have HUN := Lib.hid hu
                                  clear hst2 hu
                                  go_wp2_with fail
                                  go_region_with (go_at_call 67; refine (appRuneI v3 _ 65533 65533 (by rfl) bad (by decide) (by decide) enc_bad' _ (K3.out.drew).own (by simp; omega)).mono ?_; rintro e w8 ⟨v8, rfl, k8⟩; have K8 := Lib.hid (K3.out.drew.trans k8); have hE2z := (K8.out.cell 0 (by omega) (fun x hx => by have := H0.out x hx; omega)).trans HE2.out; clear k8)
                                  all_goals go_wp2_with fail
                                  all_goals go_ret2
                                  all_goals exact ⟨_, _, v8, _, HUN.out, (by simp only [bad, List.length_append, List.length_take, List.length_drop, List.length_cons, List.length_nil]; have := HN.out; omega), by simpa [List.append_assoc] using K8.out, err_no, rfl⟩
                              | false =>
                                have HPF := Lib.hid hpf
                                clear hpf
                                have hst2 := HStep.out.trans (unit_cut_no HSR.out (by rw [HDL.out]; omega) (by rw [List.drop_drop]; exact HPF.out))
                                have hnx := HUI.out.esc hst2 (by have := HN.out; omega)
                                rw [Bool.and_false] at hnx
                                have HNX := Lib.hid hnx
                                have hlq : (out ++ (l.drop st).take (k - st) ++ bad).length ≤ 3 * (k + 6) := by simp only [bad, List.length_append, List.length_take, List.length_drop, List.length_cons, List.length_nil]; omega
                                have HLQ := Lib.hid hlq
                                clear hst2 hnx hlq
                                as_aux_lemma =>
                                  go_wp2_with fail
                                  refine (newEsc' (l.drop k) b k _ _ _ HDL.out.symm (by have := HB3.out.sub k (l.length - k); rw [Nat.zero_add, List.take_of_length_le (by rw [List.length_drop]; omega)] at this; exact this)).mono ?_
                                  rintro e w5 ⟨b5, ue, xe, rfl⟩
                                  have K5 := Lib.hid (app_below K3.out b5)
                                  clear b5
                                  go_wp2_with fail
                                  refine (appRuneI v3 _ 65533 65533 (by rfl) bad (by decide) (by decide) enc_bad' _ K5.out.own (by simp; omega)).mono ?_
                                  rintro e w8 ⟨v8, rfl, k8⟩
                                  have K8 := Lib.hid (K5.out.trans k8)
                                  clear k8
                                  go_wp2_with fail
                                  exact ⟨⟨k + 6, k + 6, _, false, (by first | (simp; done) | (simp; omega)), by have := HN.out; omega, (by first | (simp; done) | (simp; omega)), by simpa [List.append_assoc] using K8.out, by simpa [List.append_assoc] using HNX.out, HLQ.out, err_no⟩, by simp only [intOf]; omega⟩
                            · have i12 : ¬ (n : Int) < (k : Int) + 6 + 6 := by omega
                              have hl8 : ((l.drop (k + 6 + 2)).take 4).length = 4 := by rw [List.length_take, List.length_drop]; have := HN.out; omega
                              have HL8 := Lib.hid hl8
                              clear hl8
                              have hk6 : k + 6 < l.length := by have := HN.out; omega
                              have hk7 : k + 6 + 1 < l.length := by have := HN.out; omega
                              obtain ⟨a6, ha6⟩ : ∃ a6 : Nat, a6 = (l[k + 6]).toNat := ⟨_, rfl⟩
                              obtain ⟨a7, ha7⟩ : ∃ a7 : Nat, a7 = (l[k + 6 + 1]).toNat := ⟨_, rfl⟩
                              have hc6 := HB3.out.at0 (k + 6) hk6
                              rw [← ha6] at hc6
                              have hc7 := HB3.out.at0 (k + 6 + 1) hk7
                              rw [← ha7] at hc7
                              have hd67 : ((l.drop k).drop 6).take 2 = [l[k + 6], l[k + 6 + 1]] := by
                                rw [List.drop_drop, List.drop_eq_getElem_cons hk6, List.drop_eq_getElem_cons hk7]
                                rfl
                              have HD67 := Lib.hid hd67
                              have HA6 := Lib.hid ha6
                              have HA7 := Lib.hid ha7
                              clear ha6 ha7 hd67
                              go_wp2_with fail
                              cases hx2 : hex4 ((l.drop (k + 6 + 2)).take 4) with
                              | none =>
                                have HX2 := Lib.hid hx2
                                clear hx2
                                have hst2 := HStep.out.trans (unit_none HSR.out (by rw [HDL.out]; omega) (by rw [List.drop_drop]; exact HX2.out))
                                have hnx := HUI.out.esc hst2 (by have := HN.out; omega)
                                rw [Bool.and_false] at hnx
                                have HNX := Lib.hid hnx
                                have hlq : (out ++ (l.drop st).take (k - st) ++ bad).length ≤ 3 * (k + 6) := by simp only [bad, List.length_append, List.length_take, List.length_drop, List.length_cons, List.length_nil]; omega
                                have HLQ := Lib.hid hlq
                                clear hst2 hnx hlq
                                refine (parse4_none ((l.drop (k + 6 + 2)).take 4) HL8.out HX2.out b (k + 6 + 2) _ _ _ (by omega) (by have := HB3.out.sub (k + 6 + 2) 4; rwa [Nat.zero_add] at this)).mono ?_
                                rintro e w4 ⟨rfl, rfl⟩
                                by_cases e6 : a6 = 92
                                · subst e6
                                  by_cases e7 : a7 = 117
                                  · subst e7
                                    as_aux_lemma =>
                                      go_wp2_with fail
                                      refine (newEsc' ((l.drop k).take 12) b k _ _ _ (by rw [List.length_take, HDL.out]; omega) (by have := HB3.out.sub k 12; rwa [Nat.zero_add] at this)).mono ?_
                                      rintro e w5 ⟨b5, ue, xe, rfl⟩
                                      have K5 := Lib.hid (app_below K3.out b5)
                                      clear b5
                                      go_wp2_with fail
                                      refine (appRuneI v3 _ 65533 65533 (by rfl) bad (by decide) (by decide) enc_bad' _ K5.out.own (by simp; omega)).mono ?_
                                      rintro e w8 ⟨v8, rfl, k8⟩
                                      have K8 := Lib.hid (K5.out.trans k8)
                                      clear k8
                                      go_wp2_with fail
                                      exact ⟨⟨k + 6, k + 6, _, false, (by first | (simp; done) | (simp; omega)), by have := HN.out; omega, (by first | (simp; done) | (simp; omega)), by simpa [List.append_assoc] using K8.out, by simpa [List.append_assoc] using HNX.out, HLQ.out, err_no⟩, by simp only [intOf]; omega⟩
                                  · have z7 : ((a7 : Int) != 117) = true := by rw [bne_iff_ne]; omega
                                    have y7 : ((a7 : Int) == 117) = false := by rw [beq_eq_false_iff_ne]; omega
                                    as_aux_lemma =>
                                      go_wp2_with fail
                                      refine (newEsc' ((l.drop k).take 12) b k _ _ _ (by rw [List.length_take, HDL.out]; omega) (by have := HB3.out.sub k 12; rwa [Nat.zero_add] at this)).mono ?_
                                      rintro e w5 ⟨b5, ue, xe, rfl⟩
                                      have K5 := Lib.hid (app_below K3.out b5)
                                      clear b5
                                      go_wp2_with fail
                                      refine (appRuneI v3 _ 65533 65533 (by rfl) bad (by decide) (by decide) enc_bad' _ K5.out.own (by simp; omega)).mono ?_
                                      rintro e w8 ⟨v8, rfl, k8⟩
                                      have K8 := Lib.hid (K5.out.trans k8)
                                      clear k8
                                      go_wp2_with fail
                                      exact ⟨⟨k + 6, k + 6, _, false, (by first | (simp; done) | (simp; omega)), by have := HN.out; omega, (by first | (simp; done) | (simp; omega)), by simpa [List.append_assoc] using K8.out, by simpa [List.append_assoc] using HNX.out, HLQ.out, err_no⟩, by simp only [intOf]; omega⟩
                                · have z6 : ((a6 : Int) != 92) = true := by rw [bne_iff_ne]; omega
                                  have y6 : ((a6 : Int) == 92) = false := by rw [beq_eq_false_iff_ne]; omega
                                  as_aux_lemma =>
                                    go_wp2_with fail
                                    refine (newEsc' ((l.drop k).take 12) b k _ _ _ (by rw [List.length_take, HDL.out]; omega) (by have := HB3.out.sub k 12; rwa [Nat.zero_add] at this)).mono ?_
                                    rintro e w5 ⟨b5, ue, xe, rfl⟩
                                    have K5 := Lib.hid (app_below K3.out b5)
                                    clear b5
                                    go_wp2_with fail
                                    refine (appRuneI v3 _ 65533 65533 (by rfl) bad (by decide) (by decide) enc_bad' _ K5.out.own (by simp; omega)).mono ?_
                                    rintro e w8 ⟨v8, rfl, k8⟩
                                    have K8 := Lib.hid (K5.out.trans k8)
                                    clear k8
                                    go_wp2_with fail
                                    exact ⟨⟨k + 6, k + 6, _, false, (by first | (simp; done) | (simp; omega)), by have := HN.out; omega, (by first | (simp; done) | (simp; omega)), by simpa [List.append_assoc] using K8.out, by simpa [List.append_assoc] using HNX.out, HLQ.out, err_no⟩, by simp only [intOf]; omega⟩
                              | some x2 =>
                                have HX2 := Lib.hid hx2
                                have HB2 := Lib.hid (hex4_lt hx2)
                                obtain ⟨Y, hY⟩ : ∃ Y : Int, (x2 : Int) = Y := ⟨_, rfl⟩
                                have hY0 : 0 ≤ Y := by omega
                                have hY1 : Y < 65536 := by have := HB2.out; omega
                                have HYI := Lib.hid hY
                                clear hx2 hY
                                refine (parse4I ((l.drop (k + 6 + 2)).take 4) HL8.out HX2.out Y HYI.out b (k + 6 + 2) _ _ _ (by omega) (by have := HB3.out.sub (k + 6 + 2) 4; rwa [Nat.zero_add] at this)).mono ?_
                                rintro e w4 ⟨rfl, rfl⟩
                                by_cases h67 : a6 = 92 ∧ a7 = 117
                                · obtain ⟨rfl, rfl⟩ := h67
                                  have hpre : ((l.drop k).drop 6).take 2 = [92, 117] := by
                                    rw [HD67.out]
                                    have g6 : l[k + 6] = 92 := UInt8.toNat_inj.1 (by rw [← HA6.out]; rfl)
                                    have g7 : l[k + 6 + 1] = 117 := UInt8.toNat_inj.1 (by rw [← HA7.out]; rfl)
                                    rw [g6, g7]
                                  have HPre := Lib.hid hpre
                                  clear hpre
                                  go_wp2_with fail
                                  cases hpv : pairV x1 x2 with
                                  | none =>
                                    have HPV := Lib.hid hpv
                                    clear hpv
                                    have hst2 := HStep.out.trans (unit_nopair HSR.out (by rw [HDL.out]; omega) (by rw [List.drop_drop]; exact HX2.out) HPre.out HPV.out)
                                    have hnx := HUI.out.esc hst2 (by have := HN.out; omega)
                                    rw [Bool.and_false] at hnx
                                    have HNX := Lib.hid hnx
                                    have hlq : (out ++ (l.drop st).take (k - st) ++ bad).length ≤ 3 * (k + 6) := by simp only [bad, List.length_append, List.length_take, List.length_drop, List.length_cons, List.length_nil]; omega
                                    have HLQ := Lib.hid hlq
                                    clear hst2 hnx hlq
                                    refine (dec16I x1 x2 X Y HXI.out HYI.out HSR.out HB2.out 65533 65533 (by rw [HPV.out]; rfl) (by rfl) _).mono ?_
                                    rintro e w7 ⟨rfl, rfl⟩
                                    as_aux_lemma =>
                                      go_wp2_with fail
                                      refine (newEsc' ((l.drop k).take 12) b k _ _ _ (by rw [List.length_take, HDL.out]; omega) (by have := HB3.out.sub k 12; rwa [Nat.zero_add] at this)).mono ?_
                                      rintro e w5 ⟨b5, ue, xe, rfl⟩
                                      have K5 := Lib.hid (app_below K3.out b5)
                                      clear b5
                                      go_wp2_with fail
                                      refine (appRuneI v3 _ 65533 65533 (by rfl) bad (by decide) (by decide) enc_bad' _ K5.out.own (by simp; omega)).mono ?_
                                      rintro e w8 ⟨v8, rfl, k8⟩
                                      have K8 := Lib.hid (K5.out.trans k8)
                                      clear k8
                                      go_wp2_with fail
                                      exact ⟨⟨k + 6, k + 6, _, false, (by first | (simp; done) | (simp; omega)), by have := HN.out; omega, (by first | (simp; done) | (simp; omega)), by simpa [List.append_assoc] using K8.out, by simpa [List.append_assoc] using HNX.out, HLQ.out, err_no⟩, by simp only [intOf]; omega⟩
                                  | some rr =>
                                    have HPV := Lib.hid hpv
                                    have HRB := Lib.hid (pair_bound hpv)
                                    clear hpv
                                    have hst2 := HStep.out.trans (unit_pair HSR.out (by rw [HDL.out]; omega) (by rw [List.drop_drop]; exact HX2.out) HPre.out HPV.out)
                                    have hnx := HUI.out.esc hst2 (by have := HN.out; omega)
                                    rw [Bool.and_true] at hnx
                                    have HNX := Lib.hid hnx
                                    have hel := enc_len rr
                                    have hlq : (out ++ (l.drop st).take (k - st) ++ enc rr).length ≤ 3 * (k + 12) := by simp only [List.length_append, List.length_take, List.length_drop]; omega
                                    have HLQ := Lib.hid hlq
                                    obtain ⟨R, hR⟩ : ∃ R : Int, (rr : Int) = R := ⟨_, rfl⟩
                                    have hrn : (R == 65533) = false := by rw [beq_eq_false_iff_ne]; have := HRB.out; omega
                                    have hR0 : 65536 ≤ R := by have := HRB.out; omega
                                    have hR1 : R ≤ 1114111 := by have := HRB.out; omega
                                    have HRI := Lib.hid hR
                                    clear hst2 hnx hlq hel hR
                                    refine (dec16I x1 x2 X Y HXI.out HYI.out HSR.out HB2.out rr R (by rw [HPV.out]; rfl) HRI.out _).mono ?_
                                    rintro e w7 ⟨rfl, rfl⟩
                                    as_aux_lemma =>
                                      go_wp2_with fail
                                      refine (appRuneI v3 _ rr R HRI.out (enc rr) (by have := HRB.out; omega) (by have := HRB.out; omega) rfl _ K3.out.own (by simp; omega)).mono ?_
                                      rintro e w8 ⟨v8, rfl, k8⟩
                                      have K8 := Lib.hid (K3.out.trans k8)
                                      clear k8
                                      go_wp2_with fail
                                      exact ⟨⟨k + 12, k + 12, _, bb, (by first | (simp; done) | (simp; omega)), by have := HN.out; omega, (by first | (simp; done) | (simp; omega)), by simpa [List.append_assoc] using K8.out, by simpa [List.append_assoc] using HNX.out, HLQ.out, HErr.out⟩, by simp only [intOf]; omega⟩
                                · have hpre : ((l.drop k).drop 6).take 2 ≠ [92, 117] := by
                                    rw [HD67.out]
                                    intro e
                                    simp only [List.cons.injEq, and_true] at e
                                    exact h67 ⟨by rw [HA6.out, e.1]; rfl, by rw [HA7.out, e.2]; rfl⟩
                                  have HPre := Lib.hid hpre
                                  clear hpre
                                  have hst2 := HStep.out.trans (unit_other HSR.out (by rw [HDL.out]; omega) (by rw [List.drop_drop]; exact HX2.out) HPre.out)
                                  have hnx := HUI.out.esc hst2 (by have := HN.out; omega)
                                  rw [Bool.and_false] at hnx
                                  have HNX := Lib.hid hnx
                                  have hlq : (out ++ (l.drop st).take (k - st) ++ bad).length ≤ 3 * (k + 6) := by simp only [bad, List.length_append, List.length_take, List.length_drop, List.length_cons, List.length_nil]; omega
                                  have HLQ := Lib.hid hlq
                                  clear hst2 hnx hlq
                                  by_cases e6 : a6 = 92
                                  · subst e6
                                    have e7 : a7 ≠ 117 := fun e => h67 ⟨rfl, e⟩
                                    have z7 : ((a7 : Int) != 117) = true := by rw [bne_iff_ne]; omega
                                    have y7 : ((a7 : Int) == 117) = false := by rw [beq_eq_false_iff_ne]; omega
                                    clear h67
                                    as_aux_lemma =>
                                      go_wp2_with fail
                                      refine (newEsc' ((l.drop k).take 12) b k _ _ _ (by rw [List.length_take, HDL.out]; omega) (by have := HB3.out.sub k 12; rwa [Nat.zero_add] at this)).mono ?_
                                      rintro e w5 ⟨b5, ue, xe, rfl⟩
                                      have K5 := Lib.hid (app_below K3.out b5)
                                      clear b5
                                      go_wp2_with fail
                                      refine (appRuneI v3 _ 65533 65533 (by rfl) bad (by decide) (by decide) enc_bad' _ K5.out.own (by simp; omega)).mono ?_
                                      rintro e w8 ⟨v8, rfl, k8⟩
                                      have K8 := Lib.hid (K5.out.trans k8)
                                      clear k8
                                      go_wp2_with fail
                                      exact ⟨⟨k + 6, k + 6, _, false, (by first | (simp; done) | (simp; omega)), by have := HN.out; omega, (by first | (simp; done) | (simp; omega)), by simpa [List.append_assoc] using K8.out, by simpa [List.append_assoc] using HNX.out, HLQ.out, err_no⟩, by simp only [intOf]; omega⟩
                                  · have z6 : ((a6 : Int) != 92) = true := by rw [bne_iff_ne]; omega
                                    have y6 : ((a6 : Int) == 92) = false := by rw [beq_eq_false_iff_ne]; omega
                                    clear h67
                                    as_aux_lemma =>
                                      go_wp2_with fail
                                      refine (newEsc' ((l.drop k).take 12) b k _ _ _ (by rw [List.length_take, HDL.out]; omega) (by have := HB3.out.sub k 12; rwa [Nat.zero_add] at this)).mono ?_
                                      rintro e w5 ⟨b5, ue, xe, rfl⟩
                                      have K5 := Lib.hid (app_below K3.out b5)
                                      clear b5
                                      go_wp2_with fail
                                      refine (appRuneI v3 _ 65533 65533 (by rfl) bad (by decide) (by decide) enc_bad' _ K5.out.own (by simp; omega)).mono ?_
                                      rintro e w8 ⟨v8, rfl, k8⟩
                                      have K8 := Lib.hid (K5.out.trans k8)
                                      clear k8
                                      go_wp2_with fail
                                      exact ⟨⟨k + 6, k + 6, _, false, (by first | (simp; done) | (simp; omega)), by have := HN.out; omega, (by first | (simp; done) | (simp; omega)), by simpa [List.append_assoc] using K8.out, by simpa [List.append_assoc] using HNX.out, HLQ.out, err_no⟩, by simp only [intOf]; omega⟩
                          · have HSR := Lib.hid hsr
                            clear hsr
                            have hst2 := HStep.out.trans (unit_plain HSR.out)
                            have hnx := HUI.out.esc hst2 (by have := HN.out; omega)
                            rw [Bool.and_true] at hnx
                            have HNX := Lib.hid hnx
                            have hel := enc_len x1
                            have hlq : (out ++ (l.drop st).take (k - st) ++ enc x1).length ≤ 3 * (k + 6) := by simp only [List.length_append, List.length_take, List.length_drop]; omega
                            have HLQ := Lib.hid hlq
                            clear hst2 hnx hlq hel
                            refine (surrI_no X _ hX0 (by have := HSR.out; have := HXI.out; omega)).mono ?_
                            rintro e w5 ⟨rfl, rfl⟩
                            as_aux_lemma =>
                              go_wp2_with fail
                              refine (appRuneI v3 _ x1 X HXI.out (enc x1) (by have := HB1.out; omega) (by have := HSR.out; omega) rfl _ K3.out.own (by simp; omega)).mono ?_
                              rintro e w8 ⟨v8, rfl, k8⟩
                              have K8 := Lib.hid (K3.out.trans k8)
                              clear k8
                              go_wp2_with fail
                              exact ⟨⟨k + 6, k + 6, _, bb, (by first | (simp; done) | (simp; omega)), by have := HN.out; omega, (by first | (simp; done) | (simp; omega)), by simpa [List.append_assoc] using K8.out, by simpa [List.append_assoc] using HNX.out, HLQ.out, HErr.out⟩, by simp only [intOf]; omega⟩
                  have m117 : ((a2 : Int) == 117) = false := by rw [beq_eq_false_iff_ne]; omega
                  have hsx : simpleX c2 = none := by
                    have nx : ∀ x : UInt8, a2 ≠ x.toNat → c2 ≠ x := fun x h e => h (by rw [HA2.out, e])
                    unfold simpleX
                    rw [if_neg (fun h => by rcases h with h | h | h; exact nx 34 s34 h; exact nx 92 s92 h; exact nx 47 s47 h), if_neg (nx 98 s98), if_neg (nx 102 s102), if_neg (nx 110 s110), if_neg (nx 114 s114), if_neg (nx 116 s116)]
                  have hst2 := step_other HL2.out hsx (fun e => s117 (by rw [HA2.out, e]; rfl))
                  have hu := HUI.out.stop hst2
                  simp only [List.append_nil, Bool.and_false] at hu
                  have HUN := Lib.hid hu
                  clear hu
                  have hdl : (l.drop k).length = n - k := by rw [List.length_drop, HN.out]
                  have HDL := Lib.hid hdl
                  clear hst2 hsx hdl
                  as_aux_lemma =>
                    go_wp2_with (first
                      | (go_at_call 62
                         refine (noEsc92 _).mono ?_
                         rintro e w2 ⟨rfl, rfl⟩)
                      | (go_at_call 38
                         refine (decRune_any (l.drop k) (by rw [HD.out]; exact List.cons_ne_nil _ _) b k (n - k) (cap - k) _ (by rw [List.length_drop, HN.out]) HSub.out HUw.out).mono ?_
                         rintro e w2 ⟨b2, r, rn, rfl, hread⟩
                         have HAP := Lib.hid (app_below HAP0.out b2)
                         have HBB := Lib.hid (HBY.out.kept HAP.out.kept hb HNE.out)
                         obtain ⟨q1, q2, q3⟩ := hread.back 1 (.inl ⟨rfl, 92, _, HD.out, by decide⟩)
                         have q4 : r = 92 := by rw [q3, HD.out]; rfl
                         subst q1
                         subst q4
                         clear b2 hread q2 q3)
                      | (at_builtin
                         refine wpList_app u8q rfl (.tmp 112) (.tmp 116) 39 rfl HAP.out (by rfl) ((l.drop st).take (k - st)) rfl (by exact HBB.out.src_in0 u8q st (k - st) _ (by omega)) (by simp; omega) ?_
                         intro v3 w3 k3
                         have K3 := Lib.hid k3
                         have hE2x := (k3.cell 0 (by omega) (fun x hx => by have := H0.out x hx; omega)).trans HE2.out
                         have HB3 := Lib.hid (HBY.out.kept k3.kept hb HNE.out)
                         have hc2 := HB3.out.at0 (k + 1) hkl1
                         rw [← HC2.out, ← HA2.out] at hc2
                         clear k3)
                      | (go_at_call 64
                         refine (newEsc' ((l.drop k).take 2) b k _ _ _ (by rw [List.length_take, HDL.out]; omega) (by have := HB3.out.sub k 2; rwa [Nat.zero_add] at this)).mono ?_
                         rintro e w5 ⟨b5, ue, xe, rfl⟩
                         have K5 := Lib.hid (app_below K3.out b5)
                         clear b5))
                    go_ret2
                    exact ⟨_, _, _, _, HUN.out, (by simp only [List.length_append, List.length_take, List.length_drop]; have := HN.out; omega), by simpa [List.append_assoc] using K5.out, err_no, rfl⟩
              · have n92 : ((a : Int) == 92) = false := by rw [beq_eq_false_iff_ne]; omega
                by_cases h32 : a < 32
                · have g32 : (a : Int) < 32 := by omega
                  have hst2 := step_ctrl HD.out (by rw [← HA.out]; exact h32)
                  have hu := HUI.out.stop hst2
                  simp only [List.append_nil, Bool.and_false] at hu
                  have HUN := Lib.hid hu
                  clear hu
                  have nff : ((a : Int) == 65533) = false := by rw [beq_eq_false_iff_ne]; omega
                  have hdl : n - k = (l.drop k).length := by rw [List.length_drop, HN.out]
                  have HDL := Lib.hid hdl
                  clear hst2 hnp hdl
                  as_aux_lemma =>
                    go_wp2_with (first
                      | (go_at_call 62
                         refine (noEsc_any a _).mono ?_
                         rintro e w2 ⟨rfl, rfl⟩
                         rw [HPL.out])
                      | (go_at_call 38
                         refine (decRune_any (l.drop k) (by rw [HD.out]; exact List.cons_ne_nil _ _) b k (n - k) (cap - k) _ (by rw [List.length_drop, HN.out]) HSub.out HUw.out).mono ?_
                         rintro e w2 ⟨b2, r, rn, rfl, hread⟩
                         have HAP := Lib.hid (app_below HAP0.out b2)
                         have HBB := Lib.hid (HBY.out.kept HAP.out.kept hb HNE.out)
                         obtain ⟨q1, q2, q3⟩ := hread.back 1 (.inl ⟨rfl, c, _, HD.out, by rw [← HA.out]; omega⟩)
                         have q4 : r = a := by rw [q3, HD.out, HA.out]; rfl
                         subst q1
                         subst q4
                         clear b2 hread q2 q3)
                      | (at_builtin
                         refine wpList_app u8q rfl (.tmp 330) (.tmp 334) 39 rfl HAP.out (by rfl) ((l.drop st).take (k - st)) rfl (by exact HBB.out.src_in0 u8q st (k - st) _ (by omega)) (by simp; omega) ?_
                         intro v3 w3 k3
                         have K3 := Lib.hid k3
                         have hE2x := (k3.cell 0 (by omega) (fun x hx => by have := H0.out x hx; omega)).trans HE2.out
                         have HB3 := Lib.hid (HBY.out.kept k3.kept hb HNE.out)
                         clear k3)
                      | (go_at_call 61
                         refine (newChar' (l.drop k) (by rw [HD.out]; exact List.cons_ne_nil _ _) b k _ _ _ _ HDL.out (by have := HB3.out.sub k (l.length - k); rw [Nat.zero_add, List.take_of_length_le (by rw [List.length_drop]; omega)] at this; exact this) (utf8_app HU.out K3.out h5 H0.out) (by have := K3.out.kept.size; omega) (by rw [← HDL.out]; omega)).mono ?_
                         rintro e w4 ⟨b4, ue, xe, rfl⟩
                         have K4 := Lib.hid (app_below K3.out b4)
                         clear b4))
                    go_ret2
                    exact ⟨_, _, _, _, HUN.out, (by simp only [List.length_append, List.length_take, List.length_drop]; have := HN.out; omega), by simpa [List.append_assoc] using K4.out, err_no, rfl⟩
                · have h128 : 128 ≤ a := by omega
                  clear hnp
                  by_cases hex : ∃ m, CharAt (l.drop k) m
                  · obtain ⟨m, hm⟩ := hex
                    have h2 : 2 ≤ m := char_high HD.out (by rw [← HA.out]; omega) hm
                    have hle := hm.le4
                    rw [List.length_drop] at hle
                    have hkm : k + m ≤ n := by have := HN.out; omega
                    have hst2 : step (l.drop k) = .go m ((l.drop k).take m) true := step_char HD.out (fun e => h34 (by rw [HA.out, e]; rfl)) (fun e => h92 (by rw [HA.out, e]; rfl)) (by rw [← HA.out]; omega) hm
                    have hnx := HUI.out.plain hst2 (by omega)
                    have HNX := Lib.hid hnx
                    have hm1 : (1 : Int) < (m : Int) := by omega
                    have HC := Lib.hid hm
                    clear hst2 hnx hm
                    as_aux_lemma =>
                      go_wp2_with (first
                        | (go_at_call 62
                           refine (noEsc_any a _).mono ?_
                           rintro e w2 ⟨rfl, rfl⟩
                           rw [HPL.out])
                        | (go_at_call 38
                           refine (decRune_any (l.drop k) (by rw [HD.out]; exact List.cons_ne_nil _ _) b k (n - k) (cap - k) _ (by rw [List.length_drop, HN.out]) HSub.out HUw.out).mono ?_
                           rintro e w2 ⟨b2, r, rn, rfl, hread⟩
                           have HAP := Lib.hid (app_below HAP0.out b2)
                           have HBB := Lib.hid (HBY.out.kept HAP.out.kept hb HNE.out)
                           obtain ⟨q1, q2, q3⟩ := hread.back m HC.out
                           subst q1
                           clear b2 hread q2 q3))
                      exact ⟨⟨k + m, st, out, bb, by simp, by omega, rfl, HAP.out, HNX.out, hol, HErr.out⟩, by simp only [intOf]; omega⟩
                  · have hno : ∀ m, ¬ CharAt (l.drop k) m := fun m h => hex ⟨m, h⟩
                    have hst1 := step_bad HD.out (by rw [← HA.out]; exact h128) hno
                    have HNo := Lib.hid hno
                    have hdl : n - k = (l.drop k).length := by rw [List.length_drop, HN.out]
                    have HDL := Lib.hid hdl
                    clear hno hex hdl
                    cases hfb : fullB (l.drop k) with
                    | true =>
                      rw [hfb, if_pos rfl] at hst1
                      have hnx := HUI.out.esc hst1 (by omega)
                      rw [Bool.and_false] at hnx
                      have HNX := Lib.hid hnx
                      have HFB := Lib.hid hfb
                      clear hst1 hnx hfb
                      as_aux_lemma =>
                        go_wp2_with (first
                          | (go_at_call 62
                             refine (noEsc_any a _).mono ?_
                             rintro e w2 ⟨rfl, rfl⟩
                             rw [HPL.out])
                          | (go_at_call 38
                             refine (decRune_any (l.drop k) (by rw [HD.out]; exact List.cons_ne_nil _ _) b k (n - k) (cap - k) _ (by rw [List.length_drop, HN.out]) HSub.out HUw.out).mono ?_
                             rintro e w2 ⟨b2, r, rn, rfl, hread⟩
                             have HAP := Lib.hid (app_below HAP0.out b2)
                             have HBB := Lib.hid (HBY.out.kept HAP.out.kept hb HNE.out)
                             obtain ⟨rfl, rfl⟩ := hread.none HNo.out
                             clear b2 hread)
                          | (at_builtin
                             refine wpList_app u8q rfl (.tmp 307) (.tmp 311) 39 rfl HAP.out (by rfl) ((l.drop st).take (k - st)) rfl (by exact HBB.out.src_in0 u8q st (k - st) _ (by omega)) (by simp; omega) ?_
                             intro v3 w3 k3
                             have K3 := Lib.hid k3
                             have hE2x := (k3.cell 0 (by omega) (fun x hx => by have := H0.out x hx; omega)).trans HE2.out
                             have HB3 := Lib.hid (HBY.out.kept k3.kept hb HNE.out)
                             clear k3)
                          | (go_at_call 69
                             refine (full' (l.drop k) (by rw [HD.out]; exact List.cons_ne_nil _ _) b k _ _ _ HDL.out (by have := HB3.out.sub k (l.length - k); rw [Nat.zero_add, List.take_of_length_le (by rw [List.length_drop]; omega)] at this; exact this) (utf8_app HU.out K3.out h5 H0.out) (by have := K3.out.kept.size; omega)).mono ?_
                             rintro e w4 ⟨rfl, b4⟩
                             rw [HFB.out]
                             have K4 := Lib.hid (app_below K3.out b4)
                             have hE1x := (K4.out.cell 0 (by omega) (fun x hx => by have := H0.out x hx; omega)).trans HE1.out
                             have hE2y := (K4.out.cell 0 (by omega) (fun x hx => by have := H0.out x hx; omega)).trans HE2.out
                             clear b4)
                          | (at_builtin
                             refine wpList_app u8q rfl (.tmp 320) (.const (.string ⟨#[239, 191, 189]⟩)) 9 rfl K4.out (by rfl) [239, 191, 189] (by rfl) (by exact src_strm _ _ rfl) (by simp; omega) ?_
                             intro v5 w5 k5
                             have K5 := Lib.hid k5
                             have hE1z := (k5.cell 0 (by omega) (fun x hx => by have := H0.out x hx; omega)).trans HE1.out
                             clear k5))
                        exact ⟨⟨k + 1, k + 1, _, false, by simp, by omega, by simp, by simpa [List.append_assoc, bad] using K5.out, by simpa [List.append_assoc, bad] using HNX.out, by simp only [List.length_append, List.length_take, List.length_drop, List.length_cons, List.length_nil]; omega, err_no⟩, by simp only [intOf]; omega⟩
                    | false =>
                      rw [hfb, if_neg (by decide)] at hst1
                      have hu := HUI.out.stop hst1
                      simp only [List.append_nil, Bool.and_false] at hu
                      have HUN := Lib.hid hu
                      clear hu
                      have HFB := Lib.hid hfb
                      clear hst1 hfb
                      as_aux_lemma =>
                        go_wp2_with (first
                          | (go_at_call 62
                             refine (noEsc_any a _).mono ?_
                             rintro e w2 ⟨rfl, rfl⟩
                             rw [HPL.out])
                          | (go_at_call 38
                             refine (decRune_any (l.drop k) (by rw [HD.out]; exact List.cons_ne_nil _ _) b k (n - k) (cap - k) _ (by rw [List.length_drop, HN.out]) HSub.out HUw.out).mono ?_
                             rintro e w2 ⟨b2, r, rn, rfl, hread⟩
                             have HAP := Lib.hid (app_below HAP0.out b2)
                             have HBB := Lib.hid (HBY.out.kept HAP.out.kept hb HNE.out)
                             obtain ⟨rfl, rfl⟩ := hread.none HNo.out
                             clear b2 hread)
                          | (at_builtin
                             refine wpList_app u8q rfl (.tmp 307) (.tmp 311) 39 rfl HAP.out (by rfl) ((l.drop st).take (k - st)) rfl (by exact HBB.out.src_in0 u8q st (k - st) _ (by omega)) (by simp; omega) ?_
                             intro v3 w3 k3
                             have K3 := Lib.hid k3
                             have hE2x := (k3.cell 0 (by omega) (fun x hx => by have := H0.out x hx; omega)).trans HE2.out
                             have HB3 := Lib.hid (HBY.out.kept k3.kept hb HNE.out)
                             clear k3)
                          | (go_at_call 69
                             refine (full' (l.drop k) (by rw [HD.out]; exact List.cons_ne_nil _ _) b k _ _ _ HDL.out (by have := HB3.out.sub k (l.length - k); rw [Nat.zero_add, List.take_of_length_le (by rw [List.length_drop]; omega)] at this; exact this) (utf8_app HU.out K3.out h5 H0.out) (by have := K3.out.kept.size; omega)).mono ?_
                             rintro e w4 ⟨rfl, b4⟩
                             rw [HFB.out]
                             have K4 := Lib.hid (app_below K3.out b4)
                             have hE1x := (K4.out.cell 0 (by omega) (fun x hx => by have := H0.out x hx; omega)).trans HE1.out
                             have hE2y := (K4.out.cell 0 (by omega) (fun x hx => by have := H0.out x hx; omega)).trans HE2.out
                             clear b4))
                        go_big_quiet (fail)
                        go_wp2_with fail
                        go_ret2
                        refine ⟨_, _, v3, _, HUN.out, (by simp only [List.length_append, List.length_take, List.length_drop]; have := HN.out; omega), ?_, err_no, rfl⟩
                        have hk := K4.out
                        exact app_drewN (by simpa [List.append_assoc] using hk) _
        · obtain rfl : k = n := by omega
          have hnil : l.drop k = [] := List.drop_of_length_le (by have := HN.out; omega)
          have hst2 : step (l.drop k) = .stop [] false := by rw [hnil]; rfl
          have hu := HUI.out.stop hst2
          simp only [List.append_nil, Bool.and_false] at hu
          have HUN := Lib.hid hu
          clear hu
          have hlt : decide ((k : Int) < (k : Int)) = false := decide_eq_false (by omega)
          clear hnil hst2
          have hnl : k ≤ l.length := by have := HN.out; omega
          rcases Nat.lt_or_ge st cap with hcs | hcs
          · have hcs1 : (st : Int) < (cap : Int) := by omega
            as_aux_lemma =>
              go_wp2_with (first
                | (at_builtin
                   refine wpList_app u8q rfl (.tmp 64) (.tmp 68) 39 rfl HAP0.out (by rfl) ((l.drop st).take (k - st)) rfl (by exact hbw.out.src_in0 u8q st (k - st) _ (by omega)) (by simp; omega) ?_
                   intro v3 w3 k3
                   have K3 := Lib.hid k3
                   have hE2x := (k3.cell 0 (by omega) (fun x hx => by have := H0.out x hx; omega)).trans HE2.out
                   have HB3 := Lib.hid (HBY.out.kept k3.kept hb HNE.out)
                   clear k3))
              go_big_quiet (fail)
              go_wp2_with fail
              go_ret2
              refine ⟨_, _, v3, _, HUN.out, (by simp only [List.length_append, List.length_take, List.length_drop]; have := HN.out; omega), ?_, err_no, rfl⟩
              have hk := K3.out
              exact app_drewN (by simpa [List.append_assoc] using hk) _
          · have hz1 : st = k := by omega
            have hz2 : cap = k := by omega
            subst hz1
            subst hz2
            as_aux_lemma =>
              go_wp2_with (first
                | (at_builtin
                   refine wpList_app u8q rfl (.tmp 64) (.tmp 68) 39 rfl HAP0.out (by rfl) ((l.drop 0).take 0) rfl (by exact hbw.out.src_in0 u8q 0 0 _ (Nat.zero_le _)) (by simp; omega) ?_
                   intro v3 w3 k3
                   have K3 := Lib.hid k3
                   have hE2x := (k3.cell 0 (by omega) (fun x hx => by have := H0.out x hx; omega)).trans HE2.out
                   clear k3))
              go_big_quiet (fail)
              go_wp2_with fail
              go_ret2
              refine ⟨_, _, v3, _, HUN.out, (by simp only [List.length_append, List.length_take, List.length_drop]; have := HN.out; omega), ?_, err_no, rfl⟩
              have hk := K3.out
              exact app_drewN (by simpa [List.append_assoc] using hk) _
    · obtain rfl : k0 = n := by omega
      obtain ⟨k, hkk⟩ : ∃ k, k = k0 := ⟨_, rfl⟩
      subst hkk
      have hst : st ≤ k := by omega
      have hnil : l.drop k = [] := List.drop_of_length_le (by have := HN.out; omega)
      have hst2 : step (l.drop k) = .stop [] false := by rw [hnil]; rfl
      have HUI := HUI1
      have hu := HUI.out.stop hst2
      simp only [List.append_nil, Bool.and_false] at hu
      have HUN := Lib.hid hu
      clear hu
      clear hnil hst2
      have hnl : k ≤ l.length := by have := HN.out; omega
      rcases Nat.lt_or_ge st cap with hcs | hcs
      · have hcs1 : (st : Int) < (cap : Int) := by omega
        as_aux_lemma =>
          go_wp2_with (first
            | (at_builtin
               refine wpList_app u8q rfl (.tmp 341) (.tmp 345) 39 rfl HAP0.out (by rfl) ((l.drop st).take (k - st)) rfl (by exact hbw.out.src_in0 u8q st (k - st) _ (by omega)) (by simp; omega) ?_
               intro v3 w3 k3
               have K3 := Lib.hid k3
               have hE2x := (k3.cell 0 (by omega) (fun x hx => by have := H0.out x hx; omega)).trans HE2.out
               have HB3 := Lib.hid (HBY.out.kept k3.kept hb HNE.out)
               clear k3))
          go_big_quiet (fail)
          go_wp2_with fail
          go_ret2
          refine ⟨_, _, v3, _, HUN.out, (by simp only [List.length_append, List.length_take, List.length_drop]; have := HN.out; omega), ?_, err_no, rfl⟩
          have hk := K3.out
          exact app_drewN (by simpa [List.append_assoc] using hk) _
      · have hz1 : st = k := by omega
        have hz2 : cap = k := by omega
        subst hz1
        subst hz2
        as_aux_lemma =>
          go_wp2_with (first
            | (at_builtin
               refine wpList_app u8q rfl (.tmp 341) (.tmp 345) 39 rfl HAP0.out (by rfl) ((l.drop 0).take 0) rfl (by exact hbw.out.src_in0 u8q 0 0 _ (Nat.zero_le _)) (by simp; omega) ?_
               intro v3 w3 k3
               have K3 := Lib.hid k3
               have hE2x := (k3.cell 0 (by omega) (fun x hx => by have := H0.out x hx; omega)).trans HE2.out
               clear k3))
          go_big_quiet (fail)
          go_wp2_with fail
          go_ret2
          refine ⟨_, _, v3, _, HUN.out, (by simp only [List.length_append, List.length_take, List.length_drop]; have := HN.out; omega), ?_, err_no, rfl⟩
          have hk := K3.out
          exact app_drewN (by simpa [List.append_assoc] using hk) _

end Go.Proofs.YtjjbgoknmofajaaDoor.Wire
