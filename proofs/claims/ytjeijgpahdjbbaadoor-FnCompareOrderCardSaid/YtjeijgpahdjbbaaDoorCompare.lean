/- 'jsonwire.CompareUTF16' on texts. -/
import Derived.Test.YtjeijgpahdjbbaaDoorNames
import Derived.Maps.AppendAt
import Derived.Deep.QuietTactic
import Derived.BigQuiet
import Derived.Deep.RegionWith
import Derived.Deep.RegionLaw
namespace Go.Proofs.YtjeijgpahdjbbaaDoor
open Go.RowKit

/-- Between two rounds. -/
structure CInv (w : World) (bx b : Nat) (X Y : List Nat) (wr : World) (ox nx cx oy ny cy : Nat) (lx ly : List UInt8) (rx ry : List Nat) : Prop where
  lenx : nx = lx.length
  leny : ny = ly.length
  capx : nx ≤ cx
  capy : ny ≤ cy
  hx : Bytes wr bx ox lx
  hy : Bytes wr b oy ly
  runx : Runes lx rx
  runy : Runes ly ry
  below : Below w.heap.size w wr
  eq : cmpK X Y = cmpK rx ry

theorem Runes.head {l : List UInt8} {rs : List Nat} (h : Runes l rs) (hne : l ≠ []) : ∃ n rs', CharAt l n ∧ Runes (l.drop n) rs' ∧ rs = rv (l.take n) :: rs' := by
  cases h with
  | nil => exact absurd rfl hne
  | cons a k => exact ⟨_, _, a, k, rfl⟩

theorem head_facts {l : List UInt8} {n : Nat} (h : CharAt l n) (h0 : 0 < l.length) : (l[0].toNat < 128 ∧ n = 1 ∧ rv (l.take n) = l[0].toNat) ∨ (128 ≤ l[0].toNat ∧ 128 ≤ rv (l.take n)) := by
  obtain ⟨_, _, f1, f2⟩ := char_facts h
  by_cases hr : rv (l.take n) < 128
  · obtain ⟨a, t, e, e1, e2⟩ := f1 hr
    subst e
    exact .inl ⟨by rw [← e2] at hr; exact hr, e1, e2.symm⟩
  · refine .inr ⟨f2 (by omega) l[0] ?_, by omega⟩
    have := h.le
    cases l with
    | nil => simp at h0
    | cons a t =>
      cases n with
      | zero => omega
      | succ n => simp

theorem cmpK_ne {r q : Nat} (s t : List Nat) {A B : Int} (hAB : A ≠ B) (h : A < B ↔ key r < key q) (k : B < A ↔ key q < key r) : cmpK (r :: s) (q :: t) = cmpI A B := by
  unfold cmpK cmpI
  by_cases h1 : A < B
  · rw [if_pos h1, if_pos (h.1 h1)]
  · have h2 : B < A := by omega
    rw [if_neg h1, if_pos h2, if_neg (fun e => h1 (h.2 e)), if_pos (k.1 h2)]

theorem cmpK_eq (r : Nat) (s t : List Nat) : cmpK (r :: s) (r :: t) = cmpK s t := by
  show (if key r < key r then (-1 : Int) else if key r < key r then 1 else cmpK s t) = _
  rw [if_neg (Nat.lt_irrefl _), if_neg (Nat.lt_irrefl _)]

theorem key_small {r : Nat} (h : r ≤ 65535) : key r = r * 2097152 := if_pos h
theorem key_great {r : Nat} (h : ¬ r ≤ 65535) : key r = (55296 + (r - 65536) / 1024) * 2097152 + r := if_neg h

theorem cmp_ascii {r q a b : Nat} (s t : List Nat) (hr : (a < 128 ∧ r = a) ∨ (128 ≤ a ∧ 128 ≤ r)) (hq : (b < 128 ∧ q = b) ∨ (128 ≤ b ∧ 128 ≤ q)) (h1 : a < 128 ∨ b < 128) (hne : a ≠ b) : cmpK (r :: s) (q :: t) = cmpI (a : Int) (b : Int) := by
  by_cases k1 : r ≤ 65535 <;> by_cases k2 : q ≤ 65535
  · exact cmpK_ne s t (by omega) (by rw [key_small k1, key_small k2]; omega) (by rw [key_small k1, key_small k2]; omega)
  · exact cmpK_ne s t (by omega) (by rw [key_small k1, key_great k2]; omega) (by rw [key_small k1, key_great k2]; omega)
  · exact cmpK_ne s t (by omega) (by rw [key_great k1, key_small k2]; omega) (by rw [key_great k1, key_small k2]; omega)
  · omega

theorem cmp_small {r q : Nat} (s t : List Nat) (k1 : r ≤ 65535) (k2 : q ≤ 65535) (hne : r ≠ q) : cmpK (r :: s) (q :: t) = cmpI (r : Int) (q : Int) :=
  cmpK_ne s t (by omega) (by rw [key_small k1, key_small k2]; omega) (by rw [key_small k1, key_small k2]; omega)
theorem cmp_great {r q : Nat} (s t : List Nat) (k1 : ¬ r ≤ 65535) (k2 : ¬ q ≤ 65535) (hne : r ≠ q) : cmpK (r :: s) (q :: t) = cmpI (r : Int) (q : Int) :=
  cmpK_ne s t (by omega) (by rw [key_great k1, key_great k2]; omega) (by rw [key_great k1, key_great k2]; omega)
theorem cmp_mixed {r q : Nat} (s t : List Nat) (hr : Okr r) (hq : Okr q) (k1 : r ≤ 65535) (k2 : ¬ q ≤ 65535) : cmpK (r :: s) (q :: t) = cmpI (r : Int) (55296 + ((q : Int) - 65536) / 1024) ∧ (r : Int) ≠ 55296 + ((q : Int) - 65536) / 1024 := by
  unfold Okr at hr hq
  have hne : (r : Int) ≠ 55296 + ((q : Int) - 65536) / 1024 := by omega
  exact ⟨cmpK_ne s t hne (by rw [key_small k1, key_great k2]; omega) (by rw [key_small k1, key_great k2]; omega), hne⟩
theorem cmp_mixed' {r q : Nat} (s t : List Nat) (hr : Okr r) (hq : Okr q) (k1 : ¬ r ≤ 65535) (k2 : q ≤ 65535) : cmpK (r :: s) (q :: t) = cmpI (55296 + ((r : Int) - 65536) / 1024) (q : Int) ∧ 55296 + ((r : Int) - 65536) / 1024 ≠ (q : Int) := by
  unfold Okr at hr hq
  have hne : 55296 + ((r : Int) - 65536) / 1024 ≠ (q : Int) := by omega
  exact ⟨cmpK_ne s t hne (by rw [key_great k1, key_small k2]; omega) (by rw [key_great k1, key_small k2]; omega), hne⟩

theorem Bytes.rest {w : World} {b off n k cap : Nat} {l : List UInt8} (h : Bytes w b off l) (hn : n = l.length) (hc : n ≤ cap) : Bytes w b (if cap = k then off else off + k) (l.drop k) := by
  by_cases e : cap = k
  · intro j hj
    rw [List.length_drop] at hj
    omega
  · rw [if_neg e]
    intro j hj
    rw [List.length_drop] at hj
    rw [Nat.add_assoc, h (k + j) (by omega)]
    simp

theorem CInv.next {w : World} {bx b : Nat} {X Y : List Nat} {wr : World} {ox nx cx oy ny cy : Nat} {lx ly : List UInt8} {r : Nat} {rx ry : List Nat} {n m : Nat} (h : CInv w bx b X Y wr ox nx cx oy ny cy lx ly (r :: rx) (r :: ry)) (hx : Runes (lx.drop n) rx) (hy : Runes (ly.drop m) ry)
    {w' : World} (hb : Below wr.heap.size wr w') (h1 : bx < w.heap.size) (h2 : b < w.heap.size) : CInv w bx b X Y w' (if cx = n then ox else ox + n) (nx - n) (cx - n) (if cy = m then oy else oy + m) (ny - m) (cy - m) (lx.drop n) (ly.drop m) rx ry := by
  have hs := h.below.size
  refine ⟨by rw [List.length_drop, h.lenx], by rw [List.length_drop, h.leny], by have := h.capx; omega, by have := h.capy; omega, ?_, ?_, hx, hy, below_step h.below hb, h.eq.trans (cmpK_eq _ _ _)⟩
  · exact (h.hx.rest h.lenx h.capx).below hb (by omega)
  · exact (h.hy.rest h.leny h.capy).below hb (by omega)

theorem Runes.nil_left {l : List UInt8} {rs : List Nat} (h : Runes l rs) : l = [] ↔ rs = [] := by
  cases h with
  | nil => simp
  | cons a _ => exact ⟨fun e => absurd e a.ne, fun e => by simp at e⟩

theorem cmp_left {w : World} {bx b : Nat} {X Y : List Nat} {wr : World} {ox cx oy ny cy : Nat} {lx ly : List UInt8} {rx ry : List Nat} (h : CInv w bx b X Y wr ox 0 cx oy ny cy lx ly rx ry) : cmpK X Y = cmpI 0 (ny : Int) := by
  have e1 : rx = [] := h.runx.nil_left.1 (List.eq_nil_of_length_eq_zero h.lenx.symm)
  have hny := h.leny
  rw [h.eq, e1]
  by_cases h2 : ny = 0
  · have e2 : ry = [] := h.runy.nil_left.1 (List.eq_nil_of_length_eq_zero (by omega))
    rw [e2, h2]
    rfl
  · cases ry with
    | nil => exact absurd (by rw [h.runy.nil_left.2 rfl] at hny; simpa using hny) h2
    | cons a t =>
      unfold cmpI
      rw [if_pos (by omega)]
      rfl

theorem cmp_right {w : World} {bx b : Nat} {X Y : List Nat} {wr : World} {ox nx cx oy cy : Nat} {lx ly : List UInt8} {rx ry : List Nat} (h : CInv w bx b X Y wr ox nx cx oy 0 cy lx ly rx ry) (h0 : nx ≠ 0) : cmpK X Y = cmpI (nx : Int) 0 := by
  have e1 : ry = [] := h.runy.nil_left.1 (List.eq_nil_of_length_eq_zero h.leny.symm)
  have hnx := h.lenx
  rw [h.eq, e1]
  cases rx with
  | nil => exact absurd (by rw [h.runx.nil_left.2 rfl] at hnx; simpa using hnx) h0
  | cons a t =>
    unfold cmpI
    rw [if_neg (by omega), if_pos (by omega)]
    rfl

/-- How long a slice is. -/
def lenOf : Value → Nat
  | .slice _ n _ => n
  | _ => 0

theorem okr_self {r : Nat} (h : Okr r) (k : r ≤ 65535) : (0 ≤ (r : Int) ∧ (r : Int) ≤ 55295) ∨ (57344 ≤ (r : Int) ∧ (r : Int) ≤ 65535) := by unfold Okr at h; omega
theorem okr_big {r : Nat} (k : ¬ r ≤ 65535) : 65536 ≤ (r : Int) := by omega
theorem okr_le {r : Nat} (h : Okr r) : (r : Int) ≤ 1114111 := by unfold Okr at h; omega
theorem int_ne {r q : Nat} (h : r ≠ q) : ((r : Int) != (q : Int)) = true := by rw [bne_iff_ne]; omega
theorem valid_int {r n : Nat} (h : r ≠ 65533 ∨ (n : Int) ≠ 1) : (r : Int) ≠ 65533 ∨ (n : Int) ≠ 1 := by omega

theorem nextEnd {w : World} {bx b : Nat} {X Y : List Nat} {wr : World} {ox nx cx oy ny cy : Nat} {lx ly : List UInt8} {r : Nat} {rx ry : List Nat} {n m : Nat} (h : CInv w bx b X Y wr ox nx cx oy ny cy lx ly (r :: rx) (r :: ry)) (hx : Runes (lx.drop n) rx) (hy : Runes (ly.drop m) ry)
    {w' : World} (hb : Below wr.heap.size wr w') (h1 : bx < w.heap.size) (h2 : b < w.heap.size) (hn : 1 ≤ n) (hle : n ≤ nx) :
    (∃ (ox' nx' cx' oy' ny' cy' : Nat) (lx' ly' : List UInt8) (rx' ry' : List Nat), Value.slice (if cx = n then some ⟨bx, ox, none⟩ else some ⟨bx, ox + n, none⟩) (nx - n) (cx - n) = .slice (some ⟨bx, ox', none⟩) nx' cx' ∧
      Value.slice (if cy = m then some ⟨b, oy, none⟩ else some ⟨b, oy + m, none⟩) (ny - m) (cy - m) = .slice (some ⟨b, oy', none⟩) ny' cy' ∧ CInv w bx b X Y w' ox' nx' cx' oy' ny' cy' lx' ly' rx' ry') ∧
    lenOf (.slice (if cx = n then some ⟨bx, ox, none⟩ else some ⟨bx, ox + n, none⟩) (nx - n) (cx - n)) < lenOf (.slice (some ⟨bx, ox, none⟩) nx cx) := by
  refine ⟨⟨_, _, _, _, _, _, _, _, _, _, ?_, ?_, h.next hx hy hb h1 h2⟩, ?_⟩
  · by_cases e : cx = n
    · rw [if_pos e, if_pos e]
    · rw [if_neg e, if_neg e]
  · by_cases e : cy = m
    · rw [if_pos e, if_pos e]
    · rw [if_neg e, if_neg e]
  · show nx - n < nx
    omega

theorem belowSame {n : Nat} {w wr w' : World} (h : Below n w wr) (h1 : w'.os = wr.os) (h2 : w'.tape = wr.tape) (h3 : w'.output = wr.output) (h4 : w'.heap = wr.heap) : Below n w w' :=
  ⟨h1.trans h.os, h2.trans h.tape, h3.trans h.output, by rw [h4]; exact h.size, fun k hk => by rw [h4]; exact h.block k hk⟩

theorem tabs_below {w w' : World} (h : Lib.Utf8Tabs 0 1 w) (hb : Below w.heap.size w w') : Lib.Utf8Tabs 0 1 w' := Utf8Tabs_below h hb

set_option maxRecDepth 100000 in
set_option maxHeartbeats 4000000 in
theorem compare_any (lx ly : List UInt8) (X Y : List Nat) (bx b nx ny cx cy : Nat) (w : World) (hX : Runes lx X) (hY : Runes ly Y) (hnx : nx = lx.length) (hny : ny = ly.length) (hcx : nx ≤ cx) (hcy : ny ≤ cy)
    (hbx : bx < w.heap.size) (hby : b < w.heap.size) (hx : Bytes w bx 0 lx) (hy : Bytes w b 0 ly) (hT : Lib.Utf8Tabs 0 1 w) :
    Calls Tryd.prog 8 #[.slice (some ⟨bx, 0, none⟩) nx cx, .slice (some ⟨b, 0, none⟩) ny cy] w fun e w' => e = .returned (.int .i64 (cmpK X Y)) ∧ Below w.heap.size w w' := by
  have HI0 := Lib.hid (show CInv w bx b X Y w 0 nx cx 0 ny cy lx ly X Y from ⟨hnx, hny, hcx, hcy, hx, hy, hX, hY, Below.refl _ _, rfl⟩)
  have HT := Lib.hid hT
  clear hX hY hnx hny hcx hcy hx hy hT
  go_enter Tryd.func8, Tryd.ntmps8
  go_wp2
  go_loopw [0, 1, 6, 7, 8, 9, 10, 11] (fun x y _ _ _ _ _ _ wr => ∃ (ox nx cx oy ny cy : Nat) (lx ly : List UInt8) (rx ry : List Nat), x = .slice (some ⟨bx, ox, none⟩) nx cx ∧ y = .slice (some ⟨b, oy, none⟩) ny cy ∧ CInv w bx b X Y wr ox nx cx oy ny cy lx ly rx ry)
    (fun x _ _ _ _ _ _ _ _ => lenOf x)
  case atStart => exact ⟨_, _, _, _, _, _, _, _, _, _, rfl, rfl, HI0.out⟩
  case round =>
    clear HI0
    obtain ⟨ox, nx, cx, oy, ny, cy, lx, ly, rx, ry, rfl, rfl, hinv⟩ := hrel
    have HI := Lib.hid hinv
    clear hinv
    by_cases hx0 : nx = 0
    · subst hx0
      have hE : cmpK X Y = cmpI 0 (ny : Int) := cmp_left HI.out
      have HE := Lib.hid hE
      clear hE
      go_wp2_with (go_at_call 10; refine (cmpInt _ _ _).mono ?_; rintro e w1 ⟨rfl, rfl⟩)
      go_ret
      rw [HE.out]
      exact ⟨rfl, HI.out.below⟩
    by_cases hy0 : ny = 0
    · subst hy0
      have hE : cmpK X Y = cmpI (nx : Int) 0 := cmp_right HI.out hx0
      have HE := Lib.hid hE
      clear hE
      go_wp2_with (go_at_call 10; refine (cmpInt _ _ _).mono ?_; rintro e w1 ⟨rfl, rfl⟩)
      go_ret
      rw [HE.out]
      exact ⟨rfl, HI.out.below⟩
    have hlx : 0 < lx.length := by rw [← HI.out.lenx]; omega
    have hly : 0 < ly.length := by rw [← HI.out.leny]; omega
    obtain ⟨n, rx, hcx1, hrx, rfl⟩ := HI.out.runx.head (List.ne_nil_of_length_pos hlx)
    obtain ⟨m, ry, hcy1, hry, rfl⟩ := HI.out.runy.head (List.ne_nil_of_length_pos hly)
    have hax := HI.out.hx.at 0 hlx
    have hay := HI.out.hy.at 0 hly
    rw [Nat.add_zero] at hax hay
    have hfx := head_facts hcx1 hlx
    have hfy := head_facts hcy1 hly
    obtain ⟨okx, _⟩ := char_facts hcx1
    obtain ⟨oky, _⟩ := char_facts hcy1
    have hnx1 : n ≤ nx := by rw [HI.out.lenx]; exact hcx1.le.2
    have hmy1 : m ≤ ny := by rw [HI.out.leny]; exact hcy1.le.2
    have hn1 := hcx1.le.1
    have hm1 := hcy1.le.1
    have hxc := HI.out.capx
    have hyc := HI.out.capy
    have DX := Lib.hid (fun wz hb => decodeRune_any lx n hcx1 bx ox nx cx wz HI.out.lenx (HI.out.hx.below (w' := wz) hb (by have := HI.out.below.size; omega)))
    have DY := Lib.hid (fun wz hb => decodeRune_any ly m hcy1 b oy ny cy wz HI.out.leny (HI.out.hy.below (w' := wz) hb (by have := HI.out.below.size; omega)))
    have HRX := Lib.hid hrx
    have HRY := Lib.hid hry
    have hvalx : rv (lx.take n) ≠ 65533 ∨ (n : Int) ≠ 1 := by
      by_cases e : n = 1
      · left
        rcases hfx with ⟨f1, f2, f3⟩ | ⟨f1, f2⟩
        · omega
        · intro e2
          have := (char_facts hcx1).2.1
          rw [e2, e] at this
          have := congrArg List.length this
          simp [Lib.encodeRune, Lib.encodeRuneZ] at this
          omega
      · right; omega
    have hvaly : rv (ly.take m) ≠ 65533 ∨ (m : Int) ≠ 1 := by
      by_cases e : m = 1
      · left
        rcases hfy with ⟨f1, f2, f3⟩ | ⟨f1, f2⟩
        · omega
        · intro e2
          have := (char_facts hcy1).2.1
          rw [e2, e] at this
          have := congrArg List.length this
          simp [Lib.encodeRune, Lib.encodeRuneZ] at this
          omega
      · right; omega
    clear hcx1 hcy1 hrx hry
    generalize rv (lx.take n) = r at *
    generalize rv (ly.take m) = q at *
    generalize lx[0].toNat = a at *
    generalize ly[0].toNat = c at *
    have hnz : ((nx : Int) == 0) = false := by rw [beq_eq_false_iff_ne]; omega
    have hnz' : ((ny : Int) == 0) = false := by rw [beq_eq_false_iff_ne]; omega
    have hp1 : (0 : Int) < (nx : Int) := by omega
    have hp2 : (0 : Int) < (ny : Int) := by omega
    have hdx : decide ((a : Int) < 128) = decide (a < 128) := by simp; omega
    by_cases hasc : a < 128 ∨ c < 128
    · by_cases hne : a = c
      · subst hne
        have ha1 : (a : Int) < 128 := by omega
        have ea : a < 128 := by omega
        obtain ⟨rfl, rfl⟩ : 1 = n ∧ a = r := by
          rcases hfx with ⟨_, h1, h2⟩ | ⟨h1, _⟩
          · exact ⟨h1.symm, h2.symm⟩
          · omega
        obtain ⟨rfl, rfl⟩ : 1 = m ∧ a = q := by
          rcases hfy with ⟨_, h1, h2⟩ | ⟨h1, _⟩
          · exact ⟨h1.symm, h2.symm⟩
          · omega
        go_wp2_with fail
        go_big_quiet (fail)
        go_wp2_with fail
        go_big_quiet (fail)
        go_wp2_with fail
        exact nextEnd HI.out HRX.out HRY.out (belowSame (Below.refl _ _) rfl rfl rfl rfl) hbx hby (Nat.le_refl _) (by omega)
      · have hE := HI.out.eq.trans (cmp_ascii rx ry (by omega) (by omega) hasc hne)
        have HE := Lib.hid hE
        have hne' : ((a : Int) != (c : Int)) = true := by rw [bne_iff_ne]; omega
        clear hE
        by_cases ha1 : (a : Int) < 128
        · go_wp2_with fail
          go_big_quiet (fail)
          go_wp2_with fail
          go_region_with (go_at_call 11; refine (cmpByte _ _ _).mono ?_; rintro e w1 ⟨rfl, rfl⟩)
          all_goals
            go_wp2_with fail
            go_ret
            rw [HE.out]
            exact ⟨rfl, belowSame HI.out.below rfl rfl rfl rfl⟩
        · have hc1 : (c : Int) < 128 := by omega
          go_wp2_with fail
          go_big_quiet (fail)
          go_wp2_with fail
          go_region_with (go_at_call 11; refine (cmpByte _ _ _).mono ?_; rintro e w1 ⟨rfl, rfl⟩)
          all_goals
            go_wp2_with fail
            go_ret
            rw [HE.out]
            exact ⟨rfl, belowSame HI.out.below rfl rfl rfl rfl⟩
    · have ha2 : ¬ (a : Int) < 128 := by omega
      have hc2 : ¬ (c : Int) < 128 := by omega
      go_wp2_with fail
      refine (DX.out _ (Below.refl _ _) (tabs_below HT.out HI.out.below)).mono ?_
      rintro e w1 ⟨rfl, b1⟩
      have B1 := Lib.hid b1
      have C1 := Lib.hid (below_step HI.out.below b1)
      clear b1
      go_wp2_with fail
      refine (DY.out _ (B1.out.mono HI.out.below.size) (tabs_below HT.out C1.out)).mono ?_
      rintro e w2 ⟨rfl, b2⟩
      have B2 := Lib.hid (below_step B1.out b2)
      have C2 := Lib.hid (below_step C1.out b2)
      clear b2 C1 B1
      by_cases k1 : r ≤ 65535
      · have s1 : (0 ≤ (r : Int) ∧ (r : Int) ≤ 55295) ∨ (57344 ≤ (r : Int) ∧ (r : Int) ≤ 65535) := okr_self okx k1
        have S1 := Lib.hid s1
        clear s1
        go_wp2_with fail
        refine (self_yes _ S1.out _).mono ?_
        rintro e w3 ⟨rfl, rfl⟩
        by_cases k2 : q ≤ 65535
        · have s2 : (0 ≤ (q : Int) ∧ (q : Int) ≤ 55295) ∨ (57344 ≤ (q : Int) ∧ (q : Int) ≤ 65535) := okr_self oky k2
          have S2 := Lib.hid s2
          clear s2
          go_wp2_with fail
          refine (self_yes _ S2.out _).mono ?_
          rintro e w3 ⟨rfl, rfl⟩
          by_cases hrq : r = q
          · subst hrq
            have V1 := Lib.hid hvalx
            have V2 := Lib.hid hvaly
            clear hvalx hvaly
            have hnn : (n : Int).toNat = n := Int.toNat_natCast _
            go_wp2_with fail
            refine (valid_yes _ _ (valid_int V1.out) _).mono ?_
            rintro e w3 ⟨rfl, rfl⟩
            go_wp2_with fail
            refine (valid_yes _ _ (valid_int V2.out) _).mono ?_
            rintro e w3 ⟨rfl, rfl⟩
            go_wp2_with fail
            go_big_quiet (fail)
            go_wp2_with fail
            exact nextEnd HI.out HRX.out HRY.out (belowSame B2.out rfl rfl rfl rfl) hbx hby hn1 hnx1
          · have HE := Lib.hid (HI.out.eq.trans (cmp_small rx ry k1 k2 hrq))
            have hne : ((r : Int) != (q : Int)) = true := int_ne hrq
            go_wp2_with fail
            refine (cmpRune _ _ _).mono ?_
            rintro e w3 ⟨rfl, rfl⟩
            go_wp2_with fail
            go_ret
            rw [HE.out]
            exact ⟨rfl, C2.out⟩
        · obtain ⟨he, hne'⟩ := cmp_mixed rx ry okx oky k1 k2
          have HE := Lib.hid (HI.out.eq.trans he)
          have hne : ((r : Int) != 55296 + ((q : Int) - 65536) / 1024) = true := by rw [bne_iff_ne]; exact hne'
          clear he hne'
          go_wp2_with fail
          refine (self_no _ (okr_big (by assumption)) _).mono ?_
          rintro e w3 ⟨rfl, rfl⟩
          go_wp2_with fail
          refine (encode16 _ (okr_big k2) (okr_le oky) _).mono ?_
          rintro e w3 ⟨⟨x, rfl⟩, rfl⟩
          go_wp2_with fail
          refine (cmpRune _ _ _).mono ?_
          rintro e w3 ⟨rfl, rfl⟩
          go_wp2_with fail
          go_ret
          rw [HE.out]
          exact ⟨rfl, C2.out⟩
      · go_wp2_with fail
        refine (self_no _ (okr_big (by assumption)) _).mono ?_
        rintro e w3 ⟨rfl, rfl⟩
        by_cases k2 : q ≤ 65535
        · have s2 : (0 ≤ (q : Int) ∧ (q : Int) ≤ 55295) ∨ (57344 ≤ (q : Int) ∧ (q : Int) ≤ 65535) := okr_self oky k2
          have S2 := Lib.hid s2
          clear s2
          obtain ⟨he, hne'⟩ := cmp_mixed' rx ry okx oky k1 k2
          have HE := Lib.hid (HI.out.eq.trans he)
          have hne : ((55296 + ((r : Int) - 65536) / 1024) != (q : Int)) = true := by rw [bne_iff_ne]; exact hne'
          clear he hne'
          go_wp2_with fail
          refine (self_yes _ S2.out _).mono ?_
          rintro e w3 ⟨rfl, rfl⟩
          go_wp2_with fail
          refine (encode16 _ (okr_big k1) (okr_le okx) _).mono ?_
          rintro e w3 ⟨⟨x, rfl⟩, rfl⟩
          go_wp2_with fail
          refine (cmpRune _ _ _).mono ?_
          rintro e w3 ⟨rfl, rfl⟩
          go_wp2_with fail
          go_ret
          rw [HE.out]
          exact ⟨rfl, C2.out⟩
        · go_wp2_with fail
          refine (self_no _ (okr_big (by assumption)) _).mono ?_
          rintro e w3 ⟨rfl, rfl⟩
          by_cases hrq : r = q
          · subst hrq
            have V1 := Lib.hid hvalx
            have V2 := Lib.hid hvaly
            clear hvalx hvaly
            have hnn : (n : Int).toNat = n := Int.toNat_natCast _
            go_wp2_with fail
            refine (valid_yes _ _ (valid_int V1.out) _).mono ?_
            rintro e w3 ⟨rfl, rfl⟩
            go_wp2_with fail
            refine (valid_yes _ _ (valid_int V2.out) _).mono ?_
            rintro e w3 ⟨rfl, rfl⟩
            go_wp2_with fail
            go_big_quiet (fail)
            go_wp2_with fail
            exact nextEnd HI.out HRX.out HRY.out (belowSame B2.out rfl rfl rfl rfl) hbx hby hn1 hnx1
          · have HE := Lib.hid (HI.out.eq.trans (cmp_great rx ry k1 k2 hrq))
            have hne : ((r : Int) != (q : Int)) = true := int_ne hrq
            go_wp2_with fail
            refine (cmpRune _ _ _).mono ?_
            rintro e w3 ⟨rfl, rfl⟩
            go_wp2_with fail
            go_ret
            rw [HE.out]
            exact ⟨rfl, C2.out⟩

end Go.Proofs.YtjeijgpahdjbbaaDoor
