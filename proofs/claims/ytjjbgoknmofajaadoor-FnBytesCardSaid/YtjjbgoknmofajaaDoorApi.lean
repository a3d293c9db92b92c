/- jsontext's AppendQuote and AppendUnquote, of strings and of bytes; the thin package's four functions. -/
import Derived.Test.YtjjbgoknmofajaaDoorAppV
import Derived.Test.YtjjbgoknmofajaaDoorFlagB
namespace Go.Proofs.YtjjbgoknmofajaaDoor.Wire
open Go.RowKit Go.Proofs.YtjjbgoknmofajaaDoor

/-- What the tables of UTF-8 and the sentinels must hold. -/
structure W4 (u1 u2 : TypeId) (x1 x2 : Value) (w : World) : Prop where
  utf : Lib.Utf8Tabs 3 4 w
  e1 : w.cell? ⟨1, 0, none⟩ = some (.iface u1 x1)
  e2 : w.cell? ⟨2, 0, none⟩ = some (.iface u2 x2)
  size : 5 ≤ w.heap.size

theorem W4.below {u1 u2 : TypeId} {x1 x2 : Value} {w w' : World} (h : W4 u1 u2 x1 x2 w) (b : Below w.heap.size w w') : W4 u1 u2 x1 x2 w' :=
  ⟨Go.Proofs.Utf8Tabs_below h.utf b, (b.cell (p := ⟨1, 0, none⟩) (Nat.lt_of_lt_of_le (by decide) h.size)).trans h.e1, (b.cell (p := ⟨2, 0, none⟩) (Nat.lt_of_lt_of_le (by decide) h.size)).trans h.e2, Nat.le_trans h.size b.size⟩

/-- .. and the table of ASCII. -/
structure World5 (f : Nat → Nat) (u1 u2 : TypeId) (x1 x2 : Value) (w : World) : Prop where
  esc : EscTab f w
  w4 : W4 u1 u2 x1 x2 w

theorem World5.below {f : Nat → Nat} {u1 u2 : TypeId} {x1 x2 : Value} {w w' : World} (h : World5 f u1 u2 x1 x2 w) (b : Below w.heap.size w w') : World5 f u1 u2 x1 x2 w' :=
  ⟨h.esc.below b (by have := h.w4.size; omega), h.w4.below b⟩

/-- What unquoting leaves. -/
structure UAll (w : World) (v0 : Value) (l0 l : List UInt8) (e : Ending) (w' : World) : Prop where
  what : ∃ q ok v' x, UnqAll l q ok ∧ q.length ≤ 3 * l.length + 8 ∧ AppTo w v0 w' v' (l0 ++ q) ∧ ErrIs ok x ∧ e = .returned (.tuple #[v', x])

set_option maxRecDepth 100000 in
set_option maxHeartbeats 2000000 in
theorem appUnq_nil (u1 u2 : TypeId) (x1 x2 : Value) (v0 : Value) (l0 : List UInt8) (b cap : Nat) (w : World) (hown : Own w v0 l0) (h0 : ∀ a, baseOf v0 = some a → 5 ≤ a.block) (hW : W4 u1 u2 x1 x2 w) (hl0 : l0.length ≤ 100000) :
    Calls Tryd.prog 52 #[v0, .slice (some ⟨b, 0, none⟩) 0 cap] w (UAll w v0 l0 []) := by
  have HO := Lib.hid hown
  have H0 := Lib.hid h0
  have HW := Lib.hid hW
  have h5 := hW.size
  clear hown h0 hW
  go_enter Tryd.func52, Tryd.ntmps52
  go_wp2_with fail
  refine (grow_int v0 l0 _ 0 (by rfl) _ HO.out (by omega)).mono ?_
  rintro e w1 ⟨v1, rfl, k1⟩
  have hE2 := (k1.cell 0 (by omega) (fun x hx => by have := H0.out x hx; omega)).trans HW.out.e2
  have K1 := Lib.hid k1
  clear k1
  go_wp2_with fail
  go_big_quiet (fail)
  go_wp2_with fail
  go_ret2
  refine ⟨[], false, v1, _, .empty, by simp, ?_, err_no, rfl⟩
  rw [List.append_nil]
  exact app_drewN K1.out _

set_option maxRecDepth 100000 in
set_option maxHeartbeats 2000000 in
theorem appUnq_wrong (u1 u2 : TypeId) (x1 x2 : Value) (v0 : Value) (l0 : List UInt8) (c : UInt8) (t : List UInt8) (h34 : c ≠ 34) (b n cap : Nat) (w : World) (hn : n = (c :: t).length) (hown : Own w v0 l0) (h0 : ∀ a, baseOf v0 = some a → 5 ≤ a.block) (hW : W4 u1 u2 x1 x2 w)
    (hb : b < w.heap.size) (hne : ∀ a, baseOf v0 = some a → a.block ≠ b) (hbytes : Bytes w b 0 (c :: t)) (hlen : n ≤ cap) (hl0 : l0.length ≤ 100000) (hlz : (c :: t).length ≤ 100000) :
    Calls Tryd.prog 52 #[v0, .slice (some ⟨b, 0, none⟩) n cap] w (UAll w v0 l0 (c :: t)) := by
  have hc0 := hbytes.at0 0 (by simp)
  obtain ⟨a, ha⟩ : ∃ a : Nat, a = c.toNat := ⟨_, rfl⟩
  have hg : (c :: t)[0]'(by simp) = c := rfl
  rw [hg, ← ha] at hc0
  have n34 : ((a : Int) == 34) = false := by
    rw [beq_eq_false_iff_ne]
    intro e
    exact h34 (UInt8.toNat_inj.1 (by rw [← ha]; show a = 34; omega))
  have hn1 : 0 < n := by rw [hn]; simp
  have hn3 : (0 : Int) < (n : Int) := by omega
  have hn4 : ((n : Int) == 0) = false := by rw [beq_eq_false_iff_ne]; omega
  have hnz : n ≤ 100000 := by rw [hn]; exact hlz
  have HO := Lib.hid hown
  have H0 := Lib.hid h0
  have HW := Lib.hid hW
  have HBY := Lib.hid hbytes
  have HNE := Lib.hid hne
  have HN := Lib.hid hn
  have H34 := Lib.hid h34
  have h5 := hW.size
  clear hown hbytes h0 hW hne hn hg ha hlz h34
  go_enter Tryd.func52, Tryd.ntmps52
  go_wp2_with fail
  refine (grow_int v0 l0 _ n (by rfl) _ HO.out (by omega)).mono ?_
  rintro e w1 ⟨v1, rfl, k1⟩
  have hc1 := (k1.cell 0 hb HNE.out).trans hc0
  have hB1 := HBY.out.kept k1.kept hb HNE.out
  have K1 := Lib.hid k1
  have HB1 := Lib.hid hB1
  have hsz := k1.kept.size
  clear k1 hB1 hc0
  go_wp2_with fail
  refine (newChar' (c :: t) (List.cons_ne_nil _ _) b 0 _ _ _ _ HN.out HB1.out (utf8_app HW.out.utf K1.out h5 H0.out) (by omega) (by have := HN.out; omega)).mono ?_
  rintro e w2 ⟨b2, ue, xe, rfl⟩
  have K2 := Lib.hid (app_below K1.out b2)
  clear b2
  go_wp2_with fail
  go_ret2
  exact ⟨[], false, v1, _, .wrong H34.out, by simp, by rw [List.append_nil]; exact K2.out, err_no, rfl⟩

theorem appUnq_all (u1 u2 : TypeId) (x1 x2 : Value) (v0 : Value) (l0 l : List UInt8) (b n cap : Nat) (w : World) (hn : n = l.length) (hown : Own w v0 l0) (h0 : ∀ a, baseOf v0 = some a → 5 ≤ a.block) (hW : W4 u1 u2 x1 x2 w)
    (hb : b < w.heap.size) (hne : ∀ a, baseOf v0 = some a → a.block ≠ b) (hbytes : Bytes w b 0 l) (hlen : n ≤ cap) (hl0 : l0.length ≤ 100000) (hlz : l.length ≤ 100000) :
    Calls Tryd.prog 52 #[v0, .slice (some ⟨b, 0, none⟩) n cap] w (UAll w v0 l0 l) := by
  cases l with
  | nil =>
    subst hn
    exact appUnq_nil u1 u2 x1 x2 v0 l0 b cap w hown h0 hW hl0
  | cons c t =>
    by_cases h34 : c = 34
    · subst h34
      refine (appUnq_any u1 u2 x1 x2 v0 l0 (34 :: t) b n cap w ⟨t, rfl⟩ hn hown h0 hW.size hW.e1 hW.e2 hW.utf hb hne hbytes hlen hl0 hlz).mono ?_
      rintro e w' ⟨q, ok, v', x, h1, h2, h3, h4, h5⟩
      exact ⟨q, ok, v', x, .right h1, h2, h3, h4, h5⟩
    · exact appUnq_wrong u1 u2 x1 x2 v0 l0 c t h34 b n cap w hn hown h0 hW hb hne hbytes hlen hl0 hlz

theorem AppTo.ofBelow' {w w2 : World} {v : Value} {l : List UInt8} (h : Own w v l) (hb : Below w.heap.size w w2) : AppTo w v w2 v l :=
  ⟨h.below hb h.lt, ⟨hb.os, hb.tape, hb.output, hb.size, fun k hk _ => hb.block k hk, fun a _ hlt o _ => cell_of_heap (hb.block a.block hlt) o⟩, At.refl _ _⟩

theorem zero_get (m : Int) (hm : m = 4 ∨ m = 512 ∨ m = 1024) : Asks 0 0 m false := by
  have h := FlagB.get_any 0 0 m
  have e : decide (0 < bits .and .u64 0 m) = false := by rcases hm with rfl | rfl | rfl <;> decide +kernel
  rw [e] at h
  exact h

/-- The plain way to quote. -/
abbrev f0 : List UInt8 → List UInt8 := fx false false

/-- What quoting leaves. -/
structure QAll (w : World) (v0 : Value) (l0 l : List UInt8) (e : Ending) (w' : World) : Prop where
  what : ∃ q ok v' x, Quoted f0 l q ∧ q.length ≤ 8 * l.length ∧ AppTo w v0 w' v' (l0 ++ 34 :: (q ++ [34])) ∧ (ok = true ↔ Text l) ∧ ErrIs ok x ∧ e = .returned (.tuple #[v', x])

theorem QAll.of {w w' : World} {v0 : Value} {l0 l : List UInt8} {u1 : TypeId} {x1 : Value} {e : Ending} (h : WRet w v0 l0 f0 l false (.iface u1 x1) e w') : QAll w v0 l0 l e w' := by
  obtain ⟨q, v', h1, h2, h3, h4, h5⟩ := h
  by_cases ht : Text l
  · exact ⟨q, true, v', _, h1, h2, by simpa [List.append_assoc] using h3, ⟨fun _ => ht, fun _ => rfl⟩, ⟨fun _ => rfl, fun h => by cases h⟩, h4 (.inl ht)⟩
  · exact ⟨q, false, v', _, h1, h2, by simpa [List.append_assoc] using h3, ⟨fun h => (by cases h), fun h => absurd h ht⟩, err_no, h5 ht rfl⟩

set_option maxRecDepth 100000 in
set_option maxHeartbeats 2000000 in
theorem appQ_str (f : Nat → Nat) (u1 u2 : TypeId) (x1 x2 : Value) (v0 : Value) (l0 : List UInt8) (s : ByteArray) (w : World) (hW : World5 f u1 u2 x1 x2 w) (hf : EscAll f) (hown : Own w v0 l0) (h0 : ∀ a, baseOf v0 = some a → 5 ≤ a.block) (hl0 : l0.length ≤ 100000) (hs : s.size ≤ 100000) :
    Calls Tryd.prog 34 #[v0, .string s] w (QAll w v0 l0 s.data.toList) := by
  have HW := Lib.hid hW
  have HF := Lib.hid hf
  have HO := Lib.hid hown
  have H0 := Lib.hid h0
  have h5 := hW.w4.size
  clear hW hf hown h0
  go_enter Tryd.func34, Tryd.ntmps34
  go_wp2_with (first
    | (refine wpList_conv u8q rfl (.tmp 9) 9 rfl string9q rfl (by unfold maxLen; omega) ?_
       intro c1 w1 o1 b1 z1
       have O1 := Lib.hid o1
       have B1 := Lib.hid b1
       have Z1 := Lib.hid z1
       clear o1 b1 z1))
  have hsl := O1.out.slice
  have ha := (AppTo.ofBelow' HO.out B1.out).alloc (.cells #[.int .u64 0, .int .u64 0] 76)
  have hlt := HO.out.lt
  have hz := Z1.out
  have hbx : Below w.heap.size w (w1.alloc (.cells #[.int .u64 0, .int .u64 0] 76)) := B1.out.alloc B1.out.size _
  have hWx := HW.out.below hbx
  refine (appendQuote_any f false false false 0 0 (.iface u1 x1) v0 l0 s.data.toList w.heap.size s.size c1 w1.heap.size _ hWx.esc HF.out hWx.w4.utf (by rw [size_eq]) ha.own H0.out hWx.w4.size hWx.w4.e1 (by simp; omega)
    (fun a ea => by have := hlt a ea; omega) (hsl.2.2.2.2.heap (Below.heap_alloc _ _ _ hsl.2.2.2.1)) hsl.2.1 (World.cell?_alloc_new w1 _ _ 0) (World.cell?_alloc_new w1 _ _ 1) (by simp) (fun a ea => by have := hlt a ea; omega)
    (zero_get 512 (.inr (.inl rfl))) (zero_get 1024 (.inr (.inr rfl))) (zero_get 4 (.inl rfl)) (by omega) (by rw [size_eq]; omega)).mono ?_
  intro e w3 hret
  obtain ⟨q, ok, v', x, h1, h2, h3, h4, h5', rfl⟩ := QAll.of hret
  have K3 := Lib.hid (ha.trans h3)
  have H1 := Lib.hid h1
  have H2 := Lib.hid h2
  have H4 := Lib.hid h4
  clear h1 h2 h3 h4 hret ha hlt hWx hsl
  cases ok with
  | true =>
    obtain rfl := h5'.1 rfl
    clear h5'
    go_wp2_with fail
    go_ret2
    exact ⟨q, true, v', _, H1.out, H2.out, K3.out, by simpa using H4.out, ⟨fun _ => rfl, fun h => by cases h⟩, rfl⟩
  | false =>
    obtain ⟨ue, xe, rfl⟩ := h5'.2 rfl
    clear h5'
    go_wp2_with fail
    go_ret2
    exact ⟨q, false, v', _, H1.out, H2.out, K3.out.alloc _, H4.out, err_no, rfl⟩

set_option maxRecDepth 100000 in
set_option maxHeartbeats 2000000 in
theorem appQ_bytes (f : Nat → Nat) (u1 u2 : TypeId) (x1 x2 : Value) (v0 : Value) (l0 l : List UInt8) (b n cap : Nat) (w : World) (hW : World5 f u1 u2 x1 x2 w) (hf : EscAll f) (hown : Own w v0 l0) (h0 : ∀ a, baseOf v0 = some a → 5 ≤ a.block) (hn : n = l.length)
    (hb : b < w.heap.size) (hne : ∀ a, baseOf v0 = some a → a.block ≠ b) (hbytes : Bytes w b 0 l) (hlen : n ≤ cap) (hl0 : l0.length ≤ 100000) (hs : l.length ≤ 100000) :
    Calls Tryd.prog 36 #[v0, .slice (some ⟨b, 0, none⟩) n cap] w (QAll w v0 l0 l) := by
  have HW := Lib.hid hW
  have HF := Lib.hid hf
  have HO := Lib.hid hown
  have H0 := Lib.hid h0
  have HN := Lib.hid hn
  have HNE := Lib.hid hne
  have HBY := Lib.hid hbytes
  have h5 := hW.w4.size
  clear hW hf hown h0 hn hne hbytes
  go_enter Tryd.func36, Tryd.ntmps36
  go_wp2_with fail
  have ha := (AppTo.refl HO.out).alloc (.cells #[.int .u64 0, .int .u64 0] 76)
  have hlt := HO.out.lt
  have hbx : Below w.heap.size w (w.alloc (.cells #[.int .u64 0, .int .u64 0] 76)) := (Below.refl _ _).alloc (Nat.le_refl _) _
  have hWx := HW.out.below hbx
  refine (appendQuote_any f false false false 0 0 (.iface u1 x1) v0 l0 l b n cap w.heap.size _ hWx.esc HF.out hWx.w4.utf HN.out ha.own H0.out hWx.w4.size hWx.w4.e1 (by simp; omega)
    HNE.out (HBY.out.heap (Below.heap_alloc _ _ _ hb)) (by rw [← HN.out]; exact hlen) (World.cell?_alloc_new w _ _ 0) (World.cell?_alloc_new w _ _ 1) (by simp) (fun a ea => by have := hlt a ea; omega)
    (zero_get 512 (.inr (.inl rfl))) (zero_get 1024 (.inr (.inr rfl))) (zero_get 4 (.inl rfl)) (by omega) (by omega)).mono ?_
  intro e w3 hret
  obtain ⟨q, ok, v', x, h1, h2, h3, h4, h5', rfl⟩ := QAll.of hret
  have K3 := Lib.hid (ha.trans h3)
  have H1 := Lib.hid h1
  have H2 := Lib.hid h2
  have H4 := Lib.hid h4
  clear h1 h2 h3 h4 hret ha hlt hWx
  cases ok with
  | true =>
    obtain rfl := h5'.1 rfl
    clear h5'
    go_wp2_with fail
    go_ret2
    exact ⟨q, true, v', _, H1.out, H2.out, K3.out, by simpa using H4.out, ⟨fun _ => rfl, fun h => by cases h⟩, rfl⟩
  | false =>
    obtain ⟨ue, xe, rfl⟩ := h5'.2 rfl
    clear h5'
    go_wp2_with fail
    go_ret2
    exact ⟨q, false, v', _, H1.out, H2.out, K3.out.alloc _, H4.out, err_no, rfl⟩

set_option maxRecDepth 100000 in
set_option maxHeartbeats 2000000 in
theorem appU_str (u1 u2 : TypeId) (x1 x2 : Value) (v0 : Value) (l0 : List UInt8) (s : ByteArray) (w : World) (hW : W4 u1 u2 x1 x2 w) (hown : Own w v0 l0) (h0 : ∀ a, baseOf v0 = some a → 5 ≤ a.block) (hl0 : l0.length ≤ 100000) (hs : s.size ≤ 100000) :
    Calls Tryd.prog 35 #[v0, .string s] w (UAll w v0 l0 s.data.toList) := by
  have HW := Lib.hid hW
  have HO := Lib.hid hown
  have H0 := Lib.hid h0
  have h5 := hW.size
  clear hW hown h0
  go_enter Tryd.func35, Tryd.ntmps35
  go_wp2_with (first
    | (refine wpList_conv u8q rfl (.tmp 9) 9 rfl string9q rfl (by unfold maxLen; omega) ?_
       intro c1 w1 o1 b1 z1
       have O1 := Lib.hid o1
       have B1 := Lib.hid b1
       have Z1 := Lib.hid z1
       clear o1 b1 z1))
  have hsl := O1.out.slice
  have ha := AppTo.ofBelow' HO.out B1.out
  have hlt := HO.out.lt
  have hz := Z1.out
  refine (appUnq_all u1 u2 x1 x2 v0 l0 s.data.toList w.heap.size s.size c1 _ (by rw [size_eq]) ha.own H0.out (HW.out.below B1.out) (by omega) (fun a ea => by have := hlt a ea; omega) hsl.2.2.2.2 (by rw [size_eq] at hsl; exact hsl.2.1) hl0 (by rw [size_eq]; exact hs)).mono ?_
  rintro e w3 ⟨q, ok, v', x, h1, h2, h3, h4, rfl⟩
  have K3 := Lib.hid (ha.trans h3)
  have H1 := Lib.hid h1
  have H2 := Lib.hid h2
  clear h1 h2 h3 ha hlt hsl
  cases ok with
  | true =>
    obtain rfl := h4.1 rfl
    clear h4
    go_wp2_with fail
    go_ret2
    exact ⟨q, true, v', _, H1.out, H2.out, K3.out, ⟨fun _ => rfl, fun h => by cases h⟩, rfl⟩
  | false =>
    obtain ⟨ue, xe, rfl⟩ := h4.2 rfl
    clear h4
    go_wp2_with fail
    go_ret2
    exact ⟨q, false, v', _, H1.out, H2.out, K3.out.alloc _, err_no, rfl⟩

set_option maxRecDepth 100000 in
set_option maxHeartbeats 2000000 in
theorem appU_bytes (u1 u2 : TypeId) (x1 x2 : Value) (v0 : Value) (l0 l : List UInt8) (b n cap : Nat) (w : World) (hW : W4 u1 u2 x1 x2 w) (hown : Own w v0 l0) (h0 : ∀ a, baseOf v0 = some a → 5 ≤ a.block) (hn : n = l.length)
    (hb : b < w.heap.size) (hne : ∀ a, baseOf v0 = some a → a.block ≠ b) (hbytes : Bytes w b 0 l) (hlen : n ≤ cap) (hl0 : l0.length ≤ 100000) (hs : l.length ≤ 100000) :
    Calls Tryd.prog 37 #[v0, .slice (some ⟨b, 0, none⟩) n cap] w (UAll w v0 l0 l) := by
  have HW := Lib.hid hW
  have HO := Lib.hid hown
  have H0 := Lib.hid h0
  have HN := Lib.hid hn
  have HNE := Lib.hid hne
  have HBY := Lib.hid hbytes
  clear hW hown h0 hn hne hbytes
  go_enter Tryd.func37, Tryd.ntmps37
  go_wp2_with fail
  refine (appUnq_all u1 u2 x1 x2 v0 l0 l b n cap _ HN.out HO.out H0.out HW.out hb HNE.out HBY.out hlen hl0 hs).mono ?_
  rintro e w3 ⟨q, ok, v', x, h1, h2, h3, h4, rfl⟩
  have K3 := Lib.hid h3
  have H1 := Lib.hid h1
  have H2 := Lib.hid h2
  clear h1 h2 h3
  cases ok with
  | true =>
    obtain rfl := h4.1 rfl
    clear h4
    go_wp2_with fail
    go_ret2
    exact ⟨q, true, v', _, H1.out, H2.out, K3.out, ⟨fun _ => rfl, fun h => by cases h⟩, rfl⟩
  | false =>
    obtain ⟨ue, xe, rfl⟩ := h4.2 rfl
    clear h4
    go_wp2_with fail
    go_ret2
    exact ⟨q, false, v', _, H1.out, H2.out, K3.out.alloc _, err_no, rfl⟩

end Go.Proofs.YtjjbgoknmofajaaDoor.Wire
