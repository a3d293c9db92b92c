/- jsonwire's AppendQuote at any bytes and flags. -/
import Derived.Test.YtjjbgoknmofajaaDoorEscA
import Derived.Test.YtjjbgoknmofajaaDoorQuoC
import Derived.Test.YtjjbgoknmofajaaDoorNeed
import Derived.BigQuiet
namespace Go.Proofs.YtjjbgoknmofajaaDoor.Wire
open Go.RowKit Go.Proofs.YtjjbgoknmofajaaDoor

/-- What stands for a character. -/
def fx (html js : Bool) : List UInt8 → List UInt8
  | [c] => if 32 ≤ c.toNat ∧ c.toNat ≠ 34 ∧ c.toNat ≠ 92 ∧ c.toNat ≠ 60 ∧ c.toNat ≠ 62 ∧ c.toNat ≠ 38 then [c]
    else if (c.toNat = 60 ∨ c.toNat = 62 ∨ c.toNat = 38) ∧ html = false then [c] else escX c
  | c => if js = true ∧ c = [226, 128, 168] then Exact.unit 8232 else if js = true ∧ c = [226, 128, 169] then Exact.unit 8233 else c

theorem fx_many {html js : Bool} {c : List UInt8} (h : 2 ≤ c.length) : fx html js c = (if js = true ∧ c = [226, 128, 168] then Exact.unit 8232 else if js = true ∧ c = [226, 128, 169] then Exact.unit 8233 else c) := by
  match c, h with
  | a :: b :: t, _ => rfl

/-- What a flag's test answers. -/
def Asks (P V : Int) (m : Int) (g : Bool) : Prop := ∀ w : World, Calls Tryd.prog 43 #[.agg #[.int .u64 P, .int .u64 V], .int .u64 m] w fun e w' => e = .returned (.bool g) ∧ ∃ o, w' = w.alloc o

/-- Between two rounds. -/
structure WInv (w : World) (v0 : Value) (L0 : List UInt8) (f : List UInt8 → List UInt8) (l : List UInt8) (v : Value) (st k : Nat) (wr : World) (out : List UInt8) (b : Bool) : Prop where
  app : AppTo w v0 wr v (L0 ++ out)
  qi : QI f l out st k
  len : out.length ≤ 7 * st
  yes : b = true → ¬ Text l
  no : b = false → (Text l ↔ Text (l.drop k))

/-- What the call leaves. -/
structure WRet (w : World) (v0 : Value) (l0 : List UInt8) (f : List UInt8 → List UInt8) (l : List UInt8) (inv : Bool) (E : Value) (e : Ending) (w' : World) : Prop where
  what : ∃ q v', Quoted f l q ∧ q.length ≤ 8 * l.length ∧ AppTo w v0 w' v' (l0 ++ [34] ++ q ++ [34]) ∧ ((Text l ∨ inv = true) → e = .returned (.tuple #[v', .nilIface])) ∧ (¬ Text l → inv = false → e = .returned (.tuple #[v', E]))

theorem text_iff {l : List UInt8} {n : Nat} (h : CharAt l n) : Text l ↔ Text (l.drop n) := text_step h

theorem WInv.plain {w wr w' : World} {v0 v : Value} {L0 out l : List UInt8} {f : List UInt8 → List UInt8} {st k m : Nat} {b : Bool} (h : WInv w v0 L0 f l v st k wr out b) (hc : CharAt (l.drop k) m) (hf : f ((l.drop k).take m) = (l.drop k).take m) (happ : AppTo w v0 w' v (L0 ++ out)) : WInv w v0 L0 f l v st (k + m) w' out b :=
  ⟨happ, h.qi.plain hc trivial hf, h.len, h.yes, fun hb => (h.no hb).trans (by rw [← List.drop_drop]; exact text_step hc)⟩

theorem WInv.esc {w wr w' : World} {v0 v v' : Value} {L0 out l e : List UInt8} {f : List UInt8 → List UInt8} {st k m : Nat} {b : Bool} (h : WInv w v0 L0 f l v st k wr out b) (hc : CharAt (l.drop k) m) (hf : f ((l.drop k).take m) = e) (he : e.length ≤ 6) (happ : AppTo w v0 w' v' (L0 ++ out ++ (l.drop st).take (k - st) ++ e)) : WInv w v0 L0 f l v' (k + m) (k + m) w' (out ++ (l.drop st).take (k - st) ++ e) b := by
  have hm := hc.le
  have h1 := h.qi.1
  refine ⟨by simpa [List.append_assoc] using happ, h.qi.esc hc trivial hf, ?_, h.yes, fun hb => (h.no hb).trans (by rw [← List.drop_drop]; exact text_step hc)⟩
  have := h.len
  rw [List.length_append, List.length_append, List.length_take]
  omega

theorem WInv.bad {w wr w' : World} {v0 v v' : Value} {L0 out l : List UInt8} {f : List UInt8 → List UInt8} {st k : Nat} {b : Bool} (h : WInv w v0 L0 f l v st k wr out b) (hk : k < l.length) (hno : ∀ n, ¬ CharAt (l.drop k) n) (happ : AppTo w v0 w' v' (L0 ++ out ++ (l.drop st).take (k - st) ++ Wire.bad)) : WInv w v0 L0 f l v' (k + 1) (k + 1) w' (out ++ (l.drop st).take (k - st) ++ Wire.bad) true := by
  have h1 := h.qi.1
  refine ⟨by simpa [List.append_assoc] using happ, h.qi.bad hk hno, ?_, fun _ ht => ?_, fun hb => (by cases hb)⟩
  · have := h.len
    rw [List.length_append, List.length_append, List.length_take]
    simp only [Wire.bad, List.length_cons, List.length_nil]
    omega
  · cases b with
    | true => exact h.yes rfl ht
    | false =>
      refine text_none (fun e => ?_) hno ((h.no rfl).1 ht)
      have := congrArg List.length e
      rw [List.length_drop, List.length_nil] at this
      omega

theorem app_below {w0 w w' : World} {v0 v : Value} {l : List UInt8} (h : AppTo w0 v0 w v l) (hb : Below w.heap.size w w') : AppTo w0 v0 w' v l :=
  h.trans ⟨h.own.below hb h.own.lt, ⟨hb.os, hb.tape, hb.output, hb.size, fun k hk _ => hb.block k hk, fun a _ hlt o _ => cell_of_heap (hb.block a.block hlt) o⟩, At.refl _ _⟩

theorem app_drewN {w0 w : World} {v0 v : Value} {l : List UInt8} (h : AppTo w0 v0 w v l) (n : Nat) : AppTo w0 v0 (w.drewN n) v l :=
  app_below h ⟨rfl, rfl, rfl, Nat.le_refl _, fun _ _ => rfl⟩

theorem utf8_app {w w' : World} {v0 v : Value} {l : List UInt8} (h : Lib.Utf8Tabs 3 4 w) (k : AppTo w v0 w' v l) (h5 : 5 ≤ w.heap.size) (h0 : ∀ a, baseOf v0 = some a → 5 ≤ a.block) : Lib.Utf8Tabs 3 4 w' :=
  ⟨fun c hc => (k.cell _ (by omega) (fun a ha => by have := h0 a ha; omega)).trans (h.1 c hc), fun i hi => ⟨(k.cell _ (by omega) (fun a ha => by have := h0 a ha; omega)).trans (h.2 i hi).1, (k.cell _ (by omega) (fun a ha => by have := h0 a ha; omega)).trans (h.2 i hi).2⟩⟩

theorem escX_len (c : UInt8) : (escX c).length ≤ 6 := by
  unfold escX
  repeat' split
  all_goals (first | (simp; done) | exact Nat.le_refl _)

theorem fx_one {html js : Bool} {c : UInt8} {f : Nat → Nat} (hf : EscAll f) (hc : c.toNat < 128) : fx html js [c] = (if f c.toNat = 0 then [c] else if (c.toNat = 60 ∨ c.toNat = 62 ∨ c.toNat = 38) ∧ html = false then [c] else escX c) := by
  show (if 32 ≤ c.toNat ∧ c.toNat ≠ 34 ∧ c.toNat ≠ 92 ∧ c.toNat ≠ 60 ∧ c.toNat ≠ 62 ∧ c.toNat ≠ 38 then [c] else _) = _
  by_cases h : f c.toNat = 0
  · rw [if_pos h, if_pos ((hf _ hc).1 h)]
  · rw [if_neg h, if_neg (fun k => h ((hf _ hc).2 k))]

set_option maxRecDepth 100000 in
set_option maxHeartbeats 4000000 in
theorem appendQuote_any (f : Nat → Nat) (html js inv : Bool) (P V : Int) (E : Value) (v0 : Value) (l0 l : List UInt8) (b n cap fb : Nat) (w : World) (hT : EscTab f w) (hf : EscAll f) (hU : Lib.Utf8Tabs 3 4 w) (hn : n = l.length) (hown : Own w v0 l0)
    (h0 : ∀ a, baseOf v0 = some a → 5 ≤ a.block) (h5 : 5 ≤ w.heap.size) (hE : w.cell? ⟨1, 0, none⟩ = some E)
    (hb : b < w.heap.size) (hne : ∀ a, baseOf v0 = some a → a.block ≠ b) (hbytes : Bytes w b 0 l) (hlen : l.length ≤ cap)
    (hf0 : w.cell? ⟨fb, 0, none⟩ = some (.int .u64 P)) (hf1 : w.cell? ⟨fb, 1, none⟩ = some (.int .u64 V)) (hfb : fb < w.heap.size) (hnf : ∀ a, baseOf v0 = some a → a.block ≠ fb)
    (hH : Asks P V 512 html) (hJ : Asks P V 1024 js) (hI : Asks P V 4 inv) (hl0 : l0.length ≤ 2147483647) (hl : l.length ≤ 2147483647) :
    Calls Tryd.prog 28 #[v0, .slice (some ⟨b, 0, none⟩) n cap, .pointer (some ⟨fb, 0, none⟩)] w (WRet w v0 l0 (fx html js) l inv E) := by
  have HT := Lib.hid hT
  have HF := Lib.hid hf
  have HU := Lib.hid hU
  have HO := Lib.hid hown
  have H0 := Lib.hid h0
  have HE := Lib.hid hE
  have HNE := Lib.hid hne
  have HBY := Lib.hid hbytes
  have HF0 := Lib.hid hf0
  have HF1 := Lib.hid hf1
  have HNF := Lib.hid hnf
  have HH := Lib.hid hH
  have HJ := Lib.hid hJ
  have HI0 := Lib.hid hI
  have HN := Lib.hid hn
  have hnc : n ≤ cap := by omega
  have hn1 : n ≤ 2147483647 := by omega
  clear hT hf hU hown h0 hE hne hbytes hf0 hf1 hnf hH hJ hI hn hlen
  go_enter Tryd.func28, Tryd.ntmps28
  go_wp2_with fail
  refine (grow_int v0 l0 _ (n + 2) (by omega) _ HO.out (by omega)).mono ?_
  rintro e w1 ⟨v1, rfl, k1⟩
  have K1 := Lib.hid k1
  clear k1
  go_wp2_with (first
    | (at_builtin
       refine wpList_app u8q rfl (.tmp 20) (.tmp 21) 39 rfl (K1.out.alloc _) (by rfl) [34] (by rfl) (by exact src_block u8q (by exact heap_alloc_new w1 _) [34] (by rfl) 1) (by simp; omega) ?_
       intro v2 w2 k2
       have K2 := Lib.hid k2
       clear k2))
  go_loopw [0, 8, 9, 10] (fun v i t h wr => ∃ (k st : Nat) (out : List UInt8) (bb : Bool), t = .int .i64 k ∧ k ≤ n ∧ i = .int .i64 st ∧ h = .bool bb ∧ WInv w v0 (l0 ++ [34]) (fx html js) l v st k wr out bb) (fun _ _ t _ _ => n - (intOf t).toNat)
  case atStart => exact ⟨0, 0, [], false, rfl, Nat.zero_le _, rfl, rfl, by rw [List.append_nil]; exact K2.out, QI.start, Nat.le_refl _, fun h => (by cases h), fun _ => by simp⟩
  case round =>
    obtain ⟨k, st, out, bb, rfl, hk, rfl, rfl, hinv⟩ := hrel
    have HI := Lib.hid hinv
    have hst := hinv.qi.1
    have hol := hinv.len
    clear hinv
    have hkl' : k ≤ l.length := by have := HN.out; omega
    have hbw := Lib.hid (HBY.out.kept HI.out.app.kept hb HNE.out)
    by_cases hk2 : k < n
    · have hkl : k < l.length := by have := HN.out; omega
      have hk0 : (0 : Int) ≤ (k : Int) := by omega
      have hk1 : (k : Int) < (n : Int) := by omega
      have hlt : decide ((k : Int) < (n : Int)) = true := decide_eq_true hk1
      have hc := hbw.out.at0 k hkl
      have hd := List.drop_eq_getElem_cons hkl
      obtain ⟨c, hcc⟩ : ∃ c, c = l[k] := ⟨_, rfl⟩
      rw [← hcc] at hc hd
      obtain ⟨a, ha⟩ : ∃ a : Nat, a = c.toNat := ⟨_, rfl⟩
      rw [← ha] at hc
      have HD := Lib.hid hd
      have HA := Lib.hid ha
      clear hcc hd ha
      have hg0 := (HI.out.app.cell 0 hfb HNF.out).trans HF0.out
      have hg1 := (HI.out.app.cell 1 hfb HNF.out).trans HF1.out
      by_cases h128 : a < 128
      · have ha1 : (a : Int) < 128 := by omega
        have ha2 : (0 : Int) ≤ (a : Int) := by omega
        have ht := (HI.out.app.cell a (by omega) (fun x hx => by have := H0.out x hx; omega)).trans (HT.out.cell a h128)
        have hch : CharAt (l.drop k) 1 := .inl ⟨rfl, c, _, HD.out, by rw [← HA.out]; exact h128⟩
        have htk : (l.drop k).take 1 = [c] := by rw [HD.out]; rfl
        have HC := Lib.hid hch
        have HTK := Lib.hid htk
        clear hch htk
        have hfx := fx_one (html := html) (js := js) HF.out (c := c) (by rw [← HA.out]; exact h128)
        rw [← HA.out] at hfx
        by_cases hz : f a = 0
        · have hq := HI.out.plain HC.out (by rw [HTK.out, hfx, if_pos hz]) HI.out.app
          have HQ := Lib.hid hq
          rw [hz] at ht
          clear hz hfx hq
          go_wp2_with fail
          exact ⟨⟨k + 1, st, out, bb, by simp, by omega, rfl, rfl, HQ.out⟩, by simp only [intOf]; omega⟩
        · have hnz : (((f a : Nat) : Int) == 0) = false := by rw [beq_eq_false_iff_ne]; omega
          rw [if_neg hz] at hfx
          clear hz
          by_cases h3 : a = 60 ∨ a = 62 ∨ a = 38
          · cases html with
            | false =>
              rw [if_pos ⟨h3, rfl⟩] at hfx
              have HFX := Lib.hid hfx
              clear hfx
              rcases h3 with rfl | rfl | rfl
              all_goals
                go_wp2_with (first
                  | (go_at_call 43
                     refine (HH.out _).mono ?_
                     rintro e w3 ⟨rfl, o3, rfl⟩))
                exact ⟨⟨k + 1, st, out, bb, by simp, by omega, rfl, rfl, HI.out.plain HC.out (by rw [HTK.out, HFX.out]) (HI.out.app.alloc _)⟩, by simp only [intOf]; omega⟩
            | true =>
              rw [if_neg (fun h => by cases h.2)] at hfx
              have HFX := Lib.hid hfx
              clear hfx
              rcases h3 with rfl | rfl | rfl
              all_goals
                go_wp2_with (first
                  | (go_at_call 43
                     refine (HH.out _).mono ?_
                     rintro e w3 ⟨rfl, o3, rfl⟩
                     have HAP := Lib.hid (HI.out.app.alloc o3)
                     have HBB := Lib.hid (HBY.out.kept HAP.out.kept hb HNE.out))
                  | (at_builtin
                     refine wpList_app u8q rfl (.tmp 58) (.tmp 63) 39 rfl HAP.out (by rfl) ((l.drop st).take (k - st)) rfl (by exact HBB.out.src_in0 u8q st (k - st) _ (by omega)) (by simp only [List.length_append, List.length_take, List.length_drop, List.length_cons, List.length_nil]; omega) ?_
                     intro v3 w3 k3
                     have K3 := Lib.hid k3
                     clear k3)
                  | (go_at_call 44
                     refine (escASCII_any v3 _ c _ HA.out _ K3.out.own (by simp only [List.length_append, List.length_take, List.length_drop, List.length_cons, List.length_nil]; omega)).mono ?_
                     rintro e w4 ⟨v4, rfl, k4⟩
                     have K4 := Lib.hid (K3.out.trans k4)
                     clear k4))
                exact ⟨⟨k + 1, k + 1, _, bb, by simp, by omega, by simp, rfl, HI.out.esc HC.out (by rw [HTK.out, HFX.out]) (escX_len c) K4.out⟩, by simp only [intOf]; omega⟩
          · have n60 : ((a : Int) == 60) = false := by rw [beq_eq_false_iff_ne]; omega
            have n62 : ((a : Int) == 62) = false := by rw [beq_eq_false_iff_ne]; omega
            have n38 : ((a : Int) == 38) = false := by rw [beq_eq_false_iff_ne]; omega
            rw [if_neg (fun h => h3 h.1)] at hfx
            have HFX := Lib.hid hfx
            have HAP := Lib.hid HI.out.app
            have HBB := hbw
            clear hfx h3
            go_wp2_with (first
              | (at_builtin
                 refine wpList_app u8q rfl (.tmp 58) (.tmp 63) 39 rfl HAP.out (by rfl) ((l.drop st).take (k - st)) rfl (by exact HBB.out.src_in0 u8q st (k - st) _ (by omega)) (by simp only [List.length_append, List.length_take, List.length_drop, List.length_cons, List.length_nil]; omega) ?_
                 intro v3 w3 k3
                 have K3 := Lib.hid k3
                 clear k3)
              | (go_at_call 44
                 refine (escASCII_any v3 _ c a HA.out _ K3.out.own (by simp only [List.length_append, List.length_take, List.length_drop, List.length_cons, List.length_nil]; omega)).mono ?_
                 rintro e w4 ⟨v4, rfl, k4⟩
                 have K4 := Lib.hid (K3.out.trans k4)
                 clear k4))
            exact ⟨⟨k + 1, k + 1, _, bb, by simp, by omega, by simp, rfl, HI.out.esc HC.out (by rw [HTK.out, HFX.out]) (escX_len c) K4.out⟩, by simp only [intOf]; omega⟩
      · have ha1 : ¬ (a : Int) < 128 := by omega
        have hsub : Bytes wr b k (l.drop k) := by
          have := hbw.out.sub k (l.length - k)
          rw [Nat.zero_add, List.take_of_length_le (by rw [List.length_drop]; omega)] at this
          exact this
        have HSub := Lib.hid hsub
        have HUw := Lib.hid (utf8_app HU.out (HI.out.app) h5 H0.out)
        clear hsub
        go_wp2_with fail
        refine (decRune_any (l.drop k) (by rw [HD.out]; exact List.cons_ne_nil _ _) b k (n - k) (cap - k) wr (by rw [List.length_drop, HN.out]) HSub.out HUw.out).mono ?_
        rintro e w2 ⟨b2, r, rn, rfl, hread⟩
        have HAP := Lib.hid (app_below HI.out.app b2)
        have HBB := Lib.hid (HBY.out.kept HAP.out.kept hb HNE.out)
        have hg0' := (HAP.out.cell 0 hfb HNF.out).trans HF0.out
        have hg1' := (HAP.out.cell 1 hfb HNF.out).trans HF1.out
        have HR := Lib.hid hread
        clear b2 hread
        by_cases hex : ∃ m, CharAt (l.drop k) m
        · obtain ⟨m, hm⟩ := hex
          obtain ⟨q1, q2, q3⟩ := HR.out.back m hm
          subst q1
          have h2 : 2 ≤ m := char_high HD.out (by rw [← HA.out]; exact h128) hm
          have hle := hm.le4
          rw [List.length_drop] at hle
          have hkm : k + m ≤ n := by have := HN.out; omega
          have hfx := fx_many (html := html) (js := js) (c := (l.drop k).take m) (by rw [List.length_take, List.length_drop]; omega)
          have HC := Lib.hid hm
          clear hm
          have hm1 : ((m : Int) == 1) = false := by rw [beq_eq_false_iff_ne]; omega
          by_cases r1 : r = 8232 ∨ r = 8233
          · have hfr : js = true → fx html js ((l.drop k).take m) = Exact.unit r := by
              intro hj
              rw [hfx, ← q2]
              rcases r1 with rfl | rfl
              · have e : Lib.encodeRune ((8232 : Nat) : Int) = [226, 128, 168] := by decide +kernel
                rw [if_pos ⟨hj, e⟩]
              · have e : Lib.encodeRune ((8233 : Nat) : Int) = [226, 128, 169] := by decide +kernel
                rw [e, if_neg (fun h => by have := h.2; simp at this), if_pos ⟨hj, rfl⟩]
            have hul : (Exact.unit r).length ≤ 6 := Nat.le_of_eq (by rcases r1 with rfl | rfl <;> rfl)
            have HFR := Lib.hid hfr
            clear hfr q2 q3
            cases js with
            | true =>
              rcases r1 with rfl | rfl
              all_goals
                clear hfx
                go_wp2_with (first
                  | (go_at_call 45; go_in)
                  | (go_at_call 43
                     refine (HJ.out _).mono ?_
                     rintro e w3 ⟨rfl, o3, rfl⟩
                     have HAP2 := Lib.hid (HAP.out.alloc o3)
                     have HBB2 := Lib.hid (HBY.out.kept HAP2.out.kept hb HNE.out))
                  | (at_builtin
                     refine wpList_app u8q rfl (.tmp 117) (.tmp 123) 39 rfl HAP2.out (by rfl) ((l.drop st).take (k - st)) rfl (by exact HBB2.out.src_in0 u8q st (k - st) _ (by omega)) (by simp only [List.length_append, List.length_take, List.length_drop, List.length_cons, List.length_nil]; omega) ?_
                     intro v3 w3 k3
                     have K3 := Lib.hid k3
                     clear k3)
                  | (go_at_call 46
                     refine (escSep_any v3 _ _ (by decide) _ K3.out.own (by simp only [List.length_append, List.length_take, List.length_drop, List.length_cons, List.length_nil]; omega)).mono ?_
                     rintro e w4 ⟨v4, rfl, k4⟩
                     have K4 := Lib.hid (K3.out.trans k4)
                     clear k4))
                exact ⟨⟨k + m, k + m, _, bb, by simp, by omega, by simp, rfl, HI.out.esc HC.out (HFR.out (by trivial)) hul K4.out⟩, by simp only [intOf]; omega⟩
            | false =>
              rw [if_neg (fun h => by cases h.1), if_neg (fun h => by cases h.1)] at hfx
              have HFX := Lib.hid hfx
              clear hfx
              rcases r1 with rfl | rfl
              all_goals
                go_wp2_with (first
                  | (go_at_call 45; go_in)
                  | (go_at_call 43
                     refine (HJ.out _).mono ?_
                     rintro e w3 ⟨rfl, o3, rfl⟩))
                exact ⟨⟨k + m, st, out, bb, by simp, by omega, rfl, rfl, HI.out.plain HC.out HFX.out (HAP.out.alloc _)⟩, by simp only [intOf]; omega⟩
          · have hkeep : fx html js ((l.drop k).take m) = (l.drop k).take m := by
              rw [hfx, if_neg (fun h => r1 (.inl (by rw [q3, h.2]; rfl))), if_neg (fun h => r1 (.inr (by rw [q3, h.2]; rfl)))]
            have HFX := Lib.hid hkeep
            clear hfx hkeep q2 q3
            have n2 : ((r : Int) == 8232) = false := by rw [beq_eq_false_iff_ne]; omega
            have n3 : ((r : Int) == 8233) = false := by rw [beq_eq_false_iff_ne]; omega
            by_cases r3 : r = 65533
            · subst r3
              go_wp2_with (first
                | (go_at_call 45; go_in))
              exact ⟨⟨k + m, st, out, bb, by simp, by omega, rfl, rfl, HI.out.plain HC.out HFX.out HAP.out⟩, by simp only [intOf]; omega⟩
            · have n1 : ((r : Int) == 65533) = false := by rw [beq_eq_false_iff_ne]; omega
              go_wp2_with (first
                | (go_at_call 45; go_in))
              all_goals exact ⟨⟨k + m, st, out, bb, by simp, by omega, rfl, rfl, HI.out.plain HC.out HFX.out HAP.out⟩, by simp only [intOf]; omega⟩
        · have hno : ∀ m, ¬ CharAt (l.drop k) m := fun m h => hex ⟨m, h⟩
          obtain ⟨rfl, rfl⟩ := HR.out.none hno
          have HNo := Lib.hid hno
          clear hno hex
          go_wp2_with (first
            | (go_at_call 45; go_in)
            | (at_builtin
               refine wpList_app u8q rfl (.tmp 93) (.tmp 99) 39 rfl HAP.out (by rfl) ((l.drop st).take (k - st)) rfl (by exact HBB.out.src_in0 u8q st (k - st) _ (by omega)) (by simp only [List.length_append, List.length_take, List.length_drop, List.length_cons, List.length_nil]; omega) ?_
               intro v3 w3 k3
               have K3 := Lib.hid k3
               clear k3)
            | (at_builtin
               refine wpList_app u8q rfl (.tmp 101) (.const (.string ⟨#[239, 191, 189]⟩)) 9 rfl K3.out (by rfl) [239, 191, 189] (by rfl) (by exact src_strm _ _ rfl) (by simp only [List.length_append, List.length_take, List.length_drop, List.length_cons, List.length_nil]; omega) ?_
               intro v4 w4 k4
               have K4 := Lib.hid k4
               clear k4))
          exact ⟨⟨k + 1, k + 1, _, true, by simp, by omega, by simp, rfl, HI.out.bad hkl HNo.out K4.out⟩, by simp only [intOf]; omega⟩
    · obtain rfl : k = n := by omega
      have hlt : decide ((k : Int) < (k : Int)) = false := decide_eq_false (by omega)
      have hq : QI (fx html js) l out st l.length := by have := HI.out.qi; rwa [HN.out] at this
      have HQ := Lib.hid hq.done
      have htx : bb = false → Text l := fun e => (HI.out.no e).2 (by rw [List.drop_of_length_le (by have := HN.out; omega)]; exact Text.nil)
      have HTX := Lib.hid htx
      clear hq htx
      have hg0 := (HI.out.app.cell 0 hfb HNF.out).trans HF0.out
      have hg1 := (HI.out.app.cell 1 hfb HNF.out).trans HF1.out
      have hql : (l.drop st).take (k - st) = l.drop st := List.take_of_length_le (by rw [List.length_drop]; have := HN.out; omega)
      have HQL := Lib.hid hql
      clear hql
      rcases Nat.lt_or_ge st cap with hcs | hcs
      · have hcs1 : (st : Int) < (cap : Int) := by omega
        cases bb with
        | false =>
          go_wp2_with (first
            | (at_builtin
               refine wpList_app u8q rfl (.tmp 129) (.tmp 133) 39 rfl HI.out.app (by rfl) ((l.drop st).take (k - st)) rfl (by exact hbw.out.src_in0 u8q st (k - st) _ (by omega)) (by simp only [List.length_append, List.length_take, List.length_drop, List.length_cons, List.length_nil]; omega) ?_
               intro v3 w3 k3
               have K3 := Lib.hid k3
               clear k3)
            | (at_builtin
               refine wpList_app u8q rfl (.tmp 135) (.tmp 136) 39 rfl (K3.out.alloc _) (by rfl) [34] (by rfl) (by exact src_block u8q (by exact heap_alloc_new w3 _) [34] (by rfl) 1) (by simp only [List.length_append, List.length_take, List.length_drop, List.length_cons, List.length_nil]; omega) ?_
               intro v4 w4 k4
               have K4 := Lib.hid k4
               clear k4))
          go_ret2
          refine ⟨_, _, HQ.out, ?_, by have := K4.out; rw [HQL.out] at this; simpa [List.append_assoc] using this, fun _ => rfl, fun h => absurd (HTX.out (by trivial)) h⟩
          rw [List.length_append, List.length_drop]; omega
        | true =>
          have hno := HI.out.yes rfl
          have HNo := Lib.hid hno
          clear hno
          cases inv with
          | true =>
            go_wp2_with (first
              | (at_builtin
                 refine wpList_app u8q rfl (.tmp 129) (.tmp 133) 39 rfl HI.out.app (by rfl) ((l.drop st).take (k - st)) rfl (by exact hbw.out.src_in0 u8q st (k - st) _ (by omega)) (by simp only [List.length_append, List.length_take, List.length_drop, List.length_cons, List.length_nil]; omega) ?_
                 intro v3 w3 k3
                 have K3 := Lib.hid k3
                 clear k3)
              | (at_builtin
                 refine wpList_app u8q rfl (.tmp 135) (.tmp 136) 39 rfl (K3.out.alloc _) (by rfl) [34] (by rfl) (by exact src_block u8q (by exact heap_alloc_new w3 _) [34] (by rfl) 1) (by simp only [List.length_append, List.length_take, List.length_drop, List.length_cons, List.length_nil]; omega) ?_
                 intro v4 w4 k4
                 have K4 := Lib.hid k4
                 have hg0 := (k4.cell 0 hfb HNF.out).trans HF0.out
                 have hg1 := (k4.cell 1 hfb HNF.out).trans HF1.out
                 clear k4)
              | (go_at_call 43
                 refine (HI0.out _).mono ?_
                 rintro e w5 ⟨rfl, o5, rfl⟩))
            go_ret2
            refine ⟨_, _, HQ.out, ?_, by have := K4.out.alloc o5; rw [HQL.out] at this; simpa [List.append_assoc] using this, fun _ => rfl, fun _ h => (by cases h)⟩
            rw [List.length_append, List.length_drop]; omega
          | false =>
            go_wp2_with (first
              | (at_builtin
                 refine wpList_app u8q rfl (.tmp 129) (.tmp 133) 39 rfl HI.out.app (by rfl) ((l.drop st).take (k - st)) rfl (by exact hbw.out.src_in0 u8q st (k - st) _ (by omega)) (by simp only [List.length_append, List.length_take, List.length_drop, List.length_cons, List.length_nil]; omega) ?_
                 intro v3 w3 k3
                 have K3 := Lib.hid k3
                 clear k3)
              | (at_builtin
                 refine wpList_app u8q rfl (.tmp 135) (.tmp 136) 39 rfl (K3.out.alloc _) (by rfl) [34] (by rfl) (by exact src_block u8q (by exact heap_alloc_new w3 _) [34] (by rfl) 1) (by simp only [List.length_append, List.length_take, List.length_drop, List.length_cons, List.length_nil]; omega) ?_
                 intro v4 w4 k4
                 have K4 := Lib.hid k4
                 have hg0 := (k4.cell 0 hfb HNF.out).trans HF0.out
                 have hg1 := (k4.cell 1 hfb HNF.out).trans HF1.out
                 clear k4)
              | (go_at_call 43
                 refine (HI0.out _).mono ?_
                 rintro e w5 ⟨rfl, o5, rfl⟩
                 have hE1 := ((K4.out.alloc o5).cell 0 (by omega) (fun x hx => by have := H0.out x hx; omega)).trans HE.out))
            go_big_quiet (fail)
            go_wp2_with fail
            go_ret2
            refine ⟨_, v4, HQ.out, ?_, ?_, ?_, ?_⟩
            · rw [List.length_append, List.length_drop]; omega
            · have hk : AppTo w v0 (w4.alloc o5) v4 (l0 ++ [34] ++ (out ++ l.drop st) ++ [34]) := by
                have := K4.out.alloc o5
                rw [HQL.out] at this
                simpa [List.append_assoc] using this
              exact app_drewN hk _
            · intro h
              rcases h with h | h
              · exact absurd h HNo.out
              · cases h
            · intro _ _
              rfl
      · obtain rfl : st = k := by omega
        obtain rfl : cap = st := by omega
        have hnil : l.drop cap = [] := List.drop_of_length_le (by have := HN.out; omega)
        have HNIL := Lib.hid hnil
        clear hnil
        cases bb with
        | false =>
          go_wp2_with (first
            | (at_builtin
               refine wpList_app u8q rfl (.tmp 129) (.tmp 133) 39 rfl HI.out.app (by rfl) ((l.drop 0).take 0) rfl (by exact hbw.out.src_in0 u8q 0 0 _ (Nat.zero_le _)) (by simp only [List.length_append, List.length_take, List.length_drop, List.length_cons, List.length_nil]; omega) ?_
               intro v3 w3 k3
               have K3 := Lib.hid k3
               clear k3)
            | (at_builtin
               refine wpList_app u8q rfl (.tmp 135) (.tmp 136) 39 rfl (K3.out.alloc _) (by rfl) [34] (by rfl) (by exact src_block u8q (by exact heap_alloc_new w3 _) [34] (by rfl) 1) (by simp only [List.length_append, List.length_take, List.length_drop, List.length_cons, List.length_nil]; omega) ?_
               intro v4 w4 k4
               have K4 := Lib.hid k4
               clear k4))
          go_ret2
          refine ⟨_, _, HQ.out, ?_, by have := K4.out; rw [HNIL.out]; simpa [List.append_assoc] using this, fun _ => rfl, fun h => absurd (HTX.out (by trivial)) h⟩
          rw [HNIL.out, List.append_nil]; omega
        | true =>
          have hno := HI.out.yes rfl
          have HNo := Lib.hid hno
          clear hno
          cases inv with
          | true =>
            go_wp2_with (first
              | (at_builtin
                 refine wpList_app u8q rfl (.tmp 129) (.tmp 133) 39 rfl HI.out.app (by rfl) ((l.drop 0).take 0) rfl (by exact hbw.out.src_in0 u8q 0 0 _ (Nat.zero_le _)) (by simp only [List.length_append, List.length_take, List.length_drop, List.length_cons, List.length_nil]; omega) ?_
                 intro v3 w3 k3
                 have K3 := Lib.hid k3
                 clear k3)
              | (at_builtin
                 refine wpList_app u8q rfl (.tmp 135) (.tmp 136) 39 rfl (K3.out.alloc _) (by rfl) [34] (by rfl) (by exact src_block u8q (by exact heap_alloc_new w3 _) [34] (by rfl) 1) (by simp only [List.length_append, List.length_take, List.length_drop, List.length_cons, List.length_nil]; omega) ?_
                 intro v4 w4 k4
                 have K4 := Lib.hid k4
                 have hg0 := (k4.cell 0 hfb HNF.out).trans HF0.out
                 have hg1 := (k4.cell 1 hfb HNF.out).trans HF1.out
                 clear k4)
              | (go_at_call 43
                 refine (HI0.out _).mono ?_
                 rintro e w5 ⟨rfl, o5, rfl⟩))
            go_ret2
            refine ⟨_, _, HQ.out, ?_, by have := K4.out.alloc o5; rw [HNIL.out]; simpa [List.append_assoc] using this, fun _ => rfl, fun _ h => (by cases h)⟩
            rw [HNIL.out, List.append_nil]; omega
          | false =>
            go_wp2_with (first
              | (at_builtin
                 refine wpList_app u8q rfl (.tmp 129) (.tmp 133) 39 rfl HI.out.app (by rfl) ((l.drop 0).take 0) rfl (by exact hbw.out.src_in0 u8q 0 0 _ (Nat.zero_le _)) (by simp only [List.length_append, List.length_take, List.length_drop, List.length_cons, List.length_nil]; omega) ?_
                 intro v3 w3 k3
                 have K3 := Lib.hid k3
                 clear k3)
              | (at_builtin
                 refine wpList_app u8q rfl (.tmp 135) (.tmp 136) 39 rfl (K3.out.alloc _) (by rfl) [34] (by rfl) (by exact src_block u8q (by exact heap_alloc_new w3 _) [34] (by rfl) 1) (by simp only [List.length_append, List.length_take, List.length_drop, List.length_cons, List.length_nil]; omega) ?_
                 intro v4 w4 k4
                 have K4 := Lib.hid k4
                 have hg0 := (k4.cell 0 hfb HNF.out).trans HF0.out
                 have hg1 := (k4.cell 1 hfb HNF.out).trans HF1.out
                 clear k4)
              | (go_at_call 43
                 refine (HI0.out _).mono ?_
                 rintro e w5 ⟨rfl, o5, rfl⟩
                 have hE1 := ((K4.out.alloc o5).cell 0 (by omega) (fun x hx => by have := H0.out x hx; omega)).trans HE.out))
            go_big_quiet (fail)
            go_wp2_with fail
            go_ret2
            refine ⟨_, v4, HQ.out, ?_, ?_, ?_, ?_⟩
            · rw [HNIL.out, List.append_nil]; omega
            · have hk : AppTo w v0 (w4.alloc o5) v4 (l0 ++ [34] ++ (out ++ l.drop cap) ++ [34]) := by
                have := K4.out.alloc o5
                rw [HNIL.out]
                simpa [List.append_assoc] using this
              exact app_drewN hk _
            · intro h
              rcases h with h | h
              · exact absurd h HNo.out
              · cases h
            · intro _ _
              rfl

end Go.Proofs.YtjjbgoknmofajaaDoor.Wire
