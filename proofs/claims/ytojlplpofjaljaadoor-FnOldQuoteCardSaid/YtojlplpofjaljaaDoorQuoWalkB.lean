/- encoding/json's 'appendString' on any bytes. -/
import Derived.Test.YtojlplpofjaljaaDoorQuoB
import Derived.Shelf.Unicode.DecodeAny
import Derived.Deep.QuietTactic
import Derived.BigQuiet
import Derived.Deep.RegionLaw
namespace Go.Proofs
open Go.Shelf
def Tryd.laysNm197_ren : Go.Shelf.Ren := ⟨fun | 197 => 15 | 260 => 19 | n => n, fun | 9 => 9 | 21 => 21 | 3 => 3 | 4 => 4 | 5 => 5 | 105 => 42 | 119 => 48 | 0 => 0 | 46 => 40 | 139 => 51 | 138 => 50 | n => n, fun | 3 => 2 | 4 => 3 | n => n⟩
theorem Tryd.laysNm197 : Go.Proofs.Lays.n197 Tryd.prog Tryd.laysNm197_ren := {
  mixed := by kernel_rfl
  f197 := Tryd.func15.trans (congrArg some (by kernel_rfl))
  f260 := Tryd.func19.trans (congrArg some (by kernel_rfl))
  t0 := Tryd.underlying0
  a0 := Tryd.isAgg0
  z0 := Tryd.sizeOf0
  v0 := Tryd.zeroValue0
  t3 := Tryd.underlying3
  a3 := Tryd.isAgg3
  z3 := Tryd.sizeOf3
  v3 := Tryd.zeroValue3
  t4 := Tryd.underlying4
  a4 := Tryd.isAgg4
  z4 := Tryd.sizeOf4
  v4 := Tryd.zeroValue4
  t5 := Tryd.underlying5
  a5 := Tryd.isAgg5
  z5 := Tryd.sizeOf5
  v5 := Tryd.zeroValue5
  t9 := Tryd.underlying9
  a9 := Tryd.isAgg9
  z9 := Tryd.sizeOf9
  v9 := Tryd.zeroValue9
  t21 := Tryd.underlying21
  a21 := Tryd.isAgg21
  z21 := Tryd.sizeOf21
  v21 := Tryd.zeroValue21
  t46 := Tryd.underlying40
  a46 := Tryd.isAgg40
  z46 := Tryd.sizeOf40
  v46 := Tryd.zeroValue40
  t105 := Tryd.underlying42
  a105 := Tryd.isAgg42
  z105 := Tryd.sizeOf42
  v105 := Tryd.zeroValue42
  t119 := Tryd.underlying48
  a119 := Tryd.isAgg48
  z119 := Tryd.sizeOf48
  t138 := Tryd.underlying50
  a138 := Tryd.isAgg50
  z138 := Tryd.sizeOf50
  v138 := Tryd.zeroValue50
  t139 := Tryd.underlying51
  a139 := Tryd.isAgg51
  z139 := Tryd.sizeOf51
  v139 := Tryd.zeroValue51
  g3 := by kernel_rfl
  g4 := by kernel_rfl }
end Go.Proofs
namespace Go.Proofs.YtojlplpofjaljaaDoor
open Go.RowKit
set_option linter.unusedSimpArgs false

theorem u8q : U8 Tryd.prog 27 5 := ⟨by kernel_rfl, by kernel_rfl, by kernel_rfl⟩
theorem string9q : Tryd.prog.underlying 9 = some .string := by kernel_rfl

theorem src_strq {w : World} (s : ByteArray) (n : Nat) (l : List UInt8) (hl : s.data.toList = l) (hn : s.size = n) : Src Tryd.prog 1 9 (.string s) n (l.map B) w := by
  subst hn hl
  have h := Src.ofString (P := Tryd.prog) (w := w) string9q s
  have e : byteCells s = s.data.toList.map B := by
    simp only [byteCells]
    rfl
  rwa [e] at h

theorem extract_part (s : ByteArray) (i j : Nat) (_ : j ≤ s.size) (_ : i ≤ j) : (s.extract i j).data.toList = (s.data.toList.drop i).take (j - i) := by
  rw [ByteArray.data_extract, Array.toList_extract, List.extract_eq_take_drop]

/-- 'utf8.DecodeRuneInString' at a character. -/
theorem decodeStr_any (s : ByteArray) (n : Nat) (hc : CharAt s.data.toList n) (w : World) (hT : Lib.Utf8Tabs 2 3 w) :
    Calls Tryd.prog 15 #[.string s] w fun e w' => e = .returned (.tuple #[.int .i32 (rv (s.data.toList.take n) : Nat), .int .i64 n]) ∧ Below w.heap.size w w' := by
  obtain ⟨r, h1, _, _, _, _, _, h2⟩ := decode_char' s 0 n (by simpa using hc)
  have h3 : Lib.decodeGo s = (rv (s.data.toList.take n), n) := by
    have hne : ¬ s.size = 0 := by have := hc.le4; rw [size_eq] at this; omega
    rw [Lib.decodeGo, if_neg hne, h1, h2]
    simp
  have h := Any.utf8_DecodeRuneInString Tryd.laysNm197 s w hT
  rw [h3] at h
  exact h

/-- .. at a byte that belongs to no character. -/
theorem decodeStr_bad (s : ByteArray) (hne : s.data.toList ≠ []) (hno : ∀ n, ¬ CharAt s.data.toList n) (w : World) (hT : Lib.Utf8Tabs 2 3 w) :
    Calls Tryd.prog 15 #[.string s] w fun e w' => e = .returned (.tuple #[.int .i32 65533, .int .i64 1]) ∧ Below w.heap.size w w' := by
  have h3 : Lib.decodeGo s = (65533, 1) := by
    have hn0 : ¬ s.size = 0 := by
      intro e
      exact hne (List.eq_nil_of_length_eq_zero (by rw [size_eq]; exact e))
    rw [Lib.decodeGo, if_neg hn0]
    have := decode_none s.data.toList hne hno
    rwa [show (⟨s.data.toList.toArray⟩ : ByteArray) = s from bytes_ext (by simp)] at this
  have h := Any.utf8_DecodeRuneInString Tryd.laysNm197 s w hT
  rw [h3] at h
  exact h

/-- The four tables. -/
structure Tabs (hs ss : Nat → Bool) (w : World) : Prop where
  size : 4 ≤ w.heap.size
  html : ∀ c, c < 128 → w.cell? ⟨0, c, none⟩ = some (.bool (hs c))
  safe : ∀ c, c < 128 → w.cell? ⟨1, c, none⟩ = some (.bool (ss c))
  utf8 : Lib.Utf8Tabs 2 3 w

theorem Tabs.same {hs ss : Nat → Bool} {w w' : World} (h : Tabs hs ss w) (hz : w.heap.size ≤ w'.heap.size) (e : ∀ k, k < 4 → w'.heap[k]? = w.heap[k]?) : Tabs hs ss w' :=
  ⟨Nat.le_trans h.size hz, fun c hc => (cell_of_heap (e 0 (by omega)) c).trans (h.html c hc), fun c hc => (cell_of_heap (e 1 (by omega)) c).trans (h.safe c hc),
    ⟨fun c hc => (cell_of_heap (e 2 (by omega)) c).trans (h.utf8.1 c hc), fun i hi => ⟨(cell_of_heap (e 3 (by omega)) _).trans (h.utf8.2 i hi).1, (cell_of_heap (e 3 (by omega)) _).trans (h.utf8.2 i hi).2⟩⟩⟩

theorem Tabs.below {hs ss : Nat → Bool} {w w' : World} (h : Tabs hs ss w) (hb : Below w.heap.size w w') : Tabs hs ss w' :=
  h.same hb.size (fun k hk => hb.block k (by have := h.size; omega))

theorem Tabs.kept {hs ss : Nat → Bool} {w w' : World} {v : Value} (h : Tabs hs ss w) (hk : Kept w w' v) (hv : ∀ a, baseOf v = some a → 4 ≤ a.block) : Tabs hs ss w' :=
  h.same hk.size (fun k hk4 => hk.block k (by have := h.size; omega) (fun a ha => by have := hv a ha; omega))

/-- Is a byte of ASCII left as it stands? -/
def safeB (hs ss : Nat → Bool) (html : Bool) (c : Nat) : Bool := hs c || (!html && ss c)

/-- Between two rounds. -/
structure QInv (w : World) (v0 : Value) (L0 : List UInt8) (f : List UInt8 → List UInt8) (l : List UInt8) (v : Value) (st k : Nat) (wr : World) (out : List UInt8) : Prop where
  app : AppTo w v0 wr v (L0 ++ out)
  qi : QI f l out st k
  len : out.length ≤ 6 * st

/-- What the call leaves. -/
structure QuoRet (w : World) (v0 : Value) (l0 : List UInt8) (f : List UInt8 → List UInt8) (l : List UInt8) (e : Ending) (w' : World) : Prop where
  what : ∃ q v', Quoted f l q ∧ q.length ≤ 7 * l.length ∧ e = .returned v' ∧ AppTo w v0 w' v' (l0 ++ [34] ++ q ++ [34])

theorem char_first {l : List UInt8} {n : Nat} (h : CharAt l n) (h0 : 0 < l.length) : (l[0].toNat < 128 ∧ n = 1 ∧ l.take n = [l[0]]) ∨ (128 ≤ l[0].toNat ∧ 2 ≤ n) := by
  rcases h with ⟨rfl, a, u, rfl, h⟩ | ⟨rfl, a, b, u, rfl, h⟩ | ⟨rfl, a, b, d, u, rfl, h⟩ | ⟨rfl, a, b, d, e, u, rfl, h⟩
  · exact .inl ⟨h, rfl, rfl⟩
  · exact .inr ⟨by show 128 ≤ a.toNat; omega, by omega⟩
  · exact .inr ⟨by show 128 ≤ a.toNat; omega, by omega⟩
  · exact .inr ⟨by show 128 ≤ a.toNat; omega, by omega⟩

theorem fq_many {safe : Nat → Bool} {c : List UInt8} (h : 2 ≤ c.length) (h1 : rv c ≠ 8232) (h2 : rv c ≠ 8233) : fq safe c = c := by
  match c, h with
  | a :: b :: t, _ => simp [fq, h1, h2]

/-- The digits. -/
abbrev hexS : ByteArray := { data := #[48, 49, 50, 51, 52, 53, 54, 55, 56, 57, 97, 98, 99, 100, 101, 102] }

theorem hexI_lt {i : Int} (_ : 0 ≤ i) (h2 : i < 16) : i.toNat < hexS.size := by
  have : hexS.size = 16 := rfl
  omega

theorem hexS_at : ∀ n : Fin 16, hexS[n.val]'(by exact n.isLt) = hexd n.val := by decide

theorem escDefault (c : UInt8) (c34 : ¬ c = 34) (c92 : ¬ c = 92) (c8 : ¬ c = 8) (c12 : ¬ c = 12) (c10 : ¬ c = 10) (c13 : ¬ c = 13) (c9 : ¬ c = 9) (p : (((c.toNat : Nat) : Int) / 16).toNat < hexS.size) (q : (((c.toNat : Nat) : Int) % 16).toNat < hexS.size) :
    [92, 117, 48, 48, hexS[(((c.toNat : Nat) : Int) / 16).toNat]'p, hexS[(((c.toNat : Nat) : Int) % 16).toNat]'q] = escA c := by
  have hc := c.toNat_lt
  have e1 : (((c.toNat : Nat) : Int) / 16).toNat = c.toNat / 16 := by omega
  have e2 : (((c.toNat : Nat) : Int) % 16).toNat = c.toNat % 16 := by omega
  have h1 := hexS_at ⟨c.toNat / 16, by omega⟩
  have h2 := hexS_at ⟨c.toNat % 16, by omega⟩
  simp only at h1 h2
  have g1 : hexS[(((c.toNat : Nat) : Int) / 16).toNat]'p = hexd (c.toNat / 16) := by rw [← h1]; congr 1
  have g2 : hexS[(((c.toNat : Nat) : Int) % 16).toNat]'q = hexd (c.toNat % 16) := by rw [← h2]; congr 1
  rw [g1, g2]
  unfold escA
  rw [if_neg (by simp [c34, c92]), if_neg c8, if_neg c12, if_neg c10, if_neg c13, if_neg c9]

theorem and15u_fin : ∀ n : Fin 256, bits .and .u8 ((n.val : Nat) : Int) 15 = ((n.val % 16 : Nat) : Int) := by decide +kernel
theorem and15u (c : UInt8) : bits .and .u8 ((c.toNat : Nat) : Int) 15 = ((c.toNat % 16 : Nat) : Int) := and15u_fin ⟨c.toNat, c.toNat_lt⟩

theorem AppTo.below {w0 w w' : World} {v0 v : Value} {l : List UInt8} (h : AppTo w0 v0 w v l) (hb : Below w.heap.size w w') : AppTo w0 v0 w' v l := by
  have hs := h.kept.size
  refine ⟨h.own.below hb h.own.lt, ⟨hb.os.trans h.kept.os, hb.tape.trans h.kept.tape, hb.output.trans h.kept.output, Nat.le_trans hs hb.size, fun k hk hne => (hb.block k (by omega)).trans (h.kept.block k hk hne), fun a ha hlt o ho => (cell_of_heap (hb.block a.block (by omega)) o).trans (h.kept.low a ha hlt o ho)⟩, h.pos⟩

theorem escDone {w wr w2 : World} {v0 v v2 : Value} {L0 : List UInt8} {f : List UInt8 → List UInt8} {s : ByteArray} {st k m : Nat} {out x e : List UInt8} (h : QInv w v0 L0 f s.data.toList v st k wr out) (hq : QI f s.data.toList (out ++ (s.data.toList.drop st).take (k - st) ++ e) (k + m) (k + m))
    (happ : AppTo w v0 w2 v2 (L0 ++ out ++ (s.data.toList.drop st).take (k - st) ++ x)) (hx : x = e ∧ e.length ≤ 6) (hlt : k < s.size) (hm : 1 ≤ m) :
    (∃ (st' k' : Nat) (out' : List UInt8), Value.int .i64 ((k : Int) + (m : Nat)) = .int .i64 st' ∧ Value.int .i64 ((k : Int) + (m : Nat)) = .int .i64 k' ∧ QInv w v0 L0 f s.data.toList v2 st' k' w2 out') ∧
      s.size - (intOf (.int .i64 ((k : Int) + (m : Nat)))).toNat < s.size - (intOf (.int .i64 (k : Int))).toNat := by
  obtain ⟨rfl, he⟩ := hx
  refine ⟨⟨k + m, k + m, _, by simp, by simp, ?_, hq, ?_⟩, by simp only [intOf]; omega⟩
  · rw [← List.append_assoc, ← List.append_assoc]
    exact happ
  · have := h.len
    have := h.qi.1
    rw [List.length_append, List.length_append, List.length_take]
    omega

set_option maxRecDepth 100000 in
set_option maxHeartbeats 4000000 in
theorem appendString_any (hs ss : Nat → Bool) (html : Bool) (v0 : Value) (l0 : List UInt8) (s : ByteArray) (w : World) (hown : Own w v0 l0) (hv0 : ∀ a, baseOf v0 = some a → 4 ≤ a.block) (hT : Tabs hs ss w) (hsz : s.size ≤ 2000) (hl0 : l0.length ≤ 1000) :
    Calls Tryd.prog 11 #[v0, .string s, .bool html] w (QuoRet w v0 l0 (fq (safeB hs ss html)) s.data.toList) := by
  have HO := Lib.hid hown
  have HV := Lib.hid hv0
  have HT := Lib.hid hT
  clear hown hv0 hT
  go_enter Tryd.func11, Tryd.ntmps11
  go_wp2_with (first
    | (at_builtin
       refine wpList_app u8q rfl (.tmp 13) (.tmp 14) 27 rfl ((AppTo.refl HO.out).alloc _) rfl [34] rfl (src_lit u8q w [34] #[.int .u8 34] rfl 1) (by simp; omega) ?_
       intro v1 w1 h1'
       have h1 := Lib.hid h1'
       clear h1'))
  go_loopw [0, 7, 8, 9, 10, 11, 12] (fun v t i _ _ _ _ wr => ∃ (st k : Nat) (out : List UInt8), t = .int .i64 st ∧ i = .int .i64 k ∧ QInv w v0 (l0 ++ [34]) (fq (safeB hs ss html)) s.data.toList v st k wr out) (fun _ _ i _ _ _ _ _ => s.size - (intOf i).toNat)
  case atStart => exact ⟨0, 0, [], rfl, rfl, by rw [List.append_nil]; exact h1.out, QI.start, Nat.le_refl _⟩
  case round =>
    clear h1
    obtain ⟨st, k, out, rfl, rfl, hinv⟩ := hrel
    have HI := Lib.hid hinv
    have hst := hinv.qi.1
    have hk := hinv.qi.2.1
    rw [size_eq] at hk
    have HL : (l0 ++ [34] ++ out).length ≤ 1001 + 6 * 2000 := by
      have := hinv.len
      simp only [List.length_append, List.length_singleton]
      omega
    have HLen := Lib.hid HL
    have htr := Lib.hid (HT.out.kept hinv.app.kept HV.out)
    clear hinv HL
    by_cases hlt : k < s.size
    · have hk0 : (0 : Int) ≤ (k : Int) := by omega
      have hk1 : (k : Int) < (s.size : Int) := by omega
      have hl : 0 < (s.data.toList.drop k).length := by rw [List.length_drop, size_eq]; omega
      by_cases hex : ¬ ∃ m, CharAt (s.data.toList.drop k) m
      · have hno : ∀ n, ¬ CharAt (s.data.toList.drop k) n := fun n h => hex ⟨n, h⟩
        clear hex
        obtain ⟨c, hcc⟩ : ∃ c : UInt8, s[k]'hlt = c := ⟨_, rfl⟩
        have hdk : s.data.toList.drop k = c :: s.data.toList.drop (k + 1) := by
          rw [List.drop_eq_getElem_cons (by rw [size_eq]; exact hlt), ← hcc]
          rfl
        have hc1 : 128 ≤ c.toNat := by
          rcases Nat.lt_or_ge c.toNat 128 with h | h
          · exact absurd (.inl ⟨rfl, c, _, hdk, h⟩) (hno 1)
          · exact h
        have hc2 : ¬ (c.toNat : Int) < 128 := by omega
        obtain ⟨N, hN⟩ : ∃ N : Nat, N = min (s.size - k) 4 := ⟨_, rfl⟩
        have hN1 : 1 ≤ N := by omega
        have hN2 : k + N ≤ s.size := by omega
        have hmin : min ((s.size : Int) - (k : Int)) 4 = ((N : Nat) : Int) := by omega
        clear hN
        obtain ⟨M, hM⟩ : ∃ M : Nat, M = k + N := ⟨_, rfl⟩
        have hkN : (k : Int) + ((N : Nat) : Int) = ((M : Nat) : Int) := by omega
        have hM1 : k ≤ M := by omega
        have hM2 : M ≤ s.size := by omega
        have hMN : M - k = N := by omega
        have hxl : (s.extract k M).data.toList = (s.data.toList.drop k).take N := by rw [extract_part s k M hM2 hM1, hMN]
        have hxn : ∀ n, ¬ CharAt (s.extract k M).data.toList n := by
          intro n h
          rw [hxl] at h
          have := h.append (t := (s.data.toList.drop k).drop N)
          rw [List.take_append_drop] at this
          exact hno n this
        have hxe : (s.extract k M).data.toList ≠ [] := by
          rw [hxl, hdk]
          intro e
          have := congrArg List.length e
          rw [List.length_take] at this
          simp at this
          omega
        have hq := HI.out.qi.bad (by rw [size_eq]; exact hlt) hno
        have HQ := Lib.hid hq
        have HXN := Lib.hid hxn
        have HXE := Lib.hid hxe
        have HCC := Lib.hid hcc
        clear hM hMN hxl hxn hxe hq hno hdk
        go_wp2_with fail
        refine (decodeStr_bad _ HXE.out HXN.out _ htr.out.utf8).mono ?_
        rintro e w1 ⟨rfl, b1⟩
        have B1 := Lib.hid b1
        clear b1
        have HA := Lib.hid (HI.out.app.below B1.out)
        go_wp2_with (first
          | (at_builtin
             refine wpList_app u8q rfl (.tmp 111) (.tmp 115) 9 rfl HA.out rfl ((s.data.toList.drop st).take (k - st)) rfl (src_strq _ _ _ (extract_part s st k (by omega) hst) (by rw [List.length_take, List.length_drop, size_eq]; simp; omega)) (by have := HLen.out; have e9 := size_eq s; simp only [List.length_append, List.length_singleton, List.length_cons, List.length_nil, List.length_take, List.length_drop] at this ⊢; omega) ?_
             intro v1 w1 h1'
             have h1 := Lib.hid h1'
             clear h1')
          | (at_builtin
             refine wpList_app u8q rfl (.tmp 117) (.const (.string ⟨#[92, 117, 102, 102, 102, 100]⟩)) 9 rfl h1.out rfl bad rfl (src_strq _ _ _ rfl rfl) (by have := HLen.out; have e9 := size_eq s; simp only [bad, List.length_append, List.length_singleton, List.length_cons, List.length_nil, List.length_take, List.length_drop] at this ⊢; omega) ?_
             intro v2 w2 h2'
             have h2 := Lib.hid h2'
             clear h2'))
        exact escDone (m := 1) HI.out HQ.out h2.out ⟨rfl, by decide⟩ hlt (Nat.le_refl _)
      obtain ⟨m, hc⟩ := Classical.not_not.1 hex
      clear hex
      have htx : True := trivial
      have hm4 := hc.le4
      rw [List.length_drop, size_eq] at hm4
      obtain ⟨hm1, hm2, hm3⟩ := hm4
      have hfirst := char_first hc hl
      have e0 : (s.data.toList.drop k)[0] = s[k] := by rw [List.getElem_drop]; rfl
      rw [e0] at hfirst
      have HC := Lib.hid hc
      have HTX := Lib.hid htx
      clear hc htx e0
      obtain ⟨c, hcc⟩ : ∃ c : UInt8, s[k]'hlt = c := ⟨_, rfl⟩
      rw [hcc] at hfirst
      have HCC := Lib.hid hcc
      rcases hfirst with ⟨hc1, rfl, htake⟩ | ⟨hc1, hm2'⟩
      · have HTK := Lib.hid htake
        clear htake
        have hci : (c.toNat : Int) < 128 := by omega
        have ch := htr.out.html c.toNat hc1
        have cs := htr.out.safe c.toNat hc1
        by_cases hsafe : safeB hs ss html c.toNat = true
        · have hq := HI.out.qi.plain HC.out HTX.out (by rw [HTK.out]; show (if safeB hs ss html c.toNat then [c] else escA c) = [c]; rw [if_pos hsafe])
          have HQ := Lib.hid hq
          clear hq
          cases h1 : hs c.toNat with
          | true =>
            rw [h1] at ch
            go_wp2_with fail
            exact ⟨⟨st, k + 1, out, rfl, by simp, HI.out.app, HQ.out, HI.out.len⟩, by simp only [intOf]; omega⟩
          | false =>
            have h3 : html = false ∧ ss c.toNat = true := by
              unfold safeB at hsafe
              rw [h1] at hsafe
              simpa using hsafe
            obtain ⟨rfl, h4⟩ := h3
            rw [h1] at ch
            rw [h4] at cs
            go_wp2_with fail
            exact ⟨⟨st, k + 1, out, rfl, by simp, HI.out.app, HQ.out, HI.out.len⟩, by simp only [intOf]; omega⟩
        · have hq := HI.out.qi.esc (e := escA c) HC.out HTX.out (by rw [HTK.out]; show (if safeB hs ss html c.toNat then [c] else escA c) = escA c; rw [if_neg hsafe])
          have HQ := Lib.hid hq
          clear hq
          have h1 : hs c.toNat = false := by unfold safeB at hsafe; cases h : hs c.toNat with | true => rw [h] at hsafe; simp at hsafe | false => rfl
          have hss : (!html && ss c.toNat) = false := by unfold safeB at hsafe; rw [h1] at hsafe; simpa using hsafe
          rw [h1] at ch
          cases html with
          | false =>
            rw [show ss c.toNat = false by simpa using hss] at cs
            by_cases c34 : c = 34
            · subst c34
              have ch34 : wr.cell? ⟨0, 34, none⟩ = some (.bool false) := ch
              have cs34 : wr.cell? ⟨1, 34, none⟩ = some (.bool false) := cs
              clear cs
              clear ch
              go_wp2_with (first
                | (at_builtin
                   refine wpList_app u8q rfl (.tmp 39) (.tmp 43) 9 rfl HI.out.app rfl ((s.data.toList.drop st).take (k - st)) rfl (src_strq _ _ _ (extract_part s st k (by omega) hst) (by rw [List.length_take, List.length_drop, size_eq]; simp; omega)) (by have := HLen.out; have e9 := size_eq s; simp only [List.length_append, List.length_singleton, List.length_cons, List.length_nil, List.length_take, List.length_drop] at this ⊢; omega) ?_
                   intro v1 w1 h1'
                   have h1 := Lib.hid h1'
                   clear h1')
                | (at_builtin
                   refine wpList_app u8q rfl (.tmp 58) (.tmp 60) 27 rfl (h1.out.alloc _) rfl [92, 34] rfl (src_lit u8q _ [92, 34] #[.int .u8 92, .int .u8 34] rfl 2) (by have := HLen.out; have e9 := size_eq s; simp only [List.length_append, List.length_singleton, List.length_cons, List.length_nil, List.length_take, List.length_drop] at this ⊢; omega) ?_
                   intro v2 w2 h2'
                   have h2 := Lib.hid h2'
                   clear h2'))
              exact escDone HI.out HQ.out h2.out ⟨rfl, by decide⟩ hlt hm1
            by_cases c92 : c = 92
            · subst c92
              have ch92 : wr.cell? ⟨0, 92, none⟩ = some (.bool false) := ch
              have cs92 : wr.cell? ⟨1, 92, none⟩ = some (.bool false) := cs
              clear cs
              clear ch
              go_wp2_with (first
                | (at_builtin
                   refine wpList_app u8q rfl (.tmp 39) (.tmp 43) 9 rfl HI.out.app rfl ((s.data.toList.drop st).take (k - st)) rfl (src_strq _ _ _ (extract_part s st k (by omega) hst) (by rw [List.length_take, List.length_drop, size_eq]; simp; omega)) (by have := HLen.out; have e9 := size_eq s; simp only [List.length_append, List.length_singleton, List.length_cons, List.length_nil, List.length_take, List.length_drop] at this ⊢; omega) ?_
                   intro v1 w1 h1'
                   have h1 := Lib.hid h1'
                   clear h1')
                | (at_builtin
                   refine wpList_app u8q rfl (.tmp 58) (.tmp 60) 27 rfl (h1.out.alloc _) rfl [92, 92] rfl (src_lit u8q _ [92, 92] #[.int .u8 92, .int .u8 92] rfl 2) (by have := HLen.out; have e9 := size_eq s; simp only [List.length_append, List.length_singleton, List.length_cons, List.length_nil, List.length_take, List.length_drop] at this ⊢; omega) ?_
                   intro v2 w2 h2'
                   have h2 := Lib.hid h2'
                   clear h2'))
              exact escDone HI.out HQ.out h2.out ⟨rfl, by decide⟩ hlt hm1
            by_cases c8 : c = 8
            · subst c8
              have ch8 : wr.cell? ⟨0, 8, none⟩ = some (.bool false) := ch
              have cs8 : wr.cell? ⟨1, 8, none⟩ = some (.bool false) := cs
              clear cs
              clear ch
              go_wp2_with (first
                | (at_builtin
                   refine wpList_app u8q rfl (.tmp 39) (.tmp 43) 9 rfl HI.out.app rfl ((s.data.toList.drop st).take (k - st)) rfl (src_strq _ _ _ (extract_part s st k (by omega) hst) (by rw [List.length_take, List.length_drop, size_eq]; simp; omega)) (by have := HLen.out; have e9 := size_eq s; simp only [List.length_append, List.length_singleton, List.length_cons, List.length_nil, List.length_take, List.length_drop] at this ⊢; omega) ?_
                   intro v1 w1 h1'
                   have h1 := Lib.hid h1'
                   clear h1')
                | (at_builtin
                   refine wpList_app u8q rfl (.tmp 64) (.tmp 65) 27 rfl (h1.out.alloc _) rfl [92, 98] rfl (src_lit u8q _ [92, 98] #[.int .u8 92, .int .u8 98] rfl 2) (by have := HLen.out; have e9 := size_eq s; simp only [List.length_append, List.length_singleton, List.length_cons, List.length_nil, List.length_take, List.length_drop] at this ⊢; omega) ?_
                   intro v2 w2 h2'
                   have h2 := Lib.hid h2'
                   clear h2'))
              exact escDone HI.out HQ.out h2.out ⟨rfl, by decide⟩ hlt hm1
            by_cases c12 : c = 12
            · subst c12
              have ch12 : wr.cell? ⟨0, 12, none⟩ = some (.bool false) := ch
              have cs12 : wr.cell? ⟨1, 12, none⟩ = some (.bool false) := cs
              clear cs
              clear ch
              go_wp2_with (first
                | (at_builtin
                   refine wpList_app u8q rfl (.tmp 39) (.tmp 43) 9 rfl HI.out.app rfl ((s.data.toList.drop st).take (k - st)) rfl (src_strq _ _ _ (extract_part s st k (by omega) hst) (by rw [List.length_take, List.length_drop, size_eq]; simp; omega)) (by have := HLen.out; have e9 := size_eq s; simp only [List.length_append, List.length_singleton, List.length_cons, List.length_nil, List.length_take, List.length_drop] at this ⊢; omega) ?_
                   intro v1 w1 h1'
                   have h1 := Lib.hid h1'
                   clear h1')
                | (at_builtin
                   refine wpList_app u8q rfl (.tmp 69) (.tmp 70) 27 rfl (h1.out.alloc _) rfl [92, 102] rfl (src_lit u8q _ [92, 102] #[.int .u8 92, .int .u8 102] rfl 2) (by have := HLen.out; have e9 := size_eq s; simp only [List.length_append, List.length_singleton, List.length_cons, List.length_nil, List.length_take, List.length_drop] at this ⊢; omega) ?_
                   intro v2 w2 h2'
                   have h2 := Lib.hid h2'
                   clear h2'))
              exact escDone HI.out HQ.out h2.out ⟨rfl, by decide⟩ hlt hm1
            by_cases c10 : c = 10
            · subst c10
              have ch10 : wr.cell? ⟨0, 10, none⟩ = some (.bool false) := ch
              have cs10 : wr.cell? ⟨1, 10, none⟩ = some (.bool false) := cs
              clear cs
              clear ch
              go_wp2_with (first
                | (at_builtin
                   refine wpList_app u8q rfl (.tmp 39) (.tmp 43) 9 rfl HI.out.app rfl ((s.data.toList.drop st).take (k - st)) rfl (src_strq _ _ _ (extract_part s st k (by omega) hst) (by rw [List.length_take, List.length_drop, size_eq]; simp; omega)) (by have := HLen.out; have e9 := size_eq s; simp only [List.length_append, List.length_singleton, List.length_cons, List.length_nil, List.length_take, List.length_drop] at this ⊢; omega) ?_
                   intro v1 w1 h1'
                   have h1 := Lib.hid h1'
                   clear h1')
                | (at_builtin
                   refine wpList_app u8q rfl (.tmp 74) (.tmp 75) 27 rfl (h1.out.alloc _) rfl [92, 110] rfl (src_lit u8q _ [92, 110] #[.int .u8 92, .int .u8 110] rfl 2) (by have := HLen.out; have e9 := size_eq s; simp only [List.length_append, List.length_singleton, List.length_cons, List.length_nil, List.length_take, List.length_drop] at this ⊢; omega) ?_
                   intro v2 w2 h2'
                   have h2 := Lib.hid h2'
                   clear h2'))
              exact escDone HI.out HQ.out h2.out ⟨rfl, by decide⟩ hlt hm1
            by_cases c13 : c = 13
            · subst c13
              have ch13 : wr.cell? ⟨0, 13, none⟩ = some (.bool false) := ch
              have cs13 : wr.cell? ⟨1, 13, none⟩ = some (.bool false) := cs
              clear cs
              clear ch
              go_wp2_with (first
                | (at_builtin
                   refine wpList_app u8q rfl (.tmp 39) (.tmp 43) 9 rfl HI.out.app rfl ((s.data.toList.drop st).take (k - st)) rfl (src_strq _ _ _ (extract_part s st k (by omega) hst) (by rw [List.length_take, List.length_drop, size_eq]; simp; omega)) (by have := HLen.out; have e9 := size_eq s; simp only [List.length_append, List.length_singleton, List.length_cons, List.length_nil, List.length_take, List.length_drop] at this ⊢; omega) ?_
                   intro v1 w1 h1'
                   have h1 := Lib.hid h1'
                   clear h1')
                | (at_builtin
                   refine wpList_app u8q rfl (.tmp 79) (.tmp 80) 27 rfl (h1.out.alloc _) rfl [92, 114] rfl (src_lit u8q _ [92, 114] #[.int .u8 92, .int .u8 114] rfl 2) (by have := HLen.out; have e9 := size_eq s; simp only [List.length_append, List.length_singleton, List.length_cons, List.length_nil, List.length_take, List.length_drop] at this ⊢; omega) ?_
                   intro v2 w2 h2'
                   have h2 := Lib.hid h2'
                   clear h2'))
              exact escDone HI.out HQ.out h2.out ⟨rfl, by decide⟩ hlt hm1
            by_cases c9 : c = 9
            · subst c9
              have ch9 : wr.cell? ⟨0, 9, none⟩ = some (.bool false) := ch
              have cs9 : wr.cell? ⟨1, 9, none⟩ = some (.bool false) := cs
              clear cs
              clear ch
              go_wp2_with (first
                | (at_builtin
                   refine wpList_app u8q rfl (.tmp 39) (.tmp 43) 9 rfl HI.out.app rfl ((s.data.toList.drop st).take (k - st)) rfl (src_strq _ _ _ (extract_part s st k (by omega) hst) (by rw [List.length_take, List.length_drop, size_eq]; simp; omega)) (by have := HLen.out; have e9 := size_eq s; simp only [List.length_append, List.length_singleton, List.length_cons, List.length_nil, List.length_take, List.length_drop] at this ⊢; omega) ?_
                   intro v1 w1 h1'
                   have h1 := Lib.hid h1'
                   clear h1')
                | (at_builtin
                   refine wpList_app u8q rfl (.tmp 84) (.tmp 85) 27 rfl (h1.out.alloc _) rfl [92, 116] rfl (src_lit u8q _ [92, 116] #[.int .u8 92, .int .u8 116] rfl 2) (by have := HLen.out; have e9 := size_eq s; simp only [List.length_append, List.length_singleton, List.length_cons, List.length_nil, List.length_take, List.length_drop] at this ⊢; omega) ?_
                   intro v2 w2 h2'
                   have h2 := Lib.hid h2'
                   clear h2'))
              exact escDone HI.out HQ.out h2.out ⟨rfl, by decide⟩ hlt hm1
            have n34 : (((c.toNat : Nat) : Int) == 34) = false := u8_ne (d := 34) c34
            have n92 : (((c.toNat : Nat) : Int) == 92) = false := u8_ne (d := 92) c92
            have n8 : (((c.toNat : Nat) : Int) == 8) = false := u8_ne (d := 8) c8
            have n12 : (((c.toNat : Nat) : Int) == 12) = false := u8_ne (d := 12) c12
            have n10 : (((c.toNat : Nat) : Int) == 10) = false := u8_ne (d := 10) c10
            have n13 : (((c.toNat : Nat) : Int) == 13) = false := u8_ne (d := 13) c13
            have n9 : (((c.toNat : Nat) : Int) == 9) = false := u8_ne (d := 9) c9
            have hx1 := and15u c
            have hd1 : (0 : Int) ≤ ((c.toNat : Nat) : Int) / 16 := by omega
            have hd2 : ((c.toNat : Nat) : Int) / 16 < 16 := by have := c.toNat_lt; omega
            have hd3 : (0 : Int) ≤ ((c.toNat : Nat) : Int) % 16 := by omega
            have hd4 : ((c.toNat : Nat) : Int) % 16 < 16 := by omega
            have HXE := Lib.hid (escDefault c c34 c92 c8 c12 c10 c13 c9 (hexI_lt hd1 hd2) (hexI_lt hd3 hd4))
            go_wp2_with (first
              | (at_builtin
                 refine wpList_app u8q rfl (.tmp 39) (.tmp 43) 9 rfl HI.out.app rfl ((s.data.toList.drop st).take (k - st)) rfl (src_strq _ _ _ (extract_part s st k (by omega) hst) (by rw [List.length_take, List.length_drop, size_eq]; simp; omega)) (by have := HLen.out; have e9 := size_eq s; simp only [List.length_append, List.length_singleton, List.length_cons, List.length_nil, List.length_take, List.length_drop] at this ⊢; omega) ?_
                 intro v1 w1 h1'
                 have h1 := Lib.hid h1'
                 clear h1'))
            go_region_law ((refine step_app u8q rfl (.tmp 46) (.tmp 53) 27 rfl (by exact (h1.out.alloc _).drew) (by rfl) [92, 117, 48, 48, hexS[(((c.toNat : Nat) : Int) / 16).toNat]'(hexI_lt hd1 hd2), hexS[(((c.toNat : Nat) : Int) % 16).toNat]'(hexI_lt hd3 hd4)] (by rfl) (by exact src_block u8q (by exact heap_alloc_new w1 _) [92, 117, 48, 48, hexS[(((c.toNat : Nat) : Int) / 16).toNat]'(hexI_lt hd1 hd2), hexS[(((c.toNat : Nat) : Int) % 16).toNat]'(hexI_lt hd3 hd4)] (by rfl) 6) (by have := HLen.out; have e9 := size_eq s; simp only [List.length_append, List.length_singleton, List.length_cons, List.length_nil, List.length_take, List.length_drop] at this ⊢; omega) ?_; intro v3 w3 h3'; have h3 := Lib.hid h3'; clear h3'))
            all_goals
              go_wp2_with fail
              exact escDone HI.out HQ.out h3.out ⟨HXE.out, by rw [← HXE.out]; simp⟩ hlt hm1
          | true =>
            clear cs
            by_cases c34 : c = 34
            · subst c34
              have ch34 : wr.cell? ⟨0, 34, none⟩ = some (.bool false) := ch
              clear ch
              go_wp2_with (first
                | (at_builtin
                   refine wpList_app u8q rfl (.tmp 39) (.tmp 43) 9 rfl HI.out.app rfl ((s.data.toList.drop st).take (k - st)) rfl (src_strq _ _ _ (extract_part s st k (by omega) hst) (by rw [List.length_take, List.length_drop, size_eq]; simp; omega)) (by have := HLen.out; have e9 := size_eq s; simp only [List.length_append, List.length_singleton, List.length_cons, List.length_nil, List.length_take, List.length_drop] at this ⊢; omega) ?_
                   intro v1 w1 h1'
                   have h1 := Lib.hid h1'
                   clear h1')
                | (at_builtin
                   refine wpList_app u8q rfl (.tmp 58) (.tmp 60) 27 rfl (h1.out.alloc _) rfl [92, 34] rfl (src_lit u8q _ [92, 34] #[.int .u8 92, .int .u8 34] rfl 2) (by have := HLen.out; have e9 := size_eq s; simp only [List.length_append, List.length_singleton, List.length_cons, List.length_nil, List.length_take, List.length_drop] at this ⊢; omega) ?_
                   intro v2 w2 h2'
                   have h2 := Lib.hid h2'
                   clear h2'))
              exact escDone HI.out HQ.out h2.out ⟨rfl, by decide⟩ hlt hm1
            by_cases c92 : c = 92
            · subst c92
              have ch92 : wr.cell? ⟨0, 92, none⟩ = some (.bool false) := ch
              clear ch
              go_wp2_with (first
                | (at_builtin
                   refine wpList_app u8q rfl (.tmp 39) (.tmp 43) 9 rfl HI.out.app rfl ((s.data.toList.drop st).take (k - st)) rfl (src_strq _ _ _ (extract_part s st k (by omega) hst) (by rw [List.length_take, List.length_drop, size_eq]; simp; omega)) (by have := HLen.out; have e9 := size_eq s; simp only [List.length_append, List.length_singleton, List.length_cons, List.length_nil, List.length_take, List.length_drop] at this ⊢; omega) ?_
                   intro v1 w1 h1'
                   have h1 := Lib.hid h1'
                   clear h1')
                | (at_builtin
                   refine wpList_app u8q rfl (.tmp 58) (.tmp 60) 27 rfl (h1.out.alloc _) rfl [92, 92] rfl (src_lit u8q _ [92, 92] #[.int .u8 92, .int .u8 92] rfl 2) (by have := HLen.out; have e9 := size_eq s; simp only [List.length_append, List.length_singleton, List.length_cons, List.length_nil, List.length_take, List.length_drop] at this ⊢; omega) ?_
                   intro v2 w2 h2'
                   have h2 := Lib.hid h2'
                   clear h2'))
              exact escDone HI.out HQ.out h2.out ⟨rfl, by decide⟩ hlt hm1
            by_cases c8 : c = 8
            · subst c8
              have ch8 : wr.cell? ⟨0, 8, none⟩ = some (.bool false) := ch
              clear ch
              go_wp2_with (first
                | (at_builtin
                   refine wpList_app u8q rfl (.tmp 39) (.tmp 43) 9 rfl HI.out.app rfl ((s.data.toList.drop st).take (k - st)) rfl (src_strq _ _ _ (extract_part s st k (by omega) hst) (by rw [List.length_take, List.length_drop, size_eq]; simp; omega)) (by have := HLen.out; have e9 := size_eq s; simp only [List.length_append, List.length_singleton, List.length_cons, List.length_nil, List.length_take, List.length_drop] at this ⊢; omega) ?_
                   intro v1 w1 h1'
                   have h1 := Lib.hid h1'
                   clear h1')
                | (at_builtin
                   refine wpList_app u8q rfl (.tmp 64) (.tmp 65) 27 rfl (h1.out.alloc _) rfl [92, 98] rfl (src_lit u8q _ [92, 98] #[.int .u8 92, .int .u8 98] rfl 2) (by have := HLen.out; have e9 := size_eq s; simp only [List.length_append, List.length_singleton, List.length_cons, List.length_nil, List.length_take, List.length_drop] at this ⊢; omega) ?_
                   intro v2 w2 h2'
                   have h2 := Lib.hid h2'
                   clear h2'))
              exact escDone HI.out HQ.out h2.out ⟨rfl, by decide⟩ hlt hm1
            by_cases c12 : c = 12
            · subst c12
              have ch12 : wr.cell? ⟨0, 12, none⟩ = some (.bool false) := ch
              clear ch
              go_wp2_with (first
                | (at_builtin
                   refine wpList_app u8q rfl (.tmp 39) (.tmp 43) 9 rfl HI.out.app rfl ((s.data.toList.drop st).take (k - st)) rfl (src_strq _ _ _ (extract_part s st k (by omega) hst) (by rw [List.length_take, List.length_drop, size_eq]; simp; omega)) (by have := HLen.out; have e9 := size_eq s; simp only [List.length_append, List.length_singleton, List.length_cons, List.length_nil, List.length_take, List.length_drop] at this ⊢; omega) ?_
                   intro v1 w1 h1'
                   have h1 := Lib.hid h1'
                   clear h1')
                | (at_builtin
                   refine wpList_app u8q rfl (.tmp 69) (.tmp 70) 27 rfl (h1.out.alloc _) rfl [92, 102] rfl (src_lit u8q _ [92, 102] #[.int .u8 92, .int .u8 102] rfl 2) (by have := HLen.out; have e9 := size_eq s; simp only [List.length_append, List.length_singleton, List.length_cons, List.length_nil, List.length_take, List.length_drop] at this ⊢; omega) ?_
                   intro v2 w2 h2'
                   have h2 := Lib.hid h2'
                   clear h2'))
              exact escDone HI.out HQ.out h2.out ⟨rfl, by decide⟩ hlt hm1
            by_cases c10 : c = 10
            · subst c10
              have ch10 : wr.cell? ⟨0, 10, none⟩ = some (.bool false) := ch
              clear ch
              go_wp2_with (first
                | (at_builtin
                   refine wpList_app u8q rfl (.tmp 39) (.tmp 43) 9 rfl HI.out.app rfl ((s.data.toList.drop st).take (k - st)) rfl (src_strq _ _ _ (extract_part s st k (by omega) hst) (by rw [List.length_take, List.length_drop, size_eq]; simp; omega)) (by have := HLen.out; have e9 := size_eq s; simp only [List.length_append, List.length_singleton, List.length_cons, List.length_nil, List.length_take, List.length_drop] at this ⊢; omega) ?_
                   intro v1 w1 h1'
                   have h1 := Lib.hid h1'
                   clear h1')
                | (at_builtin
                   refine wpList_app u8q rfl (.tmp 74) (.tmp 75) 27 rfl (h1.out.alloc _) rfl [92, 110] rfl (src_lit u8q _ [92, 110] #[.int .u8 92, .int .u8 110] rfl 2) (by have := HLen.out; have e9 := size_eq s; simp only [List.length_append, List.length_singleton, List.length_cons, List.length_nil, List.length_take, List.length_drop] at this ⊢; omega) ?_
                   intro v2 w2 h2'
                   have h2 := Lib.hid h2'
                   clear h2'))
              exact escDone HI.out HQ.out h2.out ⟨rfl, by decide⟩ hlt hm1
            by_cases c13 : c = 13
            · subst c13
              have ch13 : wr.cell? ⟨0, 13, none⟩ = some (.bool false) := ch
              clear ch
              go_wp2_with (first
                | (at_builtin
                   refine wpList_app u8q rfl (.tmp 39) (.tmp 43) 9 rfl HI.out.app rfl ((s.data.toList.drop st).take (k - st)) rfl (src_strq _ _ _ (extract_part s st k (by omega) hst) (by rw [List.length_take, List.length_drop, size_eq]; simp; omega)) (by have := HLen.out; have e9 := size_eq s; simp only [List.length_append, List.length_singleton, List.length_cons, List.length_nil, List.length_take, List.length_drop] at this ⊢; omega) ?_
                   intro v1 w1 h1'
                   have h1 := Lib.hid h1'
                   clear h1')
                | (at_builtin
                   refine wpList_app u8q rfl (.tmp 79) (.tmp 80) 27 rfl (h1.out.alloc _) rfl [92, 114] rfl (src_lit u8q _ [92, 114] #[.int .u8 92, .int .u8 114] rfl 2) (by have := HLen.out; have e9 := size_eq s; simp only [List.length_append, List.length_singleton, List.length_cons, List.length_nil, List.length_take, List.length_drop] at this ⊢; omega) ?_
                   intro v2 w2 h2'
                   have h2 := Lib.hid h2'
                   clear h2'))
              exact escDone HI.out HQ.out h2.out ⟨rfl, by decide⟩ hlt hm1
            by_cases c9 : c = 9
            · subst c9
              have ch9 : wr.cell? ⟨0, 9, none⟩ = some (.bool false) := ch
              clear ch
              go_wp2_with (first
                | (at_builtin
                   refine wpList_app u8q rfl (.tmp 39) (.tmp 43) 9 rfl HI.out.app rfl ((s.data.toList.drop st).take (k - st)) rfl (src_strq _ _ _ (extract_part s st k (by omega) hst) (by rw [List.length_take, List.length_drop, size_eq]; simp; omega)) (by have := HLen.out; have e9 := size_eq s; simp only [List.length_append, List.length_singleton, List.length_cons, List.length_nil, List.length_take, List.length_drop] at this ⊢; omega) ?_
                   intro v1 w1 h1'
                   have h1 := Lib.hid h1'
                   clear h1')
                | (at_builtin
                   refine wpList_app u8q rfl (.tmp 84) (.tmp 85) 27 rfl (h1.out.alloc _) rfl [92, 116] rfl (src_lit u8q _ [92, 116] #[.int .u8 92, .int .u8 116] rfl 2) (by have := HLen.out; have e9 := size_eq s; simp only [List.length_append, List.length_singleton, List.length_cons, List.length_nil, List.length_take, List.length_drop] at this ⊢; omega) ?_
                   intro v2 w2 h2'
                   have h2 := Lib.hid h2'
                   clear h2'))
              exact escDone HI.out HQ.out h2.out ⟨rfl, by decide⟩ hlt hm1
            have n34 : (((c.toNat : Nat) : Int) == 34) = false := u8_ne (d := 34) c34
            have n92 : (((c.toNat : Nat) : Int) == 92) = false := u8_ne (d := 92) c92
            have n8 : (((c.toNat : Nat) : Int) == 8) = false := u8_ne (d := 8) c8
            have n12 : (((c.toNat : Nat) : Int) == 12) = false := u8_ne (d := 12) c12
            have n10 : (((c.toNat : Nat) : Int) == 10) = false := u8_ne (d := 10) c10
            have n13 : (((c.toNat : Nat) : Int) == 13) = false := u8_ne (d := 13) c13
            have n9 : (((c.toNat : Nat) : Int) == 9) = false := u8_ne (d := 9) c9
            have hx1 := and15u c
            have hd1 : (0 : Int) ≤ ((c.toNat : Nat) : Int) / 16 := by omega
            have hd2 : ((c.toNat : Nat) : Int) / 16 < 16 := by have := c.toNat_lt; omega
            have hd3 : (0 : Int) ≤ ((c.toNat : Nat) : Int) % 16 := by omega
            have hd4 : ((c.toNat : Nat) : Int) % 16 < 16 := by omega
            have HXE := Lib.hid (escDefault c c34 c92 c8 c12 c10 c13 c9 (hexI_lt hd1 hd2) (hexI_lt hd3 hd4))
            go_wp2_with (first
              | (at_builtin
                 refine wpList_app u8q rfl (.tmp 39) (.tmp 43) 9 rfl HI.out.app rfl ((s.data.toList.drop st).take (k - st)) rfl (src_strq _ _ _ (extract_part s st k (by omega) hst) (by rw [List.length_take, List.length_drop, size_eq]; simp; omega)) (by have := HLen.out; have e9 := size_eq s; simp only [List.length_append, List.length_singleton, List.length_cons, List.length_nil, List.length_take, List.length_drop] at this ⊢; omega) ?_
                 intro v1 w1 h1'
                 have h1 := Lib.hid h1'
                 clear h1'))
            go_region_law ((refine step_app u8q rfl (.tmp 46) (.tmp 53) 27 rfl (by exact (h1.out.alloc _).drew) (by rfl) [92, 117, 48, 48, hexS[(((c.toNat : Nat) : Int) / 16).toNat]'(hexI_lt hd1 hd2), hexS[(((c.toNat : Nat) : Int) % 16).toNat]'(hexI_lt hd3 hd4)] (by rfl) (by exact src_block u8q (by exact heap_alloc_new w1 _) [92, 117, 48, 48, hexS[(((c.toNat : Nat) : Int) / 16).toNat]'(hexI_lt hd1 hd2), hexS[(((c.toNat : Nat) : Int) % 16).toNat]'(hexI_lt hd3 hd4)] (by rfl) 6) (by have := HLen.out; have e9 := size_eq s; simp only [List.length_append, List.length_singleton, List.length_cons, List.length_nil, List.length_take, List.length_drop] at this ⊢; omega) ?_; intro v3 w3 h3'; have h3 := Lib.hid h3'; clear h3'))
            all_goals
              go_wp2_with fail
              exact escDone HI.out HQ.out h3.out ⟨HXE.out, by rw [← HXE.out]; simp⟩ hlt hm1
      · have hc2 : ¬ (c.toNat : Int) < 128 := by omega
        obtain ⟨N, hN⟩ : ∃ N : Nat, N = min (s.size - k) 4 := ⟨_, rfl⟩
        have hN1 : m ≤ N := by omega
        have hN2 : k + N ≤ s.size := by omega
        have hmin : min ((s.size : Int) - (k : Int)) 4 = ((N : Nat) : Int) := by omega
        clear hN
        obtain ⟨M, hM⟩ : ∃ M : Nat, M = k + N := ⟨_, rfl⟩
        have hkN : (k : Int) + ((N : Nat) : Int) = ((M : Nat) : Int) := by omega
        have hM1 : k ≤ M := by omega
        have hM2 : M ≤ s.size := by omega
        have hMN : M - k = N := by omega
        have hch : CharAt (s.extract k M).data.toList m := by
          rw [extract_part s k M hM2 hM1, hMN]
          exact HC.out.takeN hN1
        have hrv : (s.extract k M).data.toList.take m = (s.data.toList.drop k).take m := by
          rw [extract_part s k M hM2 hM1, hMN, List.take_take, Nat.min_eq_left hN1]
        clear hM hMN
        have HCH := Lib.hid hch
        have HRV := Lib.hid hrv
        clear hch hrv
        go_wp2_with fail
        refine (decodeStr_any _ m HCH.out _ htr.out.utf8).mono ?_
        rw [HRV.out]
        rintro e w1 ⟨rfl, b1⟩
        have B1 := Lib.hid b1
        clear b1
        have hbad : rv ((s.data.toList.drop k).take m) ≠ 65533 ∨ (m : Int) ≠ 1 := .inr (by omega)
        have hlen2 : 2 ≤ ((s.data.toList.drop k).take m).length := by rw [List.length_take, List.length_drop, size_eq]; omega
        have HLEN2 := Lib.hid hlen2
        clear hbad hlen2
        have hm1' : ((m : Int) == 1) = false := by rw [beq_eq_false_iff_ne]; omega
        obtain ⟨r, hr⟩ : ∃ r, rv ((s.data.toList.drop k).take m) = r := ⟨_, rfl⟩
        rw [hr]
        have HR := Lib.hid hr
        clear hr
        by_cases r1 : r = 8232
        · subst r1
          have e1 : bits .and .i32 8232 15 = 8 := by decide +kernel
          have hq := HI.out.qi.esc (e := [92, 117, 50, 48, 50, 56]) HC.out HTX.out (by
            have h2 := HLEN2.out
            have h3 := HR.out
            generalize (s.data.toList.drop k).take m = x at h2 h3 ⊢
            match x, h2 with
            | a :: b :: t, _ => simp [fq, h3])
          have HQ := Lib.hid hq
          clear hq
          have HA := Lib.hid (HI.out.app.below B1.out)
          go_wp2_with (first
            | (at_builtin
               refine wpList_app u8q rfl (.tmp 129) (.tmp 133) 9 rfl HA.out rfl ((s.data.toList.drop st).take (k - st)) rfl (src_strq _ _ _ (extract_part s st k (by omega) hst) (by rw [List.length_take, List.length_drop, size_eq]; simp; omega)) (by have := HLen.out; have e9 := size_eq s; simp only [List.length_append, List.length_singleton, List.length_cons, List.length_nil, List.length_take, List.length_drop] at this ⊢; omega) ?_
               intro v1 w1 h1'
               have h1 := Lib.hid h1'
               clear h1')
            | (at_builtin
               refine wpList_app u8q rfl (.tmp 135) (.tmp 139) 27 rfl (h1.out.alloc _) rfl [92, 117, 50, 48, 50, 56] rfl (src_lit u8q _ [92, 117, 50, 48, 50, 56] #[.int .u8 92, .int .u8 117, .int .u8 50, .int .u8 48, .int .u8 50, .int .u8 56] rfl 6) (by have := HLen.out; have e9 := size_eq s; simp only [List.length_append, List.length_singleton, List.length_cons, List.length_nil, List.length_take, List.length_drop] at this ⊢; omega) ?_
               intro v2 w2 h2'
               have h2 := Lib.hid h2'
               clear h2'))
          exact escDone HI.out HQ.out h2.out ⟨rfl, by decide⟩ hlt hm1
        · by_cases r2 : r = 8233
          · subst r2
            have e1 : bits .and .i32 8233 15 = 9 := by decide +kernel
            have hq := HI.out.qi.esc (e := [92, 117, 50, 48, 50, 57]) HC.out HTX.out (by
              have h2 := HLEN2.out
              have h3 := HR.out
              generalize (s.data.toList.drop k).take m = x at h2 h3 ⊢
              match x, h2 with
              | a :: b :: t, _ => simp [fq, h3])
            have HQ := Lib.hid hq
            clear hq
            have HA := Lib.hid (HI.out.app.below B1.out)
            go_wp2_with (first
              | (at_builtin
                 refine wpList_app u8q rfl (.tmp 129) (.tmp 133) 9 rfl HA.out rfl ((s.data.toList.drop st).take (k - st)) rfl (src_strq _ _ _ (extract_part s st k (by omega) hst) (by rw [List.length_take, List.length_drop, size_eq]; simp; omega)) (by have := HLen.out; have e9 := size_eq s; simp only [List.length_append, List.length_singleton, List.length_cons, List.length_nil, List.length_take, List.length_drop] at this ⊢; omega) ?_
                 intro v1 w1 h1'
                 have h1 := Lib.hid h1'
                 clear h1')
              | (at_builtin
                 refine wpList_app u8q rfl (.tmp 135) (.tmp 139) 27 rfl (h1.out.alloc _) rfl [92, 117, 50, 48, 50, 57] rfl (src_lit u8q _ [92, 117, 50, 48, 50, 57] #[.int .u8 92, .int .u8 117, .int .u8 50, .int .u8 48, .int .u8 50, .int .u8 57] rfl 6) (by have := HLen.out; have e9 := size_eq s; simp only [List.length_append, List.length_singleton, List.length_cons, List.length_nil, List.length_take, List.length_drop] at this ⊢; omega) ?_
                 intro v2 w2 h2'
                 have h2 := Lib.hid h2'
                 clear h2'))
            exact escDone HI.out HQ.out h2.out ⟨rfl, by decide⟩ hlt hm1
          · have n1 : ((r : Int) == 8232) = false := by rw [beq_eq_false_iff_ne]; omega
            have n2 : ((r : Int) == 8233) = false := by rw [beq_eq_false_iff_ne]; omega
            have hq := HI.out.qi.plain HC.out HTX.out (fq_many HLEN2.out (by rw [HR.out]; exact r1) (by rw [HR.out]; exact r2))
            have HQ := Lib.hid hq
            clear hq
            by_cases r3 : r = 65533
            · subst r3
              go_wp2_with fail
              exact ⟨⟨st, k + m, out, rfl, by simp, ⟨HI.out.app.below B1.out, HQ.out, HI.out.len⟩⟩, by simp only [intOf]; omega⟩
            · have n3 : ((r : Int) == 65533) = false := by rw [beq_eq_false_iff_ne]; omega
              go_wp2_with fail
              exact ⟨⟨st, k + m, out, rfl, by simp, ⟨HI.out.app.below B1.out, HQ.out, HI.out.len⟩⟩, by simp only [intOf]; omega⟩
    · obtain rfl : k = s.size := by omega
      have hq := HI.out.qi
      rw [← size_eq] at hq
      have HQ := Lib.hid hq.done
      clear hq
      go_wp2_with (first
        | (at_builtin
           refine wpList_app u8q rfl (.tmp 148) (.tmp 151) 9 rfl HI.out.app rfl (s.data.toList.drop st) rfl (src_strq _ _ _ (extract_list s st) (by rw [List.length_drop, size_eq]; simp)) (by have := HLen.out; have e9 := size_eq s; simp only [List.length_append, List.length_singleton, List.length_cons, List.length_nil, List.length_take, List.length_drop] at this ⊢; omega) ?_
           intro v1 w1 h1'
           have h1 := Lib.hid h1'
           clear h1')
        | (at_builtin
           refine wpList_app u8q rfl (.tmp 153) (.tmp 154) 27 rfl (h1.out.alloc _) rfl [34] rfl (src_lit u8q _ [34] #[.int .u8 34] rfl 1) (by have := HLen.out; have e9 := size_eq s; simp only [List.length_append, List.length_singleton, List.length_cons, List.length_nil, List.length_take, List.length_drop] at this ⊢; omega) ?_
           intro v2 w2 h2'
           have h2 := Lib.hid h2'
           clear h2'))
      go_ret
      refine ⟨_, _, HQ.out, ?_, rfl, by have := h2.out; simpa using this⟩
      have := HI.out.len
      rw [List.length_append, List.length_drop, size_eq]
      omega

end Go.Proofs.YtojlplpofjaljaaDoor
