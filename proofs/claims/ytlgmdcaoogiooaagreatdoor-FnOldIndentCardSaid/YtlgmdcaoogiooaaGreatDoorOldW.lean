/- The reference's text of encoding/json over lines; the white space at the end. -/
import Derived.Test.YtlgmdcaoogiooaaGreatDoorWrtT
import Derived.Test.YtlgmdcaoogiooaaGreatDoorLive
import Derived.Test.YtlgmdcaoogiooaaGreatDoorIndL
namespace Go.Proofs.YtlgmdcaoogiooaaGreatDoor.Sty
open Go.RowKit Go.Proofs.YtlgmdcaoogiooaaGreatDoor Go.Proofs.YtlgmdcaoogiooaaGreatDoor.Ind

theorem wide_ret {tmps : Array Value} {Z : World} {r : Nat} {p i : ByteArray} (hZ : Z.heap[r]? = some (.cells #[.bool false, .bool false, .bool false, .bool false, .bool true, .bool false, .bool false, .bool false, .bool true, .bool true, .bool false, .string i, .string p] 32 (0, 0))) (hp : tmps.getD 4 undef = .pointer (some ⟨r, 0, none⟩)) :
    (results Tryz.f6 tmps).run Tryz.prog Z = .ok (styl p i) Z :=
  results_cell_row (p := 4) (ty := 32) rfl tmps Z r 32 #[.bool false, .bool false, .bool false, .bool false, .bool true, .bool false, .bool false, .bool false, .bool true, .bool true, .bool false, .string i, .string p] (0, 0) _ hp hZ Tryz.underlying32 rfl (by kernel_rfl)

set_option maxRecDepth 100000 in
set_option maxHeartbeats 1000000 in
theorem wide_any (p i : ByteArray) (w : World) :
    Calls Tryz.prog 6 #[.string p, .string i] w fun e w' => e = .returned (styl p i) ∧ Below w.heap.size w w' := by
  go_enter Tryz.func6, Tryz.ntmps6
  go_wp2_with fail
  (try simp only [Exit.inBlock, Exit.then])
  refine bodyPost_ret (wide_ret (p := p) (i := i) (r := w.heap.size) ?_ rfl) rfl ⟨rfl, ?_⟩
  · exact heap_alloc_new w _
  · exact (Below.refl _ _).alloc (Nat.le_refl _) _

theorem indAll_len {p i : List UInt8} (hp : p.length ≤ 16) (hi : i.length ≤ 16) : ∀ (l : List UInt8) (g : Cfg) (k : Nat) (s : IS), Bnd k s → k + l.length ≤ 1001 → (indAll p i g k s l).out.length ≤ (k + l.length) * 40000
  | [], g, k, s, h, _ => by rw [List.length_nil, Nat.add_zero]; exact h.out
  | c :: t, g, k, s, h, hk => by
    rw [List.length_cons] at hk ⊢
    show (if (stepC g ((k + 1 : Nat) : Int) c.toNat).2 = 11 then s else indAll p i (stepC g ((k + 1 : Nat) : Int) c.toNat).1 (k + 1) (indStep p i s c.toNat (stepC g ((k + 1 : Nat) : Int) c.toNat).2) t).out.length ≤ _
    split
    · exact Nat.le_trans h.out (Nat.mul_le_mul_right _ (by omega))
    · have := indAll_len hp hi t (stepC g ((k + 1 : Nat) : Int) c.toNat).1 (k + 1) _ (indStep_bnd (c := c.toNat) (v := (stepC g ((k + 1 : Nat) : Int) c.toNat).2) hp hi (by omega) h) (by omega)
      rwa [show k + 1 + t.length = k + (t.length + 1) by omega] at this

theorem wr_len {s : ByteArray} (hs : s.size ≤ 1000) {v : Nat} {T : Tr} (h : Val s 0 v T) (he : mSpace s.data.toList v = s.size) (p i : List UInt8) (hp : p.length ≤ 16) (hi : i.length ≤ 16) : (wr p i T 0).length ≤ 50000000 := by
  have h1 := indAll_len hp hi s.data.toList newCfg 0 ⟨false, 0, []⟩ Bnd.start (by rw [size_eq]; omega)
  rw [ind_tree h he, List.length_append, size_eq] at h1
  omega

/-- How the white space at the end is found. -/
theorem trail_at {s : ByteArray} {v : Nat} (_ : LastN s.data.toList v) (he : mSpace s.data.toList v = s.size) (hv : v ≤ s.size) : ∀ k, v ≤ k → (hk : k < s.size) → isSp (s[k]'hk).toNat := by
  have key : ∀ n k, s.size - k ≤ n → k ≤ s.size → mSpace s.data.toList k = s.size → ∀ x, k ≤ x → (hx : x < s.size) → isSp (s[x]'hx).toNat := by
    intro n
    induction n with
    | zero => intro k h1 h2 _ x h3 h4; omega
    | succ n ih =>
      intro k h1 h2 hm x h3 h4
      have hk : k < s.data.toList.length := by rw [size_eq]; omega
      by_cases hc : isSp (s.data.toList[k]'hk).toNat
      · by_cases hxk : x = k
        · subst hxk; exact hc
        · rw [mSpace_on hk hc] at hm
          exact ih (k + 1) (by omega) (by omega) hm x (by omega) h4
      · rw [mSpace_off (fun _ => hc)] at hm
        rw [size_eq] at hk
        omega
  exact key _ v (Nat.le_refl _) hv he

set_option maxRecDepth 100000 in
set_option maxHeartbeats 1000000 in
theorem trailing_any (s : ByteArray) (hs : s.size ≤ 1000) (v : Nat) (h : LastN s.data.toList v) (he : mSpace s.data.toList v = s.size) (hv : v ≤ s.size) (w : World) :
    Calls Tryz.prog 8 #[.string s] w fun e w' => e = .returned (.string (s.extract v s.size)) ∧ Below w.heap.size w w' := by
  have HT := Lib.hid (trail_at h he hv)
  obtain ⟨hv1, c, hc, hcs⟩ := h
  have hv2 : v - 1 < s.size := by omega
  have hlast : ¬ isSp (s[v - 1]'hv2).toNat := by
    have := get_some hv2
    rw [this] at hc
    cases hc
    exact hcs
  have HL := Lib.hid hlast
  clear hc hcs he hlast
  go_enter Tryz.func8, Tryz.ntmps8
  go_wp2_with fail
  go_loopw [3] (fun t wr => Below w.heap.size w wr ∧ ∃ k : Nat, t = .int .i64 k ∧ v ≤ k ∧ k ≤ s.size) (fun t _ => (intOf t).toNat)
  case atStart => exact ⟨Below.refl _ _, s.size, rfl, hv, Nat.le_refl _⟩
  case round =>
    obtain ⟨hb, k, rfl, hk1, hk2⟩ := hrel
    have HB := Lib.hid hb
    clear hb
    have hk0 : (0 : Int) < (k : Int) := by omega
    have hkm : k - 1 < s.size := by omega
    have e1 : (k : Int) - 1 = ((k - 1 : Nat) : Int) := by omega
    by_cases hkv : k = v
    · subst hkv
      have HC := Lib.hid (show ∀ W, Calls Tryz.prog 16 #[.int .u8 (((s[k - 1]'hkm).toNat : Nat) : Int)] W fun e w' => e = .returned (.bool false) ∧ w' = W from fun W => (specSpace_any _ W).mono fun e w' q => ⟨by rw [q.2, decide_eq_false HL.out], q.1⟩)
      clear e1
      go_wp2_with fail
      refine (HC.out _).mono ?_
      rintro e w1 ⟨rfl, rfl⟩
      have v0 : (0 : Int) ≤ (k : Int) := by omega
      have v1 : (k : Int) ≤ (s.size : Int) := by omega
      go_wp2_with fail
      go_ret
      exact ⟨rfl, HB.out⟩
    · have hsp : isSp (s[k - 1]'hkm).toNat := HT.out (k - 1) (by omega) hkm
      have HSP := Lib.hid hsp
      have HE := Lib.hid e1
      have HC := Lib.hid (show ∀ W, Calls Tryz.prog 16 #[.int .u8 (((s[k - 1]'hkm).toNat : Nat) : Int)] W fun e w' => e = .returned (.bool true) ∧ w' = W from fun W => (specSpace_any _ W).mono fun e w' q => ⟨by rw [q.2, decide_eq_true HSP.out], q.1⟩)
      clear hsp e1
      go_wp2_with fail
      refine (HC.out _).mono ?_
      rintro e w1 ⟨rfl, rfl⟩
      go_wp2_with fail
      exact ⟨⟨HB.out, k - 1, by rw [HE.out], by omega, by omega⟩, by simp only [intOf]; omega⟩

theorem results_mix {fn : Func} {p q : Tmp} {tz : TypeId} (h : fn.results = #[.tmp p, .cell q tz]) (tmps : Array Value) (P : Program) (w : World) :
    (results fn tmps).run P w = ((asAddr (tmps.getD q undef)).run P w).andThen fun b w₃ => ((loadVar tz b).run P w₃).andThen fun u w₄ => .ok (.tuple #[tmps.getD p undef, u]) w₄ := by
  simp only [results, h]
  simp [Sem.run_bind, Result.andThen]

theorem old_ret {tmps : Array Value} {Z : World} {r : Nat} {t u0 u1 u2 : Value} (hZ : Z.heap[r]? = some (.cells #[u0, u1, u2] 24 (0, 0)))
    (ht : tmps.getD 4 undef = t) (hq : tmps.getD 5 undef = .pointer (some ⟨r, 0, none⟩)) :
    (results Tryz.f5 tmps).run Tryz.prog Z = .ok (.tuple #[t, .agg #[u0, u1, u2]]) Z := by
  rw [results_mix (p := 4) (q := 5) (tz := 24) rfl, ht, hq]
  simp only [asAddr, Sem.run_pure, Result.andThen_ok]
  rw [run_loadVar_row Z r 24 24 _ _ _ hZ Tryz.underlying24 rfl (by kernel_rfl)]
  rfl

/-- What the reference says of a text. -/
def OldRes (s p i : ByteArray) (e : Ending) : Prop :=
  ∃ (r : ByteArray) (f : Int) (q : Nat), e = .returned (.tuple #[.string r, .agg #[.int .i64 f, .int .i64 ((q : Nat) : Int), .bool false]]) ∧
    (f = 0 → fin gStart 0 s.data.toList = none ∧ ∃ v T, Val s 0 v T ∧ mSpace s.data.toList v = s.size ∧ r.data.toList = wr p.data.toList i.data.toList T 0) ∧
    (f ≠ 0 → fin gStart 0 s.data.toList ≠ none)

/-- The outcome is stored; nothing else below is. -/
theorem below_out {n : Nat} {w Z : World} {r : Nat} {u0 u1 u2 : Value} (h : Below n w Z) (hr : n ≤ r) : Below n w (((Z.setCell ⟨r, 0, none⟩ u0).setCell ⟨r, 1, none⟩ u1).setCell ⟨r, 2, none⟩ u2) :=
  ⟨by rw [sc_os, sc_os, sc_os]; exact h.os, by rw [sc_tape, sc_tape, sc_tape]; exact h.tape, by rw [sc_output, sc_output, sc_output]; exact h.output, by rw [sc_size, sc_size, sc_size]; exact h.size, fun k hk => (out_far _ r _ _ _ k (by omega)).trans (h.block k hk)⟩

set_option maxRecDepth 100000 in
set_option maxHeartbeats 2000000 in
theorem old_any (s p i : ByteArray) (hs : s.size ≤ 1000) (hp : p.size ≤ 16) (hi : i.size ≤ 16) (w : World) :
    Calls Tryz.prog 5 #[.string s, styl p i] w fun e w' => OldRes s p i e ∧ Below w.heap.size w w' := by
  obtain ⟨W0, hW0⟩ : ∃ W0, W0 = (w.alloc (.cells #[.bool false, .bool false, .bool false, .bool false, .bool true, .bool false, .bool false, .bool false, .bool true, .bool true, .bool false, .string i, .string p] 32)).alloc (.cells #[.int .i64 0, .int .i64 0, .bool false] 24) := ⟨_, rfl⟩
  have HSZ := Lib.hid (show W0.heap.size = w.heap.size + 2 by rw [hW0]; simp)
  have B0 := Lib.hid (show Below w.heap.size w W0 by rw [hW0]; exact ((Below.refl _ w).alloc (Nat.le_refl _) _).alloc (by simp only [World.alloc, Array.size_push]; omega) _)
  have Z1 := Lib.hid (show W0.heap[w.heap.size]? = some (.cells #[.bool false, .bool false, .bool false, .bool false, .bool true, .bool false, .bool false, .bool false, .bool true, .bool true, .bool false, .string i, .string p] 32 (0, 0)) by
    rw [hW0, Below.heap_alloc _ _ _ (by simp)]
    exact heap_alloc_new w _)
  have Z2 := Lib.hid (show W0.heap[w.heap.size + 1]? = some (.cells #[.int .i64 0, .int .i64 0, .bool false] 24 (0, 0)) by
    rw [hW0]
    have := heap_alloc_new (w.alloc (.cells #[.bool false, .bool false, .bool false, .bool false, .bool true, .bool false, .bool false, .bool false, .bool true, .bool true, .bool false, .string i, .string p] 32)) (.cells #[.int .i64 0, .int .i64 0, .bool false] 24)
    simpa using this)
  have HW0 := Lib.hid hW0
  have HS := Lib.hid hs
  clear hW0
  go_enter Tryz.func5, Tryz.ntmps5
  (try unfold styl)
  go_wp2_with fail
  (try rw [← HW0.out])
  refine (oldRules_any _).mono ?_
  rintro e w1 ⟨rfl, hb1⟩
  have B1 := Lib.hid hb1
  clear hb1
  go_wp2_with fail
  refine (parse_any s _ (by have := HS.out; omega)).mono ?_
  rintro e w2 ⟨f, q, kd, tx, nv, kv, rfl, hpa⟩
  have P := Lib.hid hpa
  have B2 := Lib.hid (below_step B1.out hpa.below)
  obtain ⟨a1, n1, e1, rfl⟩ := hpa.nl
  obtain ⟨a2, n2, e2, rfl⟩ := hpa.kl
  clear hpa
  obtain ⟨W3, hW3⟩ : ∃ W3, W3 = (w2.alloc (.cells #[.int .u8 ((kd : Nat) : Int), .string tx, .slice a1 n1 e1, .slice a2 n2 e2] 41)).alloc (.cells #[.int .i64 f, .int .i64 ((q : Nat) : Int), .bool false] 24) := ⟨_, rfl⟩
  have HW3 := Lib.hid hW3
  have hb0 : W3.heap[w2.heap.size]? = some (.cells #[.int .u8 ((kd : Nat) : Int), .string tx, .slice a1 n1 e1, .slice a2 n2 e2] 41 (0, 0)) := by
    rw [hW3, Below.heap_alloc _ _ _ (by simp)]
    exact heap_alloc_new w2 _
  have hb1 : W3.heap[w2.heap.size + 1]? = some (.cells #[.int .i64 f, .int .i64 ((q : Nat) : Int), .bool false] 24 (0, 0)) := by
    have h0 := heap_alloc_new (w2.alloc (.cells #[.int .u8 ((kd : Nat) : Int), .string tx, .slice a1 n1 e1, .slice a2 n2 e2] 41)) (.cells #[.int .i64 f, .int .i64 ((q : Nat) : Int), .bool false] 24)
    rw [show (w2.alloc (.cells #[.int .u8 ((kd : Nat) : Int), .string tx, .slice a1 n1 e1, .slice a2 n2 e2] 41)).heap.size = w2.heap.size + 1 by simp] at h0
    rw [hW3]
    exact h0
  have hsz : W3.heap.size = w2.heap.size + 1 + 1 := by rw [hW3]; simp
  have hsz2 : W0.heap.size ≤ w2.heap.size := B2.out.size
  have hsz0 := HSZ.out
  have B3 := Lib.hid (show Below W0.heap.size W0 W3 by rw [hW3]; exact (B2.out.alloc hsz2 _).alloc (by simp; omega) _)
  have HF3 := Lib.hid (show ∀ g, g < w2.heap.size → W3.heap[g]? = w2.heap[g]? from fun g hg => by rw [hW3, Below.heap_alloc _ _ _ (by simp; omega), Below.heap_alloc _ _ _ hg])
  have hst := (B3.out.block w.heap.size (by omega)).trans Z1.out
  have hou := (B3.out.block (w.heap.size + 1) (by omega)).trans Z2.out
  obtain ⟨rs, hrs⟩ : ∃ rs, rs = w.heap.size := ⟨_, rfl⟩
  obtain ⟨ru, hru⟩ : ∃ ru, ru = w.heap.size + 1 := ⟨_, rfl⟩
  obtain ⟨rn, hrn⟩ : ∃ rn, rn = w2.heap.size := ⟨_, rfl⟩
  obtain ⟨ro, hro⟩ : ∃ ro, ro = w2.heap.size + 1 := ⟨_, rfl⟩
  rw [← hrn] at hb0
  rw [← hro] at hb1
  rw [← hrs] at hst
  rw [← hru] at hou
  have HST := Lib.hid hst
  have HOU := Lib.hid hou
  have HB0 := Lib.hid hb0
  have HB1 := Lib.hid hb1
  have HRS := Lib.hid hrs
  have HRU := Lib.hid hru
  have HRN := Lib.hid hrn
  have HRO := Lib.hid hro
  have HSZ3 := Lib.hid hsz
  have HSZ2 := Lib.hid hsz2
  have hlo : ro < W3.heap.size := by omega
  clear hW3 hb0 hb1 hsz hsz2 hsz0 hst hou
  by_cases hf : f = 0
  · have H3 := HSZ3.out
    have H2 := HSZ2.out
    have H0 := HSZ.out
    have H4 := HRS.out
    have H5 := HRU.out
    have H6 := HRN.out
    have H7 := HRO.out
    have hnu : rn ≠ ru := by omega
    have hou : ro ≠ ru := by omega
    have hsu : rs ≠ ru := by omega
    have hlu : ru < W3.heap.size := by omega
    obtain ⟨hfin, v, T, hv, he, hrep⟩ := P.out.good hf
    have hrep3 : Rep W3 (fun g => W0.heap.size ≤ g ∧ g < w2.heap.size) T [.int .u8 ((kd : Nat) : Int), .string tx, .slice a1 n1 e1, .slice a2 n2 e2] := hrep.frame (fun g hg => HF3.out g hg.2) (fun g hg => ⟨Nat.le_trans B1.out.size hg.1, hg.2⟩)
    obtain ⟨hv0, hv1, hgd⟩ := val_good HS.out hv
    have hwl := wr_len HS.out hv he p.data.toList i.data.toList (by rw [size_eq]; exact hp) (by rw [size_eq]; exact hi)
    have WK := Lib.hid (show ∀ Z : World, (∀ g, g < w2.heap.size → Z.heap[g]? = W3.heap[g]?) → w2.heap.size ≤ Z.heap.size → Calls Tryz.prog 11 #[styl p i, .agg #[.int .u8 ((kd : Nat) : Int), .string tx, .slice a1 n1 e1, .slice a2 n2 e2], .int .i64 0] Z fun e w' => (∃ t : ByteArray, e = .returned (.string t) ∧ t.data.toList = wr p.data.toList i.data.toList T 0) ∧ Below Z.heap.size Z w' from
      fun Z hZ hZs => write_good p i hp hi hgd Z (fun g => W0.heap.size ≤ g ∧ g < w2.heap.size) _ _ _ _ 0 (hrep3.frame (fun g hg => hZ g hg.2) (fun _ q => q)) (fun g hg => by have := hg.2; omega) (by omega) hwl)
    have HRES := Lib.hid (show ∀ t : ByteArray, t.data.toList = wr p.data.toList i.data.toList T 0 → OldRes s p i (.returned (.tuple #[.string t, .agg #[.int .i64 f, .int .i64 ((q : Nat) : Int), .bool false]])) from fun t ht => ⟨t, f, q, rfl, fun _ => ⟨hfin, v, T, hv, he, ht⟩, fun e => absurd hf e⟩)
    have hf1 : (f != 0) = false := by simpa using hf
    have hf2 : (f == 0) = true := by simpa using hf
    clear hfin hv he hrep hrep3 hgd hwl H3 H2 H0 H4 H5 H6 H7 hf hv0 hv1
    go_wp2_with fail
    (try rw [← HW3.out])
    (try rw [← hro])
    (try rw [← hrn])
    (try rw [← hru])
    (try rw [← hrs])
    clear hrs hru hrn hro
    have m0 := cell_of_row W3 ro 0 _ _ _ HB1.out
    have m1 := cell_of_row W3 ro 1 _ _ _ HB1.out
    have m2 := cell_of_row W3 ro 2 _ _ _ HB1.out
    have k0 := cell_of_row W3 ru 0 _ _ _ HOU.out
    have k1 := cell_of_row W3 ru 1 _ _ _ HOU.out
    have k2 := cell_of_row W3 ru 2 _ _ _ HOU.out
    have k4 := frozen_of_row W3 ru 0 _ _ HOU.out
    have k5 := frozen_of_row W3 ru 1 _ _ HOU.out
    have k6 := frozen_of_row W3 ru 2 _ _ HOU.out
    have n0 := cell_of_row W3 rn 0 _ _ _ HB0.out
    have n1' := cell_of_row W3 rn 1 _ _ _ HB0.out
    have n2' := cell_of_row W3 rn 2 _ _ _ HB0.out
    have n3' := cell_of_row W3 rn 3 _ _ _ HB0.out
    have s0 := cell_of_row W3 rs 0 _ _ _ HST.out
    have s1 := cell_of_row W3 rs 1 _ _ _ HST.out
    have s2 := cell_of_row W3 rs 2 _ _ _ HST.out
    have s3 := cell_of_row W3 rs 3 _ _ _ HST.out
    have s4 := cell_of_row W3 rs 4 _ _ _ HST.out
    have s5 := cell_of_row W3 rs 5 _ _ _ HST.out
    have s6 := cell_of_row W3 rs 6 _ _ _ HST.out
    have s7 := cell_of_row W3 rs 7 _ _ _ HST.out
    have s8 := cell_of_row W3 rs 8 _ _ _ HST.out
    have s9 := cell_of_row W3 rs 9 _ _ _ HST.out
    have s10 := cell_of_row W3 rs 10 _ _ _ HST.out
    have s11 := cell_of_row W3 rs 11 _ _ _ HST.out
    have s12 := cell_of_row W3 rs 12 _ _ _ HST.out
    clear hs
    have FB := Lib.hid (show ∀ Z : World, Z.heap[rs]? = W3.heap[rs]? → Z.heap[rn]? = W3.heap[rn]? → Z.heap[ro]? = W3.heap[ro]? → Z.cell? ⟨rs, 0, none⟩ = some (.bool false) ∧ Z.cell? ⟨rs, 1, none⟩ = some (.bool false) ∧ Z.cell? ⟨rs, 2, none⟩ = some (.bool false) ∧ Z.cell? ⟨rs, 3, none⟩ = some (.bool false) ∧ Z.cell? ⟨rs, 4, none⟩ = some (.bool true) ∧ Z.cell? ⟨rs, 5, none⟩ = some (.bool false) ∧ Z.cell? ⟨rs, 6, none⟩ = some (.bool false) ∧ Z.cell? ⟨rs, 7, none⟩ = some (.bool false) ∧ Z.cell? ⟨rs, 8, none⟩ = some (.bool true) ∧ Z.cell? ⟨rs, 9, none⟩ = some (.bool true) ∧ Z.cell? ⟨rs, 10, none⟩ = some (.bool false) ∧ Z.cell? ⟨rs, 11, none⟩ = some (.string i) ∧ Z.cell? ⟨rs, 12, none⟩ = some (.string p) ∧ Z.cell? ⟨rn, 0, none⟩ = some (.int .u8 ((kd : Nat) : Int)) ∧ Z.cell? ⟨rn, 1, none⟩ = some (.string tx) ∧ Z.cell? ⟨rn, 2, none⟩ = some (.slice a1 n1 e1) ∧ Z.cell? ⟨rn, 3, none⟩ = some (.slice a2 n2 e2) ∧ Z.cell? ⟨ro, 0, none⟩ = some (.int .i64 f) ∧ Z.cell? ⟨ro, 1, none⟩ = some (.int .i64 ((q : Nat) : Int)) ∧ Z.cell? ⟨ro, 2, none⟩ = some (.bool false) from fun Z g1 g2 g3 => by
      have h1 := g1.trans HST.out
      have h2 := g2.trans HB0.out
      have h3 := g3.trans HB1.out
      exact ⟨cell_of_row Z rs 0 _ _ _ h1, cell_of_row Z rs 1 _ _ _ h1, cell_of_row Z rs 2 _ _ _ h1, cell_of_row Z rs 3 _ _ _ h1, cell_of_row Z rs 4 _ _ _ h1, cell_of_row Z rs 5 _ _ _ h1, cell_of_row Z rs 6 _ _ _ h1, cell_of_row Z rs 7 _ _ _ h1, cell_of_row Z rs 8 _ _ _ h1, cell_of_row Z rs 9 _ _ _ h1, cell_of_row Z rs 10 _ _ _ h1, cell_of_row Z rs 11 _ _ _ h1, cell_of_row Z rs 12 _ _ _ h1, cell_of_row Z rn 0 _ _ _ h2, cell_of_row Z rn 1 _ _ _ h2, cell_of_row Z rn 2 _ _ _ h2, cell_of_row Z rn 3 _ _ _ h2, cell_of_row Z ro 0 _ _ _ h3, cell_of_row Z ro 1 _ _ _ h3, cell_of_row Z ro 2 _ _ _ h3⟩)
    have hls : rs < W3.heap.size := by have := HSZ3.out; have := HRS.out; have := HSZ2.out; have := HSZ.out; omega
    have hln : rn < W3.heap.size := by have := HSZ3.out; have := HRN.out; omega
    have FA := Lib.hid (show ∀ Z : World, Below W3.heap.size W3 Z → Z.cell? ⟨rs, 0, none⟩ = some (.bool false) ∧ Z.cell? ⟨rs, 1, none⟩ = some (.bool false) ∧ Z.cell? ⟨rs, 2, none⟩ = some (.bool false) ∧ Z.cell? ⟨rs, 3, none⟩ = some (.bool false) ∧ Z.cell? ⟨rs, 4, none⟩ = some (.bool true) ∧ Z.cell? ⟨rs, 5, none⟩ = some (.bool false) ∧ Z.cell? ⟨rs, 6, none⟩ = some (.bool false) ∧ Z.cell? ⟨rs, 7, none⟩ = some (.bool false) ∧ Z.cell? ⟨rs, 8, none⟩ = some (.bool true) ∧ Z.cell? ⟨rs, 9, none⟩ = some (.bool true) ∧ Z.cell? ⟨rs, 10, none⟩ = some (.bool false) ∧ Z.cell? ⟨rs, 11, none⟩ = some (.string i) ∧ Z.cell? ⟨rs, 12, none⟩ = some (.string p) ∧ Z.cell? ⟨rn, 0, none⟩ = some (.int .u8 ((kd : Nat) : Int)) ∧ Z.cell? ⟨rn, 1, none⟩ = some (.string tx) ∧ Z.cell? ⟨rn, 2, none⟩ = some (.slice a1 n1 e1) ∧ Z.cell? ⟨rn, 3, none⟩ = some (.slice a2 n2 e2) ∧ Z.cell? ⟨ro, 0, none⟩ = some (.int .i64 f) ∧ Z.cell? ⟨ro, 1, none⟩ = some (.int .i64 ((q : Nat) : Int)) ∧ Z.cell? ⟨ro, 2, none⟩ = some (.bool false) from fun Z hZ => FB.out Z (hZ.block rs hls) (hZ.block rn hln) (hZ.block ro hlo))
    have FC := Lib.hid (show ∀ (Z : World) (u0 u1 u2 : Value), Below W3.heap.size W3 Z → (((Z.setCell ⟨ru, 0, none⟩ u0).setCell ⟨ru, 1, none⟩ u1).setCell ⟨ru, 2, none⟩ u2).cell? ⟨rs, 0, none⟩ = some (.bool false) ∧ (((Z.setCell ⟨ru, 0, none⟩ u0).setCell ⟨ru, 1, none⟩ u1).setCell ⟨ru, 2, none⟩ u2).cell? ⟨rs, 1, none⟩ = some (.bool false) ∧ (((Z.setCell ⟨ru, 0, none⟩ u0).setCell ⟨ru, 1, none⟩ u1).setCell ⟨ru, 2, none⟩ u2).cell? ⟨rs, 2, none⟩ = some (.bool false) ∧ (((Z.setCell ⟨ru, 0, none⟩ u0).setCell ⟨ru, 1, none⟩ u1).setCell ⟨ru, 2, none⟩ u2).cell? ⟨rs, 3, none⟩ = some (.bool false) ∧ (((Z.setCell ⟨ru, 0, none⟩ u0).setCell ⟨ru, 1, none⟩ u1).setCell ⟨ru, 2, none⟩ u2).cell? ⟨rs, 4, none⟩ = some (.bool true) ∧ (((Z.setCell ⟨ru, 0, none⟩ u0).setCell ⟨ru, 1, none⟩ u1).setCell ⟨ru, 2, none⟩ u2).cell? ⟨rs, 5, none⟩ = some (.bool false) ∧ (((Z.setCell ⟨ru, 0, none⟩ u0).setCell ⟨ru, 1, none⟩ u1).setCell ⟨ru, 2, none⟩ u2).cell? ⟨rs, 6, none⟩ = some (.bool false) ∧ (((Z.setCell ⟨ru, 0, none⟩ u0).setCell ⟨ru, 1, none⟩ u1).setCell ⟨ru, 2, none⟩ u2).cell? ⟨rs, 7, none⟩ = some (.bool false) ∧ (((Z.setCell ⟨ru, 0, none⟩ u0).setCell ⟨ru, 1, none⟩ u1).setCell ⟨ru, 2, none⟩ u2).cell? ⟨rs, 8, none⟩ = some (.bool true) ∧ (((Z.setCell ⟨ru, 0, none⟩ u0).setCell ⟨ru, 1, none⟩ u1).setCell ⟨ru, 2, none⟩ u2).cell? ⟨rs, 9, none⟩ = some (.bool true) ∧ (((Z.setCell ⟨ru, 0, none⟩ u0).setCell ⟨ru, 1, none⟩ u1).setCell ⟨ru, 2, none⟩ u2).cell? ⟨rs, 10, none⟩ = some (.bool false) ∧ (((Z.setCell ⟨ru, 0, none⟩ u0).setCell ⟨ru, 1, none⟩ u1).setCell ⟨ru, 2, none⟩ u2).cell? ⟨rs, 11, none⟩ = some (.string i) ∧ (((Z.setCell ⟨ru, 0, none⟩ u0).setCell ⟨ru, 1, none⟩ u1).setCell ⟨ru, 2, none⟩ u2).cell? ⟨rs, 12, none⟩ = some (.string p) ∧ (((Z.setCell ⟨ru, 0, none⟩ u0).setCell ⟨ru, 1, none⟩ u1).setCell ⟨ru, 2, none⟩ u2).cell? ⟨rn, 0, none⟩ = some (.int .u8 ((kd : Nat) : Int)) ∧ (((Z.setCell ⟨ru, 0, none⟩ u0).setCell ⟨ru, 1, none⟩ u1).setCell ⟨ru, 2, none⟩ u2).cell? ⟨rn, 1, none⟩ = some (.string tx) ∧ (((Z.setCell ⟨ru, 0, none⟩ u0).setCell ⟨ru, 1, none⟩ u1).setCell ⟨ru, 2, none⟩ u2).cell? ⟨rn, 2, none⟩ = some (.slice a1 n1 e1) ∧ (((Z.setCell ⟨ru, 0, none⟩ u0).setCell ⟨ru, 1, none⟩ u1).setCell ⟨ru, 2, none⟩ u2).cell? ⟨rn, 3, none⟩ = some (.slice a2 n2 e2) ∧ (((Z.setCell ⟨ru, 0, none⟩ u0).setCell ⟨ru, 1, none⟩ u1).setCell ⟨ru, 2, none⟩ u2).cell? ⟨ro, 0, none⟩ = some (.int .i64 f) ∧ (((Z.setCell ⟨ru, 0, none⟩ u0).setCell ⟨ru, 1, none⟩ u1).setCell ⟨ru, 2, none⟩ u2).cell? ⟨ro, 1, none⟩ = some (.int .i64 ((q : Nat) : Int)) ∧ (((Z.setCell ⟨ru, 0, none⟩ u0).setCell ⟨ru, 1, none⟩ u1).setCell ⟨ru, 2, none⟩ u2).cell? ⟨ro, 2, none⟩ = some (.bool false) from fun Z u0 u1 u2 hZ => FB.out _ ((out_far Z ru u0 u1 u2 rs hsu).trans (hZ.block rs hls)) ((out_far Z ru u0 u1 u2 rn hnu).trans (hZ.block rn hln)) ((out_far Z ru u0 u1 u2 ro hou).trans (hZ.block ro hlo)))
    have HBD := Lib.hid (show Below W3.heap.size W3 W3.drew from ⟨rfl, rfl, rfl, Nat.le_refl _, fun _ _ => rfl⟩)
    go_region_held3 (fun w' => w'.cell? ⟨rs, 0, none⟩ = some (.bool false) ∧ w'.cell? ⟨rs, 1, none⟩ = some (.bool false) ∧ w'.cell? ⟨rs, 2, none⟩ = some (.bool false) ∧ w'.cell? ⟨rs, 3, none⟩ = some (.bool false) ∧ w'.cell? ⟨rs, 4, none⟩ = some (.bool true) ∧ w'.cell? ⟨rs, 5, none⟩ = some (.bool false) ∧ w'.cell? ⟨rs, 6, none⟩ = some (.bool false) ∧ w'.cell? ⟨rs, 7, none⟩ = some (.bool false) ∧ w'.cell? ⟨rs, 8, none⟩ = some (.bool true) ∧ w'.cell? ⟨rs, 9, none⟩ = some (.bool true) ∧ w'.cell? ⟨rs, 10, none⟩ = some (.bool false) ∧ w'.cell? ⟨rs, 11, none⟩ = some (.string i) ∧ w'.cell? ⟨rs, 12, none⟩ = some (.string p) ∧ w'.cell? ⟨rn, 0, none⟩ = some (.int .u8 ((kd : Nat) : Int)) ∧ w'.cell? ⟨rn, 1, none⟩ = some (.string tx) ∧ w'.cell? ⟨rn, 2, none⟩ = some (.slice a1 n1 e1) ∧ w'.cell? ⟨rn, 3, none⟩ = some (.slice a2 n2 e2) ∧ w'.cell? ⟨ro, 0, none⟩ = some (.int .i64 f) ∧ w'.cell? ⟨ro, 1, none⟩ = some (.int .i64 ((q : Nat) : Int)) ∧ w'.cell? ⟨ro, 2, none⟩ = some (.bool false)) (first | exact FA.out _ HBD.out | exact FA.out _ HB4.out | exact FC.out _ _ _ _ HB4.out) (first
      | (go_at_call 11
         refine (WK.out W3.drew (fun g hg => rfl) (by show w2.heap.size ≤ W3.heap.size; have := HSZ3.out; omega)).mono ?_
         rintro e w4 ⟨⟨t, rfl, ht⟩, hb4⟩
         have HTT := Lib.hid ht
         have HB4 := Lib.hid (below_step HBD.out hb4)
         have hlo4 := hlo
         have r4 := (hb4.block ro hlo).trans HB1.out
         have r5 := (hb4.block ru hlu).trans HOU.out
         have HR5 := Lib.hid r5
         have m0 := cell_of_row w4 ro 0 _ _ _ r4
         have m1 := cell_of_row w4 ro 1 _ _ _ r4
         have m2 := cell_of_row w4 ro 2 _ _ _ r4
         have k0 := cell_of_row w4 ru 0 _ _ _ r5
         have k1 := cell_of_row w4 ru 1 _ _ _ r5
         have k2 := cell_of_row w4 ru 2 _ _ _ r5
         have k4 := frozen_of_row w4 ru 0 _ _ r5
         have k5 := frozen_of_row w4 ru 1 _ _ r5
         have k6 := frozen_of_row w4 ru 2 _ _ r5
         clear r4 r5 ht hb4))
    all_goals
      go_wp2_with fail
      (try simp only [Exit.inBlock, Exit.then])
      refine bodyPost_ret (old_ret (r := ru) (out_row _ ru _ _ _ _ _ _ _ HR5.out) rfl rfl) rfl ⟨HRES.out _ HTT.out, ?_⟩
      have BW := below_out (r := ru) (n := w.heap.size) (w := w) (Z := w4) (u0 := .int .i64 f) (u1 := .int .i64 ((q : Nat) : Int)) (u2 := .bool false) (B0.out.trans ((B3.out.trans (Below.mono ⟨HB4.out.os, HB4.out.tape, HB4.out.output, HB4.out.size, HB4.out.block⟩ B3.out.size)).mono (by have := HSZ.out; omega))) (by have := HRU.out; omega)
      exact ⟨BW.os, BW.tape, BW.output, BW.size, BW.block⟩
  · have hf1 : (f != 0) = true := by simpa using hf
    have hf2 : (f == 0) = false := by rw [beq_eq_false_iff_ne]; exact hf
    have HRES := Lib.hid (show OldRes s p i (.returned (.tuple #[.string ⟨#[]⟩, .agg #[.int .i64 f, .int .i64 ((q : Nat) : Int), .bool false]])) from ⟨_, f, q, rfl, fun e => absurd e hf, fun e => by rw [P.out.bad e]; simp⟩)
    clear hf
    go_wp2_with fail
    (try rw [← HW3.out])
    (try rw [← hro])
    (try rw [← hrn])
    (try rw [← hru])
    (try rw [← hrs])
    clear hrs hru hrn hro
    have m0 := cell_of_row W3 ro 0 _ _ _ HB1.out
    have m1 := cell_of_row W3 ro 1 _ _ _ HB1.out
    have m2 := cell_of_row W3 ro 2 _ _ _ HB1.out
    have k0 := cell_of_row W3 ru 0 _ _ _ HOU.out
    have k1 := cell_of_row W3 ru 1 _ _ _ HOU.out
    have k2 := cell_of_row W3 ru 2 _ _ _ HOU.out
    have k4 := frozen_of_row W3 ru 0 _ _ HOU.out
    have k5 := frozen_of_row W3 ru 1 _ _ HOU.out
    have k6 := frozen_of_row W3 ru 2 _ _ HOU.out
    go_region
    all_goals
      go_wp2_with fail
      (try simp only [Exit.inBlock, Exit.then])
      refine bodyPost_ret (old_ret (r := ru) (out_row _ ru _ _ _ _ _ _ _ HOU.out) rfl rfl) rfl ⟨HRES.out, ?_⟩
      have BW := below_out (r := ru) (n := w.heap.size) (w := w) (Z := W3) (u0 := .int .i64 f) (u1 := .int .i64 ((q : Nat) : Int)) (u2 := .bool false) (B0.out.trans (B3.out.mono (by have := HSZ.out; omega))) (by have := HRU.out; omega)
      exact ⟨BW.os, BW.tape, BW.output, BW.size, BW.block⟩

end Go.Proofs.YtlgmdcaoogiooaaGreatDoor.Sty
