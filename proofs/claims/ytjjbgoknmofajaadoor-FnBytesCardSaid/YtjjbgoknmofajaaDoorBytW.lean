/- The thin package's quoting and unquoting of bytes. -/
import Derived.Test.YtjjbgoknmofajaaDoorOutW
namespace Go.Proofs.YtjjbgoknmofajaaDoor.Wire
open Go.RowKit Go.Proofs.YtjjbgoknmofajaaDoor

/-- 'append([]byte{}, b...)'. -/
theorem run_fresh {P : Program} {t e : TypeId} (U : U8 P t e) {w : World} {g : Nat} (hown : Own w (.slice (some ⟨g, 0, none⟩) 0 0) []) {tx : TypeId} {x : Value} {m : List UInt8}
    (hs : Src P 1 tx x m.length (m.map B) w) (ty : TypeId) (hb : m.length ≤ 1099511627776) :
    ∃ g' cap w', (Builtin.append_ #[t, tx] ty #[.slice (some ⟨g, 0, none⟩) 0 0, x]).run P w = .ok (.slice (some ⟨g', 0, none⟩) m.length cap) w' ∧ AppTo w (.slice (some ⟨g, 0, none⟩) 0 0) w' (.slice (some ⟨g', 0, none⟩) m.length cap) m := by
  obtain ⟨i, hi, hz, hsz, hby⟩ := info_parts U.inf
  have hs' : Src P i.size tx x m.length (m.map B) w := by rw [hsz]; exact hs
  obtain ⟨v', w', hrun, r1, r2, r3⟩ := run_app U hown hs ty (by simpa using hb)
  rw [List.nil_append] at r1
  by_cases hm : m.length = 0
  · have hr := run_append_nothing (P := P) w t tx ty e i U.und hi (some ⟨g, 0, none⟩) 0 0 (Nat.le_refl _) x (by have hs2 := hs'; obtain rfl := List.eq_nil_of_length_eq_zero hm; exact hs2)
    rw [hr] at hrun
    cases hrun
    exact ⟨g, 0, w, by rw [hm]; exact hr, by rw [hm]; exact r1, r2, by rw [hm]; exact r3⟩
  · have hr := run_append_grow_src (P := P) w t tx ty e i (.int .u8 0) U.und hi hz (some ⟨g, 0, none⟩) 0 0 [] (run_firstCells_some (P := P) w.drew i.size 0 ⟨g, 0, none⟩ 0 0 [] (by simp) (fun j u hu => by simp at hu)) x m.length (m.map B) hs' (by omega) (by omega) (growslice_fits (by omega) (by rw [hby]; omega))
    rw [hr] at hrun
    cases hrun
    simp only [Nat.zero_add] at hr r1 r2 r3
    exact ⟨_, _, _, hr, r1, r2, r3⟩

theorem wpList_fresh {P : Program} {t e : TypeId} (U : U8 P t e) {w : World} {ops : Array Oper} {rest : List Oper} {o : Oper} {a : Act} {Q : Exit → Act → World → Prop} (hw : Region.wanted o (yielded ops a.tmps) = true) (s x : Operand) (tx : TypeId)
    (ho : o.op = .call { callee := .builtin .append, args := #[s, x], argTypes := #[t, tx] })
    {g : Nat} (h : Own w (.slice (some ⟨g, 0, none⟩) 0 0) []) (hv : a.eval s = .slice (some ⟨g, 0, none⟩) 0 0) {xv : Value} (m : List UInt8) (hx : a.eval x = xv) (hs : Src P 1 tx xv m.length (m.map B) w)
    (hb : m.length ≤ 1099511627776)
    (hK : ∀ g' cap w', AppTo w (.slice (some ⟨g, 0, none⟩) 0 0) w' (.slice (some ⟨g', 0, none⟩) m.length cap) m → wpList P ops Q rest (a.put o.dst (.slice (some ⟨g', 0, none⟩) m.length cap)) w') : wpList P ops Q (o :: rest) a w := by
  obtain ⟨g', cap, w', hrun, r⟩ := run_fresh U h hs o.type hb
  exact wpList_run hw (by simp [execOp, ho, resolve, invoke, builtin, hv, hx, hrun, Result.andThen]) (hK g' cap w' r)

/-- What is made of bytes: new bytes and a yes or no. -/
structure QByt (w : World) (l0 l : List UInt8) (e : Ending) (w' : World) : Prop where
  below : Below w.heap.size w w'
  what : ∃ (q : List UInt8) (ok : Bool) (v : Value), Quoted f0 l q ∧ (ok = true ↔ Text l) ∧ Own w' v (l0 ++ 34 :: (q ++ [34])) ∧ e = .returned (.tuple #[v, .bool ok])

structure UByt (w : World) (l0 l : List UInt8) (e : Ending) (w' : World) : Prop where
  below : Below w.heap.size w w'
  what : ∃ (q : List UInt8) (ok : Bool) (v : Value), UnqAll l q ok ∧ Own w' v (l0 ++ q) ∧ e = .returned (.tuple #[v, .bool ok])

theorem own_empty (w : World) (t : TypeId) : Own (w.alloc (.cells #[] t)) (.slice (some ⟨w.heap.size, 0, none⟩) 0 0) [] := Own.lit w t #[] [] rfl (Nat.zero_le _) 0 0 rfl rfl

theorem base0 {g n cap : Nat} : ∀ a, baseOf (.slice (some ⟨g, 0, none⟩) n cap) = some a → a.block = g := fun a ea => by simp [baseOf] at ea; subst ea; rfl

/-- The block of a fresh row. -/
theorem fresh_block {w w' : World} {g g' n cap : Nat} {m : List UInt8} (h : AppTo w (.slice (some ⟨g, 0, none⟩) 0 0) w' (.slice (some ⟨g', 0, none⟩) n cap) m) (k : Nat) (hk : k ≤ g) (hw : k ≤ w.heap.size) : k ≤ g' := by
  rcases h.pos with e | e
  · simp [baseOf] at e; omega
  · have := e ⟨g', 0, none⟩ rfl; simp at this; omega

set_option maxRecDepth 100000 in
set_option maxHeartbeats 4000000 in
theorem implQuoteBytes_all (f : Nat → Nat) (u1 u2 : TypeId) (x1 x2 : Value) (pv sv : Value) (p s : List UInt8) (w : World) (hW : World5 f u1 u2 x1 x2 w) (hf : EscAll f) (hpo : Own w pv p) (hso : Own w sv s) (hp : p.length ≤ 90000) (hs : s.length ≤ 90000) :
    Calls Tryd.prog 22 #[pv, sv] w (QByt w p s) := by
  have HW := Lib.hid hW
  have HF := Lib.hid hf
  have HPO := Lib.hid hpo
  have HSO := Lib.hid hso
  have h5 := hW.w4.size
  clear hW hf hpo hso
  go_enter Tryd.func22, Tryd.ntmps22
  go_wp2_with (first
    | (at_builtin
       refine wpList_fresh u8q rfl (.tmp 9) (.tmp 10) 39 rfl (own_empty w _) (by rfl) p (by rfl) (by exact (HPO.out.alloc _).src u8q) (by omega) ?_
       intro g1 c1 w1 k1
       have K1 := Lib.hid k1
       clear k1)
    | (at_builtin
       refine wpList_fresh u8q rfl (.tmp 12) (.tmp 13) 39 rfl (own_empty w1 _) (by rfl) s (by rfl) (by exact ((HSO.out.alloc _).below (app_new K1.out (by simp) (fun a ha => Nat.le_of_eq (base0 a ha).symm)) (fun a ha => by have := HSO.out.lt a ha; exact this)).alloc _ |>.src u8q) (by omega) ?_
       intro g2 c2 w2 k2
       have K2 := Lib.hid k2
       clear k2))
  have hb1 : Below w.heap.size w w1 := ((Below.refl _ _).alloc (Nat.le_refl _) _).trans (app_new K1.out (by simp) (fun a ha => Nat.le_of_eq (base0 a ha).symm))
  have hb2' : Below w1.heap.size w1 w2 := ((Below.refl _ _).alloc (Nat.le_refl _) _).trans (app_new K2.out (by simp) (fun a ha => Nat.le_of_eq (base0 a ha).symm))
  have hb2 : Below w.heap.size w w2 := below_step hb1 hb2'
  have hg1 : w.heap.size ≤ g1 := fresh_block K1.out _ (Nat.le_refl _) (by simp)
  have hg2 : w1.heap.size ≤ g2 := fresh_block K2.out _ (Nat.le_refl _) (by simp)
  have hl1 : g1 < w1.heap.size := K1.out.own.lt _ rfl
  have hl2 : g2 < w2.heap.size := K2.out.own.lt _ rfl
  have hown1 : Own w2 (.slice (some ⟨g1, 0, none⟩) p.length c1) p := K1.out.own.below hb2' (fun a ha => by have := base0 a ha; omega)
  have hsl2 := K2.out.own.slice
  have hbx : ∀ a, baseOf (.slice (some ⟨g1, 0, none⟩) p.length c1) = some a → a.block = g1 := base0
  refine (appQ_bytes f u1 u2 x1 x2 _ p s g2 s.length c2 _ (HW.out.below hb2) HF.out hown1 (fun a ha => by have := hbx a ha; omega) rfl hl2 (fun a ha => by have := hbx a ha; omega) hsl2.2.2.2.2 hsl2.2.1 (by omega) (by omega)).mono ?_
  rintro e w3 ⟨q, ok, v3, x, h1, h2, k3, h4, hx, rfl⟩
  have hb3 : Below w.heap.size w w3 := hb2.trans (app_new k3 (by have := hb2.size; exact this) (fun a ea => by have := hbx a ea; omega))
  have HB := Lib.hid hb3
  have H1 := Lib.hid h1
  have H4 := Lib.hid h4
  have HO := Lib.hid k3.own
  clear k3 hb1 hb2 hb2' hb3 h1 h2 h4 hbx hown1 hsl2
  cases ok with
  | true =>
    obtain rfl := hx.1 rfl
    clear hx
    go_wp2_with fail
    go_region
    all_goals go_wp2_with fail
    all_goals go_ret2
    all_goals exact ⟨HB.out.drew, q, true, _, H1.out, by simpa using H4.out, HO.out.drew, rfl⟩
  | false =>
    obtain ⟨ue, xe, rfl⟩ := hx.2 rfl
    clear hx
    go_wp2_with fail
    go_region
    all_goals go_wp2_with fail
    all_goals go_ret2
    all_goals exact ⟨HB.out.drew, q, false, _, H1.out, by simpa using H4.out, HO.out.drew, rfl⟩

set_option maxRecDepth 100000 in
set_option maxHeartbeats 4000000 in
theorem implUnquoteBytes_all (u1 u2 : TypeId) (x1 x2 : Value) (pv sv : Value) (p s : List UInt8) (w : World) (hW : W4 u1 u2 x1 x2 w) (hpo : Own w pv p) (hso : Own w sv s) (hp : p.length ≤ 90000) (hs : s.length ≤ 90000) :
    Calls Tryd.prog 23 #[pv, sv] w (UByt w p s) := by
  have HW := Lib.hid hW
  have HPO := Lib.hid hpo
  have HSO := Lib.hid hso
  have h5 := hW.size
  clear hW hpo hso
  go_enter Tryd.func23, Tryd.ntmps23
  go_wp2_with (first
    | (at_builtin
       refine wpList_fresh u8q rfl (.tmp 9) (.tmp 10) 39 rfl (own_empty w _) (by rfl) p (by rfl) (by exact (HPO.out.alloc _).src u8q) (by omega) ?_
       intro g1 c1 w1 k1
       have K1 := Lib.hid k1
       clear k1)
    | (at_builtin
       refine wpList_fresh u8q rfl (.tmp 12) (.tmp 13) 39 rfl (own_empty w1 _) (by rfl) s (by rfl) (by exact ((HSO.out.alloc _).below (app_new K1.out (by simp) (fun a ha => Nat.le_of_eq (base0 a ha).symm)) (fun a ha => by have := HSO.out.lt a ha; exact this)).alloc _ |>.src u8q) (by omega) ?_
       intro g2 c2 w2 k2
       have K2 := Lib.hid k2
       clear k2))
  have hb1 : Below w.heap.size w w1 := ((Below.refl _ _).alloc (Nat.le_refl _) _).trans (app_new K1.out (by simp) (fun a ha => Nat.le_of_eq (base0 a ha).symm))
  have hb2' : Below w1.heap.size w1 w2 := ((Below.refl _ _).alloc (Nat.le_refl _) _).trans (app_new K2.out (by simp) (fun a ha => Nat.le_of_eq (base0 a ha).symm))
  have hb2 : Below w.heap.size w w2 := below_step hb1 hb2'
  have hg1 : w.heap.size ≤ g1 := fresh_block K1.out _ (Nat.le_refl _) (by simp)
  have hg2 : w1.heap.size ≤ g2 := fresh_block K2.out _ (Nat.le_refl _) (by simp)
  have hl1 : g1 < w1.heap.size := K1.out.own.lt _ rfl
  have hl2 : g2 < w2.heap.size := K2.out.own.lt _ rfl
  have hown1 : Own w2 (.slice (some ⟨g1, 0, none⟩) p.length c1) p := K1.out.own.below hb2' (fun a ha => by have := base0 a ha; omega)
  have hsl2 := K2.out.own.slice
  have hbx : ∀ a, baseOf (.slice (some ⟨g1, 0, none⟩) p.length c1) = some a → a.block = g1 := base0
  refine (appU_bytes u1 u2 x1 x2 _ p s g2 s.length c2 _ (HW.out.below hb2) hown1 (fun a ha => by have := hbx a ha; omega) rfl hl2 (fun a ha => by have := hbx a ha; omega) hsl2.2.2.2.2 hsl2.2.1 (by omega) (by omega)).mono ?_
  rintro e w3 ⟨q, ok, v3, x, h1, h2, k3, hx, rfl⟩
  have hb3 : Below w.heap.size w w3 := hb2.trans (app_new k3 (by have := hb2.size; exact this) (fun a ea => by have := hbx a ea; omega))
  have HB := Lib.hid hb3
  have H1 := Lib.hid h1
  have HO := Lib.hid k3.own
  clear k3 hb1 hb2 hb2' hb3 h1 h2 hbx hown1 hsl2
  cases ok with
  | true =>
    obtain rfl := hx.1 rfl
    clear hx
    go_wp2_with fail
    go_region
    all_goals go_wp2_with fail
    all_goals go_ret2
    all_goals exact ⟨HB.out.drew, q, true, _, H1.out, HO.out.drew, rfl⟩
  | false =>
    obtain ⟨ue, xe, rfl⟩ := hx.2 rfl
    clear hx
    go_wp2_with fail
    go_region
    all_goals go_wp2_with fail
    all_goals go_ret2
    all_goals exact ⟨HB.out.drew, q, false, _, H1.out, HO.out.drew, rfl⟩

end Go.Proofs.YtjjbgoknmofajaaDoor.Wire
