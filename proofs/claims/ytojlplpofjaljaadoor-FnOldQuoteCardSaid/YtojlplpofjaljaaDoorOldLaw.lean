/- FnOldQuote: its walk. -/
import Derived.Test.YtojlplpofjaljaaDoorOldQ
import Derived.Test.YtojlplpofjaljaaDoorOldEq
import Derived.Test.YtojlplpofjaljaaDoorFits
namespace Go.Proofs.YtojlplpofjaljaaDoor
open Go.RowKit

set_option maxRecDepth 100000 in
theorem zzQuote_any (hs ss : Nat → Bool) (html : Bool) (v0 : Value) (l0 : List UInt8) (s : ByteArray) (w : World) (hown : Own w v0 l0) (hv0 : ∀ a, baseOf v0 = some a → 4 ≤ a.block) (hT : Tabs hs ss w) (hsz : s.size ≤ 2000) (hl0 : l0.length ≤ 1000) :
    Calls Tryd.prog 7 #[v0, .string s, .bool html] w (QuoRet w v0 l0 (fq (safeB hs ss html)) s.data.toList) := by
  have HO := Lib.hid hown
  have HV := Lib.hid hv0
  have HT := Lib.hid hT
  clear hown hv0 hT
  go_enter Tryd.func7, Tryd.ntmps7
  go_wp2_with fail
  refine (appendString_any hs ss html v0 l0 s w HO.out HV.out HT.out hsz hl0).mono ?_
  rintro e w1 ⟨q, v1, hq, hlen, rfl, happ⟩
  have HQ := Lib.hid hq
  have HA := Lib.hid happ
  have HLN := Lib.hid hlen
  clear hq happ hlen
  go_wp2_with fail
  go_ret
  exact ⟨q, _, HQ.out, HLN.out, rfl, HA.out⟩

set_option maxRecDepth 100000 in
set_option maxHeartbeats 1000000 in
theorem oldQuote_any (hs ss : Nat → Bool) (html : Bool) (p s : ByteArray) (w : World) (hT : Tabs hs ss w) (hp : p.size ≤ 1000) (hsz : s.size ≤ 2000) :
    Calls Tryd.prog 5 #[.string p, .string s, .bool html] w fun e w' => Below w.heap.size w w' ∧ ∃ q, Quoted (fq (safeB hs ss html)) s.data.toList q ∧ q.length ≤ 7 * s.data.toList.length ∧ e = .returned (.string ⟨(p.data.toList ++ [34] ++ q ++ [34]).toArray⟩) := by
  have HT := Lib.hid hT
  have h4 := hT.size
  clear hT
  go_enter Tryd.func5, Tryd.ntmps5
  go_wp2_with (refine wpList_conv u8q rfl (.tmp 7) 9 rfl string9q rfl (by unfold maxLen; omega) ?_; intro c1 w1 o1 b1 z1; have O1 := Lib.hid o1; have B1 := Lib.hid b1; clear o1 z1 b1)
  refine (zzQuote_any hs ss html _ p.data.toList s w1 O1.out (fun a ha => by cases ha; exact h4) (HT.out.below B1.out) hsz (by rw [size_eq]; exact hp)).mono ?_
  rintro e w2 ⟨q, v2, hq, hlen, rfl, happ⟩
  have HQ := Lib.hid hq
  have HA := Lib.hid happ
  have HLN := Lib.hid hlen
  clear hq happ hlen
  go_wp2_with (refine wpList_toString u8q rfl (.tmp 11) _ rfl string9q rfl HA.out.own ?_)
  go_ret
  exact ⟨B1.out.trans (HA.out.kept.below B1.out.size (fun a ha => by cases ha; exact Nat.le_refl _)), q, HQ.out, HLN.out, by simp⟩

end Go.Proofs.YtojlplpofjaljaaDoor
namespace Go.Proofs.YtojlplpofjaljaaDoor.OldQuote
open Go.RowKit Go.Proofs.YtojlplpofjaljaaDoor

theorem strs2' {w : World} {b : Nat} {x y : ByteArray} (h : w.cell? ⟨b, 0, none⟩ = some (.string x)) (k : w.cell? ⟨b, 1, none⟩ = some (.string y)) : Strs w b [x, y] := by
  intro j hj
  match j, hj with
  | 0, _ => exact h
  | 1, _ => exact k

set_option maxRecDepth 100000 in
set_option maxHeartbeats 4000000 in
theorem walk (hs ss : Nat → Bool) (a b : ByteArray) (html : Bool) (ha : a.size ≤ maxLen) (hb : b.size ≤ maxLen) (w : World) (hT : Tabs hs ss w) (hS : SafeTabs hs ss) :
    Calls Tryd.prog 3 #[.string a, .string b, .bool html] w fun e w' => e = .returned (.bool true) ∧ Below w.heap.size w w' := by
  unfold maxLen at ha hb
  have HT := Lib.hid hT
  have HS := Lib.hid hS
  clear hT hS
  by_cases h1 : 2147483647 < a.size
  · go_enter Tryd.func3, Tryd.ntmps3
    go_wp2
    go_ret
    exact ⟨rfl, Below.refl _ _⟩
  by_cases h2 : 2147483647 < b.size
  · go_enter Tryd.func3, Tryd.ntmps3
    go_wp2
    go_ret
    exact ⟨rfl, Below.refl _ _⟩
  go_enter Tryd.func3, Tryd.ntmps3
  cases h : fitsB [a, b]
  · have H := Lib.hid h
    clear h
    go_wp2_with fail
    refine (fits8_any [a, b] _ _ _ _ rfl (by simp) (strs2' (by simp) (by simp)) (sizes2 (by omega) (by omega))).mono ?_
    rintro e w1 ⟨rfl, rfl⟩
    rw [H.out]
    go_wp2_with fail
    go_ret
    exact ⟨rfl, (Below.refl _ _).alloc (Nat.le_refl _) _⟩
  have hz : a.size ≤ 1000 ∧ b.size ≤ 1000 := by simpa [fitsB] using h
  obtain ⟨za, zb⟩ := hz
  have H := Lib.hid h
  clear h
  go_wp2_with fail
  refine (fits8_any [a, b] _ _ _ _ rfl (by simp) (strs2' (by simp) (by simp)) (sizes2 (by omega) (by omega))).mono ?_
  rintro e w1 ⟨rfl, rfl⟩
  rw [H.out]
  have hB0 : Below w.heap.size w (w.alloc (Obj.cells #[Value.string a, Value.string b] 9)) := (Below.refl _ _).alloc (Nat.le_refl _) _
  have B0 := Lib.hid hB0
  clear hB0
  go_wp2_with fail
  refine (oldQuote_any hs ss html a b _ (HT.out.below B0.out) za (by omega)).mono ?_
  rintro e w2 ⟨b2, q, hq, hql, rfl⟩
  have B2 := Lib.hid b2
  have HQ := Lib.hid hq
  have hql' := hql
  rw [size_eq] at hql'
  clear b2 hq hql
  go_wp2_with fail
  refine (oldQuoted_any html b (by omega) _).mono ?_
  rintro e w3 ⟨b3, q', hq', hql2, rfl⟩
  have B3 := Lib.hid b3
  have hqq : q = q' := HQ.out.one (fun c hc => chunk_eq HS.out html c hc) _ hq'
  subst hqq
  obtain ⟨t, ht⟩ : ∃ t : ByteArray, t = ⟨(34 :: q ++ [34]).toArray⟩ := ⟨_, rfl⟩
  obtain ⟨u, hu⟩ : ∃ u : ByteArray, u = ⟨(a.data.toList ++ [34] ++ q ++ [34]).toArray⟩ := ⟨_, rfl⟩
  obtain ⟨z, hz⟩ : ∃ z : ByteArray, a ++ t = z := ⟨_, rfl⟩
  have htz : t.size ≤ 20000 := by rw [ht]; show (34 :: q ++ [34]).toArray.size ≤ _; simp; omega
  have huz : u = z := bytes_ext (by rw [hu, ← hz, data_append, ht]; simp)
  subst huz
  have heq : (a.data.toList ++ 34 :: (q ++ [34]) == u.toList) = true := by
    rw [beq_iff_eq, Lib.toList_data, hu]
    simp
  have hbig : ¬ 9223372036854775807 < a.size + t.size := by omega
  rw [← ht]
  clear b3 hq' ht hu
  go_wp2_with fail
  go_ret
  exact ⟨rfl, below_step (below_step B0.out B2.out) B3.out⟩

end Go.Proofs.YtojlplpofjaljaaDoor.OldQuote
