/- The reference's text of a tree: leaves, and what is asked of a tree. -/
import Derived.Test.YtlgmdcaoogiooaaGreatDoorStyC
namespace Go.Proofs.YtlgmdcaoogiooaaGreatDoor.Sty
open Go.RowKit Go.Proofs.YtlgmdcaoogiooaaGreatDoor Go.Proofs.YtlgmdcaoogiooaaGreatDoor.Ind

/-- A tree that can be written: its height, and names that 'Decode' takes. -/
inductive GoodT : Nat → Tr → Prop
  | mk {h kind : Nat} {text : ByteArray} {names : List ByteArray} {kids : List Tr} : text.size ≤ 1000 → names.length ≤ 1000 → kids.length ≤ 1000 → (kind = 123 → names.length = kids.length) → (∀ nm ∈ names, NameSafe nm) → (∀ (j : Nat) (T : Tr), kids[j]? = some T → GoodT h T) → GoodT (h + 1) (.mk kind text names kids)

theorem GoodT.up {h : Nat} {T : Tr} (g : GoodT h T) : ∀ {h' : Nat}, h ≤ h' → GoodT h' T := by
  induction g with
  | mk h1 h2 h3 h4 h5 _ ih =>
    intro h' hle
    obtain ⟨m, rfl⟩ : ∃ m, h' = m + 1 := ⟨h' - 1, by omega⟩
    exact .mk h1 h2 h3 h4 h5 (fun i T e => ih i T e (by omega))

/-- A tree is written as it should be. -/
def WrOk (p i : ByteArray) (h : Nat) (T : Tr) : Prop :=
  ∀ (w : World) (D : Nat → Prop) (c0 c1 c2 c3 : Value) (d : Nat), Rep w D T [c0, c1, c2, c3] → (∀ g, D g → g < w.heap.size) → d + h ≤ 1500 → (wr p.data.toList i.data.toList T (d : Int)).length ≤ 50000000 →
    Calls Tryz.prog 11 #[styl p i, .agg #[c0, c1, c2, c3], .int .i64 (d : Int)] w fun e w' => (∃ t : ByteArray, e = .returned (.string t) ∧ t.data.toList = wr p.data.toList i.data.toList T (d : Int)) ∧ Below w.heap.size w w'

theorem below3 {w w' : World} {a b c : Obj} (h : Below (((w.alloc a).alloc b).alloc c).heap.size (((w.alloc a).alloc b).alloc c) w') : Below w.heap.size w w' :=
  (((Below.refl _ w).alloc (Nat.le_refl _) a).alloc (by simp) b |>.alloc (by simp; omega) c).trans (h.mono (by simp; omega))

set_option maxRecDepth 100000 in
set_option maxHeartbeats 1000000 in
theorem wr_leafs (p i : ByteArray) (h kind : Nat) (text : ByteArray) (names : List ByteArray) (kids : List Tr) (ht : text.size ≤ 1000) (hk : kind ≠ 123 ∧ kind ≠ 91) : WrOk p i h (.mk kind text names kids) := by
  intro w D c0 c1 c2 c3 d hrep _ _ _
  rw [wr_leaf _ _ _ _ _ _ _ hk]
  cases hrep
  have n123 : ((kind : Int) == 123) = false := by rw [beq_eq_false_iff_ne]; omega
  have n91 : ((kind : Int) == 91) = false := by rw [beq_eq_false_iff_ne]; omega
  unfold styl
  by_cases h34 : kind = 34
  · subst h34
    go_enter Tryz.func11, Tryz.ntmps11
    go_wp2_with fail
    refine (stringText_any p i text (by omega) _).mono ?_
    rintro e w1 ⟨rfl, b1⟩
    have B1 := Lib.hid b1
    clear b1
    go_wp2_with fail
    go_ret
    exact ⟨⟨text, rfl, rfl⟩, below3 B1.out⟩
  have n34 : ((kind : Int) == 34) = false := by rw [beq_eq_false_iff_ne]; omega
  by_cases h48 : kind = 48
  · subst h48
    go_enter Tryz.func11, Tryz.ntmps11
    go_wp2_with fail
    refine (numberText_any p i text (by omega) _).mono ?_
    rintro e w1 ⟨rfl, b1⟩
    have B1 := Lib.hid b1
    clear b1
    go_wp2_with fail
    go_ret
    exact ⟨⟨text, rfl, rfl⟩, below3 B1.out⟩
  have n48 : ((kind : Int) == 48) = false := by rw [beq_eq_false_iff_ne]; omega
  go_enter Tryz.func11, Tryz.ntmps11
  go_wp2_with fail
  go_ret
  exact ⟨⟨text, rfl, rfl⟩, below3 (Below.refl _ _)⟩

/-- A kid's cells. -/
theorem kid_cells {w : World} {v : Value} {n : Nat} {cells : List Value} (h : w.ownsRow 0 41 4 v n cells) {D : Nat → Prop} {k : Nat} (hk : k < n) {T : Tr} (hr : Rep w D T ((cells.drop (k * 4)).take 4)) :
    ∃ g c v0 v1 v2 v3, v = .slice (some ⟨g, 0, none⟩) n c ∧ g < w.heap.size ∧ Rep w D T [v0, v1, v2, v3] ∧ w.cell? ⟨g, k * 4, none⟩ = some v0 ∧ w.cell? ⟨g, k * 4 + 1, none⟩ = some v1 ∧ w.cell? ⟨g, k * 4 + 2, none⟩ = some v2 ∧ w.cell? ⟨g, k * 4 + 3, none⟩ = some v3 := by
  rcases h.2 with ⟨rfl, h2⟩ | ⟨g, cap, cur, rfl, hb, hg, h1, h2, h3, h4⟩
  · omega
  · have hl : cells.length = n * 4 := h.1
    have hcell : ∀ j, j < 4 → w.cell? ⟨g, k * 4 + j, none⟩ = cells[k * 4 + j]? := fun j hj => by
      rw [cell_of_row w g _ _ _ _ hg, ← h4, List.getElem?_take, if_pos (by omega), Array.getElem?_toList]
    have hx : ∀ j, j < 4 → ((cells.drop (k * 4)).take 4)[j]? = cells[k * 4 + j]? := fun j hj => by
      rw [List.getElem?_take, if_pos hj, List.getElem?_drop]
    have hlen : ((cells.drop (k * 4)).take 4).length = 4 := hr.shape
    obtain ⟨L, hL⟩ : ∃ L, (cells.drop (k * 4)).take 4 = L := ⟨_, rfl⟩
    rw [hL] at hr hx hlen
    match L, hlen with
    | [v0, v1, v2, v3], _ =>
      refine ⟨g, cap, v0, v1, v2, v3, rfl, (Array.getElem?_eq_some_iff.1 hg).1, hr, ?_, ?_, ?_, ?_⟩
      · have := (hcell 0 (by decide)).trans (hx 0 (by decide)).symm; simpa using this
      · exact (hcell 1 (by decide)).trans (hx 1 (by decide)).symm
      · exact (hcell 2 (by decide)).trans (hx 2 (by decide)).symm
      · exact (hcell 3 (by decide)).trans (hx 3 (by decide)).symm

theorem rep_form {w : World} {D : Nat → Prop} {T : Tr} {v0 v1 v2 v3 : Value} (h : Rep w D T [v0, v1, v2, v3]) : ∃ (kd : Nat) (tx : ByteArray) (a1 : Option Addr) (n1 x1 : Nat) (a2 : Option Addr) (n2 x2 : Nat), v0 = .int .u8 (kd : Int) ∧ v1 = .string tx ∧ v2 = .slice a1 n1 x1 ∧ v3 = .slice a2 n2 x2 := by
  cases h with
  | mk h1 _ h3 _ _ =>
    obtain ⟨a1, x1, e1⟩ := ownsRow_slice h1
    obtain ⟨a2, x2, e2⟩ := ownsRow_slice h3
    exact ⟨_, _, a1, _, x1, a2, _, x2, rfl, rfl, e1, e2⟩

theorem wrK_len (p i : List UInt8) (d : Int) : ∀ kids : List Tr, (wrK p i kids d).length = kids.length
  | [] => rfl
  | T :: ts => by
    show (wr p i T d :: wrK p i ts d).length = _
    rw [List.length_cons, wrK_len p i d ts, List.length_cons]

theorem wrK_get (p i : List UInt8) (d : Int) : ∀ (kids : List Tr) (k : Nat), (wrK p i kids d)[k]? = kids[k]?.map (fun T => wr p i T d)
  | [], k => by simp [wrK]
  | T :: ts, 0 => rfl
  | T :: ts, k + 1 => by
    show (wrK p i ts d)[k]? = ts[k]?.map _
    exact wrK_get p i d ts k

theorem acc_part (p i : List UInt8) (d1 : Int) (L : List (List UInt8)) (k : Nat) (x : List UInt8) (h : L[k]? = some x) : x.length ≤ (acc p i d1 L).length := by
  obtain ⟨hk, he⟩ := List.getElem?_eq_some_iff.1 h
  refine Nat.le_trans ?_ (acc_mono p i d1 L _ (k + 1) (Nat.le_refl _))
  rw [take_snoc L k hk, acc_snoc, he]
  simp only [List.length_append]
  omega

theorem within_part (p i : List UInt8) (a b : UInt8) (d : Int) (L : List (List UInt8)) (k : Nat) (x : List UInt8) (h : L[k]? = some x) : x.length ≤ (within p i a b d L).length := by
  have hne : L ≠ [] := fun e => by rw [e] at h; cases h
  rw [within_acc _ _ _ _ _ _ hne, List.length_cons, List.length_append, List.length_append]
  have := acc_part p i (d + 1) L k x h
  omega

end Go.Proofs.YtlgmdcaoogiooaaGreatDoor.Sty
