/- The reference's text of a tree that was read. -/
import Derived.Test.YtlgmdcaoogiooaaGreatDoorWrtO
namespace Go.Proofs.YtlgmdcaoogiooaaGreatDoor.Sty
open Go.RowKit Go.Proofs.YtlgmdcaoogiooaaGreatDoor Go.Proofs.YtlgmdcaoogiooaaGreatDoor.Ind

theorem write_good (p i : ByteArray) (hp : p.size ≤ 16) (hi : i.size ≤ 16) {h : Nat} {T : Tr} (g : GoodT h T) : WrOk p i h T := by
  induction g with
  | @mk h kind text names kids h1 h2 h3 h4 h5 _ ih =>
    by_cases e1 : kind = 123
    · subst e1
      exact wr_objs p i hp hi h text names kids h3 (h4 rfl) h5 ih
    by_cases e2 : kind = 91
    · subst e2
      exact wr_arrs p i hp hi h text names kids h3 ih
    · exact wr_leafs p i (h + 1) kind text names kids h1 ⟨e1, e2⟩

theorem GoodT.leaf {n kind : Nat} {text : ByteArray} (hn : 0 < n) (ht : text.size ≤ 1000) : GoodT n (.mk kind text [] []) := by
  obtain ⟨m, rfl⟩ : ∃ m, n = m + 1 := ⟨n - 1, by omega⟩
  exact .mk ht (by simp) (by simp) (fun _ => rfl) (fun _ h => by simp at h) (fun j T e => by simp at e)

theorem name_good {s : ByteArray} (hs : s.size ≤ 1000) {j c : Nat} {nm : ByteArray} (h : NameOk s j nm c) : NameSafe nm ∧ j < c ∧ c ≤ s.size := by
  obtain ⟨q, h1, h2, rfl, h3, rfl⟩ := h
  have hq := (List.getElem?_eq_some_iff.1 h2).1
  have hc := (List.getElem?_eq_some_iff.1 h3).1
  rw [size_eq] at hq hc
  have hge := mSpace_ge s.data.toList (q + 1)
  rcases h1 with ⟨_, h1⟩ | ⟨_, h1⟩
  · have key : ∀ m : List UInt8, (∀ x, j + 1 + x < q → m[x]? = s.data.toList[j + 1 + x]?) → m.length = q - (j + 1) → Wire.Safe m 0 ∧ j + 1 ≤ q := fun m hm hl => by
      obtain ⟨i1, _, i3⟩ := Wire.safe_run (a := j + 1) (p := q) hm hl h1 rfl (Nat.le_refl _)
      have := i1 0 (fun x hx => by omega)
      rw [Nat.add_zero, Nat.sub_self] at this
      exact ⟨this, i3⟩
    obtain ⟨nm, hnm⟩ : ∃ nm, s.extract j (q + 1) = nm := ⟨_, rfl⟩
    have hl : nm.data.toList = (s.data.toList.drop j).take (q + 1 - j) := by
      rw [← hnm, ByteArray.data_extract, Array.toList_extract, List.extract_eq_take_drop]
    have hz : nm.size = min (q + 1 - j) (s.size - j) := by rw [← size_eq, hl, List.length_take, List.length_drop, size_eq]
    rw [hnm]
    have hle : j + 1 ≤ q := by
      refine (key (((s.data.toList.drop (j + 1))).take (q - (j + 1))) (fun x hx => ?_) ?_).2
      · rw [List.getElem?_take, if_pos (by omega), List.getElem?_drop]
      · rw [List.length_take, List.length_drop, size_eq]; omega
    refine ⟨⟨by omega, by omega, (key _ (fun x hx => ?_) ?_).1⟩, by omega, by omega⟩
    · rw [List.getElem?_take, if_pos (by omega), List.getElem?_drop, hl, List.getElem?_take, if_pos (by omega), List.getElem?_drop]
      congr 1
      omega
    · rw [List.length_take, List.length_drop, size_eq]; omega
  · cases h1

mutual
theorem val_good {s : ByteArray} (hs : s.size ≤ 1000) {k q : Nat} {T : Tr} (h : Val s k q T) : k < q ∧ q ≤ s.size ∧ GoodT (q - k) T := by
  have hge := mSpace_ge s.data.toList k
  match h with
  | .leaf hl =>
    have a := goes_leaf (g := newCfg) rfl hl
    have a1 := a.1
    have a2 := a.2.1
    rw [size_eq] at a2
    refine ⟨by omega, a2, .leaf (by omega) ?_⟩
    rw [ByteArray.size_extract]
    omega
  | .obj0 h1 h2 h3 =>
    have hi := (List.getElem?_eq_some_iff.1 h3).1
    rw [size_eq] at hi
    have := mSpace_ge s.data.toList (mSpace s.data.toList k + 1)
    exact ⟨by omega, by omega, .leaf (by omega) (by decide)⟩
  | .obj h1 h2 h3 =>
    obtain ⟨g1, g2, g3, g4, g5, g6⟩ := mems_good hs h3
    have := mSpace_ge s.data.toList (mSpace s.data.toList k + 1)
    refine ⟨by omega, g2, ?_⟩
    obtain ⟨m, hm⟩ : ∃ m, q - k = m + 1 := ⟨q - k - 1, by omega⟩
    rw [hm]
    exact .mk (by decide) (by omega) (by omega) (fun _ => g3) g5 (fun j T e => (g6 j T e).up (by omega))
  | .arr0 h1 h2 h3 =>
    have hi := (List.getElem?_eq_some_iff.1 h3).1
    rw [size_eq] at hi
    have := mSpace_ge s.data.toList (mSpace s.data.toList k + 1)
    exact ⟨by omega, by omega, .leaf (by omega) (by decide)⟩
  | .arr h1 h2 h3 h4 =>
    obtain ⟨g1, g2, g3, g4⟩ := elems_good hs h4
    have := mSpace_ge s.data.toList (mSpace s.data.toList k + 1)
    refine ⟨by omega, g2, ?_⟩
    obtain ⟨m, hm⟩ : ∃ m, q - k = m + 1 := ⟨q - k - 1, by omega⟩
    rw [hm]
    exact .mk (by decide) (by simp) (by omega) (fun e => by cases e) (fun _ h => by simp at h) (fun j T e => (g4 j T e).up (by omega))
theorem mems_good {s : ByteArray} (hs : s.size ≤ 1000) {j q : Nat} {ns : List ByteArray} {ks : List Tr} (h : Mems s j q ns ks) : j < q ∧ q ≤ s.size ∧ ns.length = ks.length ∧ ks.length ≤ q - j ∧ (∀ nm ∈ ns, NameSafe nm) ∧ ∀ (x : Nat) (T : Tr), ks[x]? = some T → GoodT (q - j) T := by
  match h with
  | .last (v := v) hn hv he h125 =>
    obtain ⟨n1, n2, n3⟩ := name_good hs hn
    obtain ⟨v1, v2, v3⟩ := val_good hs hv
    have hi := (List.getElem?_eq_some_iff.1 h125).1
    rw [size_eq] at hi
    have := mSpace_ge s.data.toList v
    refine ⟨by omega, by omega, rfl, by simp; omega, fun nm hm => ?_, fun x T e => ?_⟩
    · simp at hm; rw [hm]; exact n1
    · cases x with
      | zero => cases e; exact v3.up (by omega)
      | succ x => simp at e
  | .more (v := v) (e := e0) hn hv he h44 hm =>
    obtain ⟨n1, n2, n3⟩ := name_good hs hn
    obtain ⟨v1, v2, v3⟩ := val_good hs hv
    obtain ⟨g1, g2, g3, g4, g5, g6⟩ := mems_good hs hm
    have := mSpace_ge s.data.toList v
    have := mSpace_ge s.data.toList (e0 + 1)
    refine ⟨by omega, g2, by rw [List.length_cons, List.length_cons, g3], by rw [List.length_cons]; omega, fun nm hm => ?_, fun x T e => ?_⟩
    · rcases List.mem_cons.1 hm with rfl | hm
      · exact n1
      · exact g5 nm hm
    · cases x with
      | zero => cases e; exact v3.up (by omega)
      | succ x => exact (g6 x T (by simpa using e)).up (by omega)
theorem elems_good {s : ByteArray} (hs : s.size ≤ 1000) {j q : Nat} {ks : List Tr} (h : Elems s j q ks) : j < q ∧ q ≤ s.size ∧ ks.length ≤ q - j ∧ ∀ (x : Nat) (T : Tr), ks[x]? = some T → GoodT (q - j) T := by
  match h with
  | .last (v := v) hv he h93 =>
    obtain ⟨v1, v2, v3⟩ := val_good hs hv
    have hi := (List.getElem?_eq_some_iff.1 h93).1
    rw [size_eq] at hi
    have := mSpace_ge s.data.toList v
    refine ⟨by omega, by omega, by simp; omega, fun x T e => ?_⟩
    cases x with
    | zero => cases e; exact v3.up (by omega)
    | succ x => simp at e
  | .more (v := v) hv he h44 hm =>
    obtain ⟨v1, v2, v3⟩ := val_good hs hv
    obtain ⟨g1, g2, g3, g4⟩ := elems_good hs hm
    have := mSpace_ge s.data.toList v
    refine ⟨by omega, g2, by rw [List.length_cons]; omega, fun x T e => ?_⟩
    cases x with
    | zero => cases e; exact v3.up (by omega)
    | succ x => exact (g4 x T (by simpa using e)).up (by omega)
end

end Go.Proofs.YtlgmdcaoogiooaaGreatDoor.Sty
