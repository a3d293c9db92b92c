/- One element more, on a row of one's own. -/
import Derived.Test.YtlgmdcaoogiooaaGreatDoorScanW
namespace Go.Proofs.YtlgmdcaoogiooaaGreatDoor
open Go.RowKit

/-- A literal row of one element. -/
theorem one_new (w : World) (v : Value) (t : TypeId) : ∀ j u, ([v] : List Value)[j]? = some u → (w.alloc (.cells #[v] t)).cell? ((⟨w.heap.size, 0, none⟩ : Addr).add j) = some u := by
  intro j u hu
  match j, hu with
  | 0, hu =>
    rw [Addr.add_lit, World.cell?_alloc_new]
    simpa using hu

/-- An element type of one cell and eight bytes. -/
structure El8 (P : Program) (t e : TypeId) (z : Value) : Prop where
  und : P.underlying t = some (.slice e)
  inf : (P.info? e).map (fun i => (i.zero, i.size, i.bytes)) = some (some z, 1, 8)
  one : z.cells.size = 1

theorem run_push {P : Program} {t e : TypeId} {z : Value} (E : El8 P t e z) (w : World) (B : Nat) (pv : Value) (n : Nat) (xs : List Value) (hown : w.ownsRow B e 1 pv n xs) (a : Addr) (x : Value) (c : Nat)
    (hx : ∀ j u, ([x] : List Value)[j]? = some u → w.cell? (a.add j) = some u) (hx1 : ∀ u ∈ ([x] : List Value), u.oneCell' = true) (hn : n < 1000000) (hB : B ≤ w.heap.size) (ty : TypeId) :
    ∃ q cap w', (Builtin.append_ #[t, t] ty #[pv, .slice (some a) 1 c]).run P w = .ok (.slice (some ⟨q, 0, none⟩) (n + 1) cap) w' ∧ w'.ownsRow B e 1 (.slice (some ⟨q, 0, none⟩) (n + 1) cap) (n + 1) (xs ++ [x]) ∧ w.grownBy w' pv.ownBlock ∧ PAt w pv (.slice (some ⟨q, 0, none⟩) (n + 1) cap) := by
  obtain ⟨i, hi, hz, hsz, hby⟩ := info_parts E.inf
  have hl : ([x] : List Value).length = 1 * i.size := by rw [hsz]; rfl
  obtain ⟨v', w', hrun, h1, h2, _⟩ := run_append_own (P := P) (w := w) B t ty e i z 1 8 E.und hi hz hsz hby E.one (by decide) pv n xs hown a 1 c [x] rfl hx hx1 (by unfold maxLen; omega) (by omega) hB
  rcases hown.2 with ⟨rfl, rfl⟩ | ⟨g, cap, cur, rfl, hg1, hg, hnc, hcm, hcs, htk⟩
  · have hr := run_append_nil (P := P) (w := w) t ty e i z E.und hi hz a 1 c [x] hl hx (by decide) (by decide) (by rw [hby]; decide)
    rw [hr] at hrun
    cases hrun
    exact ⟨_, _, _, hr, h1, h2, .inr (fun k hk => by simp [Value.ownBlock] at hk; omega)⟩
  · have hxs : xs.length = n := by rw [hown.1, Nat.mul_one]
    by_cases hroom : n + 1 ≤ cap
    · have hr := run_append_room (P := P) (w := w) t ty e i E.und hi g n cap cur hg a 1 c [x] hl hx hx1 hroom (by rw [hsz, hcs]; simp; omega)
      rw [hr] at hrun
      cases hrun
      exact ⟨_, _, _, hr, h1, h2, .inl rfl⟩
    · have hr := run_append_grow (P := P) (w := w) t ty e i z E.und hi hz ⟨g, 0, none⟩ n cap xs (by rw [hsz, Nat.mul_one, hxs]) (hown.cells (g := g) rfl) a 1 c [x] hl hx (by omega) (by omega) (growslice_fits (by omega) (by rw [hby]; omega))
      rw [hr] at hrun
      cases hrun
      exact ⟨_, _, _, hr, h1, h2, .inr (fun k hk => by simp [Value.ownBlock] at hk; omega)⟩

theorem wpList_push {P : Program} {t e : TypeId} {z : Value} (E : El8 P t e z) {w : World} {ops : Array Oper} {rest : List Oper} {o : Oper} {a : Act} {Q : Exit → Act → World → Prop} (hw : Region.wanted o (yielded ops a.tmps) = true) (s x : Operand)
    (ho : o.op = .call { callee := .builtin .append, args := #[s, x], argTypes := #[t, t] })
    (B : Nat) {pv : Value} (n : Nat) (xs : List Value) (hown : w.ownsRow B e 1 pv n xs) (hv : a.eval s = pv) (ad : Addr) (c : Nat) (v : Value) (hx : a.eval x = .slice (some ad) 1 c)
    (hc : ∀ j u, ([v] : List Value)[j]? = some u → w.cell? (ad.add j) = some u) (h1 : ∀ u ∈ ([v] : List Value), u.oneCell' = true) (hn : n < 1000000) (hB : B ≤ w.heap.size)
    (hK : ∀ q cap w', w'.ownsRow B e 1 (.slice (some ⟨q, 0, none⟩) (n + 1) cap) (n + 1) (xs ++ [v]) → w.grownBy w' pv.ownBlock → PAt w pv (.slice (some ⟨q, 0, none⟩) (n + 1) cap) → wpList P ops Q rest (a.put o.dst (.slice (some ⟨q, 0, none⟩) (n + 1) cap)) w') : wpList P ops Q (o :: rest) a w := by
  obtain ⟨q, cap, w', hrun, r1, r2, r3⟩ := run_push E w B pv n xs hown ad v c hc h1 hn hB o.type
  exact wpList_run hw (by simp [execOp, ho, resolve, invoke, builtin, hv, hx, hrun, Result.andThen]) (hK q cap w' r1 r2 r3)

end Go.Proofs.YtlgmdcaoogiooaaGreatDoor
