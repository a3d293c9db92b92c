/- The kind of a value's first byte: the reference's, and that of the package. -/
import Derived.Test.YtebiendmngmjcaaDoorPrs
import Derived.Test.YtebiendmngmjcaaDoorFits
namespace Go.Proofs.YtebiendmngmjcaaDoor
open Go.RowKit

/-- The kind that a first byte tells. -/
def normK (c : Nat) : Nat := if c = 110 ∨ c = 102 ∨ c = 116 ∨ c = 34 ∨ c = 123 ∨ c = 125 ∨ c = 91 ∨ c = 93 then c else if c = 45 ∨ (48 ≤ c ∧ c ≤ 57) then 48 else 0

def Tr.kind : Tr → Nat
  | .mk k _ _ _ => k

theorem mWord_first {l : List UInt8} {c : UInt8} {t : List UInt8} {k q : Nat} (h : mWord l (c :: t) k = (true, q)) : l[k]? = some c := by
  by_cases e : l[k]? = some c
  · exact e
  · have h2 : mWord l (c :: t) k = (false, k) := if_neg e
    rw [h2] at h
    cases h

theorem leaf_kind {l : List UInt8} {j q c : Nat} (h : Leaf l j q c) : ∃ d : UInt8, l[j]? = some d ∧ normK d.toNat = c := by
  cases h with
  | null h => exact ⟨_, mWord_first h, by decide⟩
  | yes h => exact ⟨_, mWord_first h, by decide⟩
  | no h => exact ⟨_, mWord_first h, by decide⟩
  | str h _ =>
    rcases h with ⟨h1, _⟩ | ⟨_, h2⟩
    · obtain ⟨d, hd, q1, q2⟩ := mNeed_pos h1
      have : d = 34 := UInt8.toNat_inj.1 (by show d.toNat = 34; omega)
      exact ⟨d, hd, by rw [this]; decide⟩
    · cases h2
  | num h _ =>
    have hlt : j < l.length := seeB_lt (by omega)
    have hg := List.getElem?_eq_getElem hlt
    rw [seeB_some hg] at h
    refine ⟨_, hg, ?_⟩
    unfold normK
    rw [if_neg (by omega), if_pos (by omega)]

theorem val_kind {s : ByteArray} {k q : Nat} {T : Tr} (h : Val s k q T) : ∃ d : UInt8, s.data.toList[mSpace s.data.toList k]? = some d ∧ normK d.toNat = T.kind := by
  cases h with
  | leaf h => exact leaf_kind h
  | obj0 h _ _ => exact ⟨_, h, show normK 123 = 123 by decide⟩
  | obj h _ _ => exact ⟨_, h, show normK 123 = 123 by decide⟩
  | arr0 h _ _ => exact ⟨_, h, show normK 91 = 91 by decide⟩
  | arr h _ _ _ => exact ⟨_, h, show normK 91 = 91 by decide⟩

theorem rep_kind {w : World} {D : Nat → Prop} {T : Tr} {kd : Nat} {v1 v2 v3 : Value} (h : Rep w D T [.int .u8 ((kd : Nat) : Int), v1, v2, v3]) : T.kind = kd := by
  generalize hx : [Value.int .u8 ((kd : Nat) : Int), v1, v2, v3] = L at h
  cases h with
  | mk _ _ _ _ _ =>
    simp only [List.cons.injEq, Value.int.injEq, true_and] at hx
    simp only [Tr.kind]
    omega

end Go.Proofs.YtebiendmngmjcaaDoor
