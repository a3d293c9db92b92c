/- What a call has made: its own row of bytes. -/
import Derived.Test.YtjjbgoknmofajaaDoorChar
namespace Go.Proofs.YtjjbgoknmofajaaDoor
open Go.RowKit

theorem u8m : U8 Tryd.prog 39 5 := ⟨by kernel_rfl, by kernel_rfl, by kernel_rfl⟩
theorem string9m : Tryd.prog.underlying 9 = some .string := by kernel_rfl

/-- What has been made since w. -/
structure MadeQ (w wr : World) (v : Value) (l : List UInt8) : Prop where
  own : Own wr v l
  below : Below w.heap.size w wr
  pos : ∀ a, baseOf v = some a → w.heap.size ≤ a.block

theorem MadeQ.step {w wr w1 : World} {v : Value} {l : List UInt8} (h : MadeQ w wr v l) (b : Below wr.heap.size wr w1) : MadeQ w w1 v l :=
  ⟨h.own.below b h.own.lt, below_step h.below b, h.pos⟩

theorem MadeQ.app {w wr w1 : World} {v v1 : Value} {l l' : List UInt8} (h : MadeQ w wr v l) (k : AppTo wr v w1 v1 l') : MadeQ w w1 v1 l' :=
  ⟨k.own, h.below.trans (k.kept.below h.below.size h.pos), fun a ha => by
    rcases k.pos with e | e
    · exact h.pos a (e ▸ ha)
    · exact Nat.le_trans h.below.size (e a ha)⟩

theorem src_strm {w : World} (s : ByteArray) (l : List UInt8) (hl : s.data.toList = l) : Src Tryd.prog 1 9 (.string s) l.length (l.map B) w := by
  subst hl
  have h := Src.ofString (P := Tryd.prog) (w := w) string9m s
  have e : byteCells s = s.data.toList.map B := by
    simp only [byteCells]
    rfl
  rw [e, ← size_eq] at h
  exact h

theorem extract_m (s : ByteArray) (i n : Nat) : (s.extract i (i + n)).data.toList = (s.data.toList.drop i).take n := by
  rw [ByteArray.data_extract, Array.toList_extract, List.extract_eq_take_drop, Nat.add_sub_cancel_left]

end Go.Proofs.YtjjbgoknmofajaaDoor
