/- 'utf8.DecodeRune' on any bytes: the laying of the library's walk at this seat (its numbers are this seat's), and what it says. -/
import Derived.Test.YtifemmjblamfkaaDoorValid
import Derived.Shelf.Spec.DecodeRune
namespace Go.Proofs
open Go.Shelf
def Tryd.laysNm732_ren : Go.Shelf.Ren := ⟨fun | 32 => 26 | 49 => 37 | n => n, fun | 30 => 45 | 21 => 21 | 3 => 3 | 0 => 0 | 5 => 5 | 4 => 4 | 33 => 58 | 66 => 78 | 25 => 39 | 69 => 81 | 68 => 80 | n => n, fun | 2 => 2 | 3 => 3 | n => n⟩
theorem Tryd.laysNm732 : Go.Proofs.Lays7.n32 Tryd.prog Tryd.laysNm732_ren := {
  mixed := by kernel_rfl
  f32 := Tryd.func26.trans (congrArg some (by kernel_rfl))
  f49 := Tryd.func37.trans (congrArg some (by kernel_rfl))
  t0 := Tryd.underlying0
  a0 := Tryd.isAgg0
  z0 := Tryd.sizeOf0
  v0 := Tryd.zeroValue0
  i0 := by kernel_rfl
  t3 := Tryd.underlying3
  a3 := Tryd.isAgg3
  z3 := Tryd.sizeOf3
  v3 := Tryd.zeroValue3
  i3 := by kernel_rfl
  t4 := Tryd.underlying4
  a4 := Tryd.isAgg4
  z4 := Tryd.sizeOf4
  v4 := Tryd.zeroValue4
  i4 := by kernel_rfl
  t5 := Tryd.underlying5
  a5 := Tryd.isAgg5
  z5 := Tryd.sizeOf5
  v5 := Tryd.zeroValue5
  i5 := by kernel_rfl
  t21 := Tryd.underlying21
  a21 := Tryd.isAgg21
  z21 := Tryd.sizeOf21
  v21 := Tryd.zeroValue21
  i21 := by kernel_rfl
  t25 := Tryd.underlying39
  a25 := Tryd.isAgg39
  z25 := Tryd.sizeOf39
  v25 := Tryd.zeroValue39
  i25 := by kernel_rfl
  t30 := Tryd.underlying45
  a30 := Tryd.isAgg45
  z30 := Tryd.sizeOf45
  v30 := Tryd.zeroValue45
  i30 := by kernel_rfl
  t33 := Tryd.underlying58
  a33 := Tryd.isAgg58
  z33 := Tryd.sizeOf58
  v33 := Tryd.zeroValue58
  i33 := by kernel_rfl
  t66 := Tryd.underlying78
  a66 := Tryd.isAgg78
  z66 := Tryd.sizeOf78
  t68 := Tryd.underlying80
  a68 := Tryd.isAgg80
  z68 := Tryd.sizeOf80
  v68 := Tryd.zeroValue80
  i68 := by kernel_rfl
  t69 := Tryd.underlying81
  a69 := Tryd.isAgg81
  z69 := Tryd.sizeOf81
  v69 := Tryd.zeroValue81
  i69 := by kernel_rfl
  g2 := by kernel_rfl
  g3 := by kernel_rfl }
end Go.Proofs
namespace Go.Proofs.YtifemmjblamfkaaDoor
open Go.RowKit

/-- What decoding says of the bytes. -/
structure Read (l : List UInt8) (r n : Nat) : Prop where
  char : r ≠ 65533 → CharAt l n
  back : ∀ m, CharAt l m → m = n ∧ Lib.encodeRune r = l.take m ∧ r = rv (l.take m)
  none : (∀ m, ¬ CharAt l m) → r = 65533 ∧ n = 1

theorem decRune_any (l : List UInt8) (hne : l ≠ []) (b off len cap : Nat) (w : World) (hlen : len = l.length) (hB : Bytes w b off l) (hT : Lib.Utf8Tabs 2 3 w) :
    Calls Tryd.prog 26 #[.slice (some ⟨b, off, none⟩) len cap] w fun e w' => Below w.heap.size w w' ∧ ∃ r n : Nat, e = .returned (.tuple #[.int .i32 (r : Int), .int .i64 (n : Int)]) ∧ Read l r n := by
  have hsz : (ByteArray.mk l.toArray).size = l.length := by simp [ByteArray.size]
  have h := Any7.utf8_DecodeRune Tryd.laysNm732 ⟨l.toArray⟩ b off cap w hT (fun j hj => by
    rw [hsz] at hj
    rw [hB.at j hj]
    have := (get_of (s := ⟨l.toArray⟩) (pos := 0) (i := j) (a := l[j]) (by simp [hj])).1
    rw [Nat.zero_add] at this
    rw [this])
  have h3 : Lib.decodeGo ⟨l.toArray⟩ = Utf8.decode ⟨l.toArray⟩ 0 := by
    have hn0 : ¬ (ByteArray.mk l.toArray).size = 0 := by rw [hsz]; have := List.length_pos_iff.2 hne; omega
    rw [Lib.decodeGo, if_neg hn0]
  rw [h3, hsz, ← hlen] at h
  refine h.mono ?_
  rintro e w' ⟨rfl, hb⟩
  refine ⟨hb, _, _, rfl, fun hr => decode_valid l hne _ _ rfl hr, fun m hm => ?_, fun hno => by rw [decode_none l hne hno]; exact ⟨rfl, rfl⟩⟩
  obtain ⟨r, h1, h2, _, _, _, _, h7⟩ := decode_char' ⟨l.toArray⟩ 0 m (by simpa using hm)
  rw [h1]
  exact ⟨rfl, by simpa using h2, by simpa using h7⟩

theorem Read.le {l : List UInt8} {r n : Nat} (h : Read l r n) (hne : l ≠ []) : 1 ≤ n ∧ n ≤ l.length := by
  by_cases e : ∃ m, CharAt l m
  · obtain ⟨m, hm⟩ := e
    rw [← (h.back m hm).1]
    exact hm.le
  · obtain ⟨_, h2⟩ := h.none (fun m hm => e ⟨m, hm⟩)
    have := List.length_pos_iff.2 hne
    omega

end Go.Proofs.YtifemmjblamfkaaDoor
