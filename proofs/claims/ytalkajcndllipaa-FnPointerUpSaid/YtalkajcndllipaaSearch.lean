/- A text within a text; what gives way to what; a token's text. -/
import Derived.Test.YtalkajcndllipaaTok
import Derived.Test.YtalkajcndllipaaRune
import Derived.Test.YtalkajcndllipaaPtrApp
namespace Go.Proofs.Ytalkajcndllipaa
open Go.RowKit

/-- m stands at i. -/
def SubAt (m l : List UInt8) (i : Nat) : Prop := (l.drop i).take m.length = m

structure Found (m l : List UInt8) (e : Ending) (w w' : World) : Prop where
  world : w = w'
  what : (∃ i : Nat, e = .returned (.int .i64 i) ∧ i + m.length ≤ l.length ∧ SubAt m l i ∧ ∀ j, j < i → ¬ SubAt m l j) ∨ (e = .returned (.int .i64 (-1)) ∧ ∀ j, j + m.length ≤ l.length → ¬ SubAt m l j)

theorem extract_toList (s : ByteArray) (i j : Nat) : (s.extract i j).data.toList = (s.data.toList.drop i).take (j - i) := by
  rw [ByteArray.data_extract, Array.toList_extract, List.extract_eq_take_drop]

set_option maxRecDepth 100000 in
set_option maxHeartbeats 1000000 in
theorem zzIndex_any (s m : ByteArray) (hs : s.size ≤ 100000) (hm : m.size ≤ 1000) (w : World) :
    Calls Try.prog 40 #[.string s, .string m] w fun e w' => Found m.data.toList s.data.toList e w w' := by
  go_enter Try.func40, Try.ntmps40
  go_wp2_with fail
  go_loopw [5] (fun t wr => ∃ k : Nat, t = .int .i64 k ∧ k ≤ s.size + 1 ∧ (∀ j, j < k → ¬ SubAt m.data.toList s.data.toList j) ∧ wr = w) (fun t _ => s.size + 1 - (intOf t).toNat)
  case atStart => exact ⟨0, rfl, Nat.zero_le _, fun j h => absurd h (Nat.not_lt_zero _), rfl⟩
  case round =>
    obtain ⟨k, rfl, hk, hno, rfl⟩ := hrel
    have HN := Lib.hid hno
    clear hno
    by_cases hk2 : k + m.size ≤ s.size
    · have hk0 : (0 : Int) ≤ (k : Int) := by omega
      have hk1 : (k : Int) + (m.size : Int) ≤ (s.size : Int) := by omega
      have hk5 : (0 : Int) ≤ (k : Int) + (m.size : Int) := by omega
      have hk6 : (k : Int) ≤ (k : Int) + (m.size : Int) := by omega
      have hsub : (SubAt m.data.toList s.data.toList k) ↔ (s.extract k (k + m.size)).toList = m.toList := by
        rw [Lib.toList_data, Lib.toList_data, extract_toList, Nat.add_sub_cancel_left]
        unfold SubAt
        rw [size_eq]
      by_cases hy : SubAt m.data.toList s.data.toList k
      · have hb : ((s.extract k (k + m.size)).toList == m.toList) = true := by rw [beq_iff_eq]; exact hsub.1 hy
        have HY := Lib.hid hy
        clear hy hsub
        go_wp2_with fail
        go_ret
        exact ⟨rfl, .inl ⟨k, rfl, by rw [size_eq, size_eq]; exact hk2, HY.out, HN.out⟩⟩
      · have hb : ((s.extract k (k + m.size)).toList == m.toList) = false := by rw [beq_eq_false_iff_ne]; exact fun h => hy (hsub.2 h)
        have HY := Lib.hid hy
        clear hy hsub
        go_wp2_with fail
        refine ⟨⟨k + 1, by simp, by omega, fun j hj => ?_, trivial⟩, by simp only [intOf]; omega⟩
        by_cases e : j = k
        · subst e; exact HY.out
        · exact HN.out j (by omega)
    · have hk1 : ¬ (k : Int) + (m.size : Int) ≤ (s.size : Int) := by omega
      go_wp2_with fail
      go_ret
      exact ⟨rfl, .inr ⟨rfl, fun j hj => HN.out j (by rw [size_eq, size_eq] at hj; omega)⟩⟩

def strLen : Value → Nat
  | .string s => s.size
  | _ => 0

theorem src_part {w : World} (s : ByteArray) (i j : Nat) : Src Try.prog 1 9 (.string (s.extract i j)) ((s.data.toList.drop i).take (j - i)).length (((s.data.toList.drop i).take (j - i)).map B) w :=
  src_str _ _ _ (extract_toList s i j) (by rw [← extract_toList, size_eq])

/-- Whether a tilde is there. -/
structure HasTilde (l : List UInt8) (e : Ending) (w w' : World) : Prop where
  world : w = w'
  what : ∃ b : Bool, e = .returned (.bool b) ∧ (b = false → ∀ c ∈ l, c ≠ 126)

theorem no_sub {l : List UInt8} (h : ∀ j, j + 1 ≤ l.length → ¬ SubAt [126] l j) : ∀ c ∈ l, c ≠ 126 := by
  intro c hc e
  subst e
  obtain ⟨i, hi, hx⟩ := List.mem_iff_getElem.1 hc
  refine h i (by omega) ?_
  unfold SubAt
  rw [List.drop_eq_getElem_cons hi, hx]
  rfl

set_option maxRecDepth 100000 in
theorem zzContains_any (s : ByteArray) (hs : s.size ≤ 100000) (w : World) :
    Calls Try.prog 33 #[.string s, .string ⟨#[126]⟩] w fun e w' => HasTilde s.data.toList e w w' := by
  go_enter Try.func33, Try.ntmps33
  go_wp2_with fail
  refine (zzIndex_any s ⟨#[126]⟩ hs (by decide) _).mono ?_
  rintro e w1 ⟨rfl, ⟨i, rfl, _⟩ | ⟨rfl, hn⟩⟩
  · have h0 : (0 : Int) ≤ (i : Int) := by omega
    go_wp2_with fail
    go_ret
    exact ⟨rfl, true, by simp, fun h => by cases h⟩
  · have HN := Lib.hid hn
    clear hn
    go_wp2_with fail
    go_ret
    exact ⟨rfl, false, rfl, fun _ => no_sub HN.out⟩

theorem sub_hit {b : UInt8} {l : List UInt8} {i : Nat} : SubAt [126, b] l i ↔ Hit b l i := by
  unfold SubAt Hit
  rw [← List.getElem?_drop (i := i) (j := 1)]
  have h0 : l[i]? = (l.drop i)[0]? := by rw [List.getElem?_drop]; rfl
  rw [h0]
  generalize l.drop i = t
  match t with
  | [] => simp
  | [x] => simp
  | x :: y :: t => simp

theorem hit_len {b : UInt8} {l : List UInt8} {i : Nat} (h : Hit b l i) : i + 2 ≤ l.length := by
  have := (List.getElem?_eq_some_iff.1 h.2).1
  omega

/-- What a call returns, a text. -/
structure StrR (w : World) (l : List UInt8) (e : Ending) (w' : World) : Prop where
  below : Below w.heap.size w w'
  what : e = .returned (.string ⟨l.toArray⟩)

/-- Between two rounds of the replacing. -/
structure ReplInv (w : World) (b c : UInt8) (l0 : List UInt8) (v : Value) (s : ByteArray) (out : List UInt8) (wr : World) : Prop where
  app : AppTo w (.slice none 0 0) wr v out
  all : out ++ repl b c s.data.toList = repl b c l0
  size : s.size ≤ 100000

theorem below_of_app {w wr : World} {v : Value} {out : List UInt8} (h : AppTo w (.slice none 0 0) wr v out) : Below w.heap.size w wr :=
  h.kept.below (Nat.le_refl _) (fun a ha => by simp [baseOf] at ha)

theorem repl_out_len {b c : UInt8} {l0 : List UInt8} {s : ByteArray} {out : List UInt8} (h : out ++ repl b c s.data.toList = repl b c l0) (hl : l0.length ≤ 100000) : out.length ≤ 100000 := by
  have h1 := congrArg List.length h
  have h2 := repl_len b c l0.length l0 (Nat.le_refl _)
  rw [List.length_append] at h1
  omega

theorem ReplInv.step {w : World} {b c : UInt8} {l0 : List UInt8} {v v2 : Value} {s : ByteArray} {out : List UInt8} {wr w2 : World} (h : ReplInv w b c l0 v s out wr) {i : Nat} (hi : Hit b s.data.toList i) (hno : ∀ j, j < i → ¬ Hit b s.data.toList j)
    (k : AppTo w (.slice none 0 0) w2 v2 (out ++ s.data.toList.take i ++ [c])) : ReplInv w b c l0 v2 (s.extract (i + 2) s.size) (out ++ s.data.toList.take i ++ [c]) w2 := by
  refine ⟨k, ?_, ?_⟩
  · rw [extract_list, ← h.all, repl_hit b c i _ hi hno]
    simp
  · have := h.size
    simp only [ByteArray.size_extract]
    omega

set_option maxRecDepth 100000 in
set_option maxHeartbeats 1000000 in
theorem zzReplaceAll_any (s : ByteArray) (b c : UInt8) (hs : s.size ≤ 100000) (w : World) :
    Calls Try.prog 34 #[.string s, .string ⟨#[126, b]⟩, .string ⟨#[c]⟩] w (StrR w (repl b c s.data.toList)) := by
  have hl0 : s.data.toList.length ≤ 100000 := by rw [size_eq]; exact hs
  have H0 := Lib.hid hl0
  obtain ⟨l0, hl⟩ : ∃ l0, l0 = s.data.toList := ⟨_, rfl⟩
  rw [← hl]
  rw [← hl] at H0
  have HL := Lib.hid hl
  clear hl hl0
  go_enter Try.func34, Try.ntmps34
  go_wp2_with fail
  go_loopw [0, 7] (fun ts tv wr => ∃ s' out, ts = .string s' ∧ ReplInv w b c l0 tv s' out wr) (fun ts _ _ => strLen ts)
  case atStart => exact ⟨s, [], rfl, AppTo.refl (.inl ⟨rfl, rfl⟩), by rw [HL.out]; rfl, hs⟩
  case round =>
    obtain ⟨s', out, rfl, hinv⟩ := hrel
    have HI := Lib.hid hinv
    have hs' := hinv.size
    clear hinv
    go_wp2_with fail
    refine (zzIndex_any s' ⟨#[126, b]⟩ hs' (by show 2 ≤ 1000; decide) _).mono ?_
    rintro e w1 ⟨rfl, ⟨i, rfl, hi1, hi2, hi3⟩ | ⟨rfl, hn⟩⟩
    · have hit := sub_hit.1 hi2
      have hno : ∀ j, j < i → ¬ Hit b s'.data.toList j := fun j hj h => hi3 j hj (sub_hit.2 h)
      have hle : i + 2 ≤ s'.size := by have := hit_len hit; rw [size_eq] at this; exact this
      have HH := Lib.hid hit
      have HNo := Lib.hid hno
      clear hi1 hi2 hi3 hit hno
      have h0 : ¬ (i : Int) < 0 := by omega
      have h1 : (0 : Int) ≤ (i : Int) := by omega
      have h2 : (i : Int) ≤ (s'.size : Int) := by omega
      have h3 : (0 : Int) ≤ (i : Int) + 2 := by omega
      have h4 : (i : Int) + 2 ≤ (s'.size : Int) := by omega
      have h5 : ((i : Int) + 2).toNat = i + 2 := by omega
      have hlen := repl_out_len HI.out.all H0.out
      go_wp2_with (first
        | (at_builtin
           refine wpList_app u8r rfl (.tmp 18) (.tmp 21) 9 rfl HI.out.app rfl (s'.data.toList.take i) rfl (src_part s' 0 i) (by rw [List.length_take, size_eq]; omega) ?_
           intro v1 w1 k1
           have K1 := Lib.hid k1
           clear k1)
        | (at_builtin
           refine wpList_app u8r rfl (.tmp 22) (.tmp 23) 9 rfl K1.out rfl [c] rfl (src_str _ _ _ rfl rfl) (by simp [List.length_take]; omega) ?_
           intro v2 w2 k2
           have K2 := Lib.hid k2
           clear k2))
      exact ⟨⟨_, _, rfl, HI.out.step HH.out HNo.out K2.out⟩, by simp only [strLen, ByteArray.size_extract]; omega⟩
    · have hno : ∀ j, ¬ Hit b s'.data.toList j := fun j h => hn j (by have := hit_len h; exact this) (sub_hit.2 h)
      have hx : out ++ s'.data.toList = repl b c l0 := by rw [← HI.out.all, repl_none _ _ _ hno]
      have HX := Lib.hid hx
      have hlen := repl_out_len HI.out.all H0.out
      clear hn hno hx
      go_wp2_with (first
        | (at_builtin
           refine wpList_app u8r rfl (.tmp 14) (.tmp 15) 9 rfl HI.out.app rfl s'.data.toList rfl (src_str _ _ _ rfl (size_eq _)) (by rw [size_eq]; omega) ?_
           intro v1 w1 k1
           have K1 := Lib.hid k1
           clear k1)
        | (refine wpList_toString u8r rfl (.tmp 16) _ rfl string9r rfl K1.out.own ?_))
      go_ret
      refine ⟨below_of_app K1.out, ?_⟩
      rw [← HX.out]
      rfl

end Go.Proofs.Ytalkajcndllipaa
