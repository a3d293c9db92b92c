/- A pointer's tokens, escaped again. FnPointerBuilt: its walk. -/
import Derived.Test.YtalkajcndllipaaTokLaw
import Derived.Test.YtalkajcndllipaaPtrLaw
namespace Go.Proofs.Ytalkajcndllipaa
open Go.RowKit

theorem cont_not {b : UInt8} (h : cont b) : b ≠ 47 ∧ b ≠ 126 := by
  unfold cont at h
  constructor <;> (intro e; subst e; exact absurd h.1 (by decide))

theorem Text.split {l : List UInt8} (h : Text l) : ∀ {p r : List UInt8}, l = p ++ r → Head r → Text p ∧ Text r := by
  induction h with
  | nil =>
    intro p r e hr
    obtain ⟨rfl, rfl⟩ := List.append_eq_nil_iff.1 e.symm
    exact ⟨.nil, .nil⟩
  | @cons l n hc ht ih =>
    intro p r e hr
    cases p with
    | nil =>
      simp at e
      subst e
      exact ⟨.nil, .cons hc ht⟩
    | cons a0 p0 =>
      have key : CharAt (a0 :: p0) n ∧ n ≤ (a0 :: p0).length := by
        have hne : ∀ b t, r = b :: t → cont b → False := fun b t e hb => by
          rcases hr with hr | ⟨u, hr⟩
          · rw [hr] at e; cases e
          · rw [hr] at e
            simp at e
            exact (cont_not hb).1 e.1.symm
        subst e
        rcases hc with ⟨rfl, a, t, e, h1⟩ | ⟨rfl, a, b, t, e, h1, h2, h3⟩ | ⟨rfl, a, b, c, t, e, h1⟩ | ⟨rfl, a, b, c, d, t, e, h1⟩
        · simp at e
          obtain ⟨rfl, rfl⟩ := e
          exact ⟨.inl ⟨rfl, a0, p0, rfl, h1⟩, by simp⟩
        · match p0, e with
          | [], e =>
            simp at e
            exact (hne b t e.2 h3).elim
          | b0 :: p1, e =>
            simp at e
            obtain ⟨rfl, rfl, e⟩ := e
            exact ⟨.inr (.inl ⟨rfl, a0, b0, p1, rfl, h1, h2, h3⟩), by simp⟩
        · match p0, e with
          | [], e =>
            simp at e
            exact (hne b _ e.2 (by simp_all)).elim
          | [b0], e =>
            simp at e
            exact (hne c _ e.2.2 (by simp_all)).elim
          | b0 :: c0 :: p1, e =>
            simp at e
            obtain ⟨rfl, rfl, rfl, e⟩ := e
            exact ⟨.inr (.inr (.inl ⟨rfl, a0, b0, c0, p1, rfl, h1⟩)), by simp⟩
        · match p0, e with
          | [], e =>
            simp at e
            exact (hne b _ e.2 (by simp_all)).elim
          | [b0], e =>
            simp at e
            exact (hne c _ e.2.2 (by simp_all)).elim
          | [b0, c0], e =>
            simp at e
            exact (hne d _ e.2.2.2 (by simp_all)).elim
          | b0 :: c0 :: d0 :: p1, e =>
            simp at e
            obtain ⟨rfl, rfl, rfl, rfl, e⟩ := e
            exact ⟨.inr (.inr (.inr ⟨rfl, a0, b0, c0, d0, p1, rfl, h1⟩)), by simp⟩
      obtain ⟨k1, k2⟩ := ih (p := (a0 :: p0).drop n) (r := r) (by rw [e, List.drop_append_of_le_length key.2]) hr
      exact ⟨.cons key.1 k1, k2⟩

theorem Text.ascii {c : UInt8} {t : List UInt8} (hc : c.toNat < 128) (h : Text t) : Text (c :: t) := .cons (.inl ⟨rfl, c, t, rfl, hc⟩) h

theorem Text.tail {c : UInt8} {t : List UInt8} (hc : c.toNat < 128) (h : Text (c :: t)) : Text t := by
  cases h with
  | cons hch ht =>
    rcases hch with ⟨rfl, _⟩ | ⟨rfl, a, b, u, e, h1, _⟩ | ⟨rfl, a, b, d, u, e, h1, _⟩ | ⟨rfl, a, b, d, f, u, e, h1, _⟩
    · exact ht
    · simp at e; rw [e.1] at hc; omega
    · simp at e; rw [e.1] at hc; omega
    · simp at e; rw [e.1] at hc; omega

theorem high_ne {a : UInt8} (h : 128 ≤ a.toNat) : a ≠ 126 := by
  intro e; subst e; exact absurd h (by decide)

theorem unesc_text : ∀ (n : Nat) (p : List UInt8), p.length ≤ n → TOk p → Text p → Text (unesc p)
  | _, [], _, _, _ => .nil
  | 0, c :: t, h, _, _ => by simp at h
  | n + 1, c :: t, hn, hok, ht => by
    by_cases hc : c.toNat < 128
    · cases hok with
      | esc d u hd hu =>
        have h1 := (ht.tail hc).tail (by rcases hd with rfl | rfl <;> decide)
        rw [unesc_esc]
        exact .ascii (by split <;> decide) (unesc_text n u (by simp at hn ⊢; omega) hu h1)
      | plain _ _ hne hu =>
        rw [unesc_plain hne]
        exact .ascii hc (unesc_text n t (by simp at hn ⊢; omega) hu (ht.tail hc))
    · have hne : c ≠ 126 := high_ne (by omega)
      have hok1 := hok.tail hne
      cases ht with
      | cons hch ht =>
        rcases hch with ⟨rfl, a, u, e, h1⟩ | ⟨rfl, a, b, u, e, h1, h2, h3⟩ | ⟨rfl, a, b, d, u, e, h1, h2, h3, h4, h5⟩ | ⟨rfl, a, b, d, f, u, e, h1, h2, h3, h4, h5, h6⟩
        · simp at e; rw [e.1] at hc; omega
        · simp at e
          obtain ⟨rfl, rfl⟩ := e
          have hok2 := hok1.tail (cont_not h3).2
          rw [unesc_plain hne, unesc_plain (cont_not h3).2]
          exact .cons (.inr (.inl ⟨rfl, c, b, _, rfl, h1, h2, h3⟩)) (unesc_text n u (by simp at hn ⊢; omega) hok2 ht)
        · simp at e
          obtain ⟨rfl, rfl⟩ := e
          have hok2 := hok1.tail (cont_not h3).2
          have hok3 := hok2.tail (cont_not h4).2
          rw [unesc_plain hne, unesc_plain (cont_not h3).2, unesc_plain (cont_not h4).2]
          exact .cons (.inr (.inr (.inl ⟨rfl, c, b, d, _, rfl, h1, h2, h3, h4, h5⟩))) (unesc_text n u (by simp at hn ⊢; omega) hok3 ht)
        · simp at e
          obtain ⟨rfl, rfl⟩ := e
          have hok2 := hok1.tail (cont_not h3).2
          have hok3 := hok2.tail (cont_not h4).2
          have hok4 := hok3.tail (cont_not h5).2
          rw [unesc_plain hne, unesc_plain (cont_not h3).2, unesc_plain (cont_not h4).2, unesc_plain (cont_not h5).2]
          exact .cons (.inr (.inr (.inr ⟨rfl, c, b, d, f, _, rfl, h1, h2, h3, h4, h5, h6⟩))) (unesc_text n u (by simp at hn ⊢; omega) hok4 ht)

theorem esc_unesc {p : List UInt8} (h : TOk p) (h47 : ∀ c ∈ p, c ≠ 47) : esc (unesc p) = p := by
  induction h with
  | nil => rfl
  | esc d t hd _ ih =>
    rw [unesc_esc]
    show escB _ ++ esc (unesc t) = _
    rw [ih (fun c hc => h47 c (by simp [hc]))]
    rcases hd with rfl | rfl <;> rfl
  | plain c t hc _ ih =>
    rw [unesc_plain hc]
    show escB c ++ esc (unesc t) = _
    rw [ih (fun c hc => h47 c (by simp [hc]))]
    unfold escB
    rw [if_neg hc, if_neg (h47 c (by simp))]
    rfl

/-- Tokens, put behind each other. -/
def joinP (ts : List (List UInt8)) : List UInt8 := ts.flatMap (fun t => 47 :: esc t)

theorem joinP_append (a b : List (List UInt8)) : joinP (a ++ b) = joinP a ++ joinP b := by simp [joinP]

theorem Toks.join {l : List UInt8} {ts : List (List UInt8)} (h : Toks l ts) : joinP ts = l := by
  induction h with
  | nil => rfl
  | cons p r ts h47 hok _ _ ih =>
    show (47 :: esc (unesc p)) ++ joinP ts = _
    rw [ih, esc_unesc hok h47]
    rfl

theorem Toks.texts {l : List UInt8} {ts : List (List UInt8)} (h : Toks l ts) (ht : Text l) : ∀ t ∈ ts, Text t := by
  induction h with
  | nil => simp
  | cons p r ts _ hok hh _ ih =>
    obtain ⟨h1, h2⟩ := (ht.tail (by decide)).split rfl hh
    intro t hm
    rcases List.mem_cons.1 hm with rfl | hm
    · exact unesc_text _ p (Nat.le_refl _) hok h1
    · exact ih h2 t hm

theorem join_len {ts : List (List UInt8)} (k : Nat) : (joinP (ts.take k)).length ≤ (joinP ts).length := by
  have := congrArg List.length (joinP_append (ts.take k) (ts.drop k))
  rw [List.take_append_drop, List.length_append] at this
  omega

theorem join_step {ts : List (List UInt8)} {k : Nat} (h : k < ts.length) : joinP (ts.take (k + 1)) = joinP (ts.take k) ++ 47 :: esc ts[k] := by
  rw [List.take_succ_eq_append_getElem h, joinP_append]
  simp [joinP]

end Go.Proofs.Ytalkajcndllipaa
namespace Go.Proofs.Ytalkajcndllipaa.PtrBuilt
open Go.RowKit Go.Proofs.Ytalkajcndllipaa

set_option maxRecDepth 100000 in
set_option maxHeartbeats 1000000 in
theorem walk (p : ByteArray) (hp : p.size ≤ maxLen) (w : World) :
    Calls Try.prog 6 #[.string p] w fun e w' => e = .returned (.bool true) ∧ Below w.heap.size w w' := by
  unfold maxLen at hp
  by_cases h1 : 2147483647 < p.size
  · go_enter Try.func6, Try.ntmps6
    go_wp2
    go_ret
    exact ⟨rfl, Below.refl _ _⟩
  go_enter Try.func6, Try.ntmps6
  go_wp2_with fail
  refine (pointers10_any p (by omega) _ _ _ (by simp)).mono ?_
  rintro e w1 ⟨rfl, b, rfl, hb⟩
  cases b with
  | false =>
    clear hb
    go_wp2_with fail
    go_ret
    exact ⟨rfl, (Below.refl _ _).alloc (Nat.le_refl _) _⟩
  | true =>
    have hp2 : p.size ≤ 4000 := by have := (hb rfl).2; rw [size_eq] at this; exact this
    obtain ⟨ts, hts⟩ := (hb rfl).1.toks
    have hlen := hts.len
    rw [size_eq] at hlen
    have htx := hts.texts (hb rfl).1.text
    have hsz := hts.sizes
    have hjn := hts.join
    have HT := Lib.hid hts
    have HTX := Lib.hid htx
    have HSZ := Lib.hid hsz
    have HJ := Lib.hid hjn
    clear hb hts htx hsz hjn
    go_wp2_with fail
    refine (implTokens_any p ts _ HT.out (by omega)).mono ?_
    rintro e w2 ⟨b2, g, c, rfl, t2, g2, l2⟩
    have b0 : Below w.heap.size w w2 := below_step ((Below.refl _ _).alloc (Nat.le_refl _) _) b2
    have B0 := Lib.hid b0
    have T2 := Lib.hid t2
    clear b2 t2 b0
    obtain ⟨n, hn⟩ : ∃ n, n = ts.length := ⟨_, rfl⟩
    rw [← hn]
    rw [← hn] at hlen
    have HN := Lib.hid hn
    clear hn
    go_wp2_with fail
    go_loopw [3, 16] (fun v t wr => ∃ k : Nat, t = .int .i64 k ∧ k ≤ n ∧ v = .string ⟨(joinP (ts.take k)).toArray⟩ ∧ Below w2.heap.size w2 wr) (fun _ t _ => n - (intOf t).toNat)
    case atStart => exact ⟨0, rfl, Nat.zero_le _, rfl, Below.refl _ _⟩
    case round =>
      obtain ⟨k, rfl, hk, rfl, hbr⟩ := hrel
      obtain ⟨s, hs⟩ : ∃ s : ByteArray, s = ⟨(joinP (ts.take k)).toArray⟩ := ⟨_, rfl⟩
      have hsl : s.data.toList = joinP (ts.take k) := by rw [hs]
      rw [← hs]
      by_cases hk2 : k < n
      · have hk0 : (0 : Int) ≤ (k : Int) := by omega
        have hk1 : (k : Int) < (n : Int) := by omega
        have hkt : k < ts.length := by rw [← HN.out]; exact hk2
        obtain ⟨t, ht⟩ : ∃ t : ByteArray, t = ⟨(ts[k]).toArray⟩ := ⟨_, rfl⟩
        have htl : t.data.toList = ts[k] := by rw [ht]
        have hc : wr.cell? ⟨g, k, none⟩ = some (.string t) := by rw [ht]; exact (T2.out.below hbr l2) k hkt
        have hs50 : s.size ≤ 50000 := by
          have := join_len (ts := ts) k
          rw [← hsl, HJ.out, size_eq, size_eq] at this
          omega
        have ht40 : t.size ≤ 4000 := by
          have := HSZ.out ts[k] (List.getElem_mem _)
          rw [← htl, size_eq, size_eq] at this
          omega
        have htt : Text t.data.toList := by rw [htl]; exact HTX.out _ (List.getElem_mem _)
        have HTT := Lib.hid htt
        have HSL := Lib.hid hsl
        have HTL := Lib.hid htl
        have HBR := Lib.hid hbr
        clear hs ht htt hsl htl hbr
        go_wp2_with fail
        refine (pointerAppend_any s t _ hs50 ht40 HTT.out).mono ?_
        rintro e w3 ⟨b3, rfl⟩
        have B3 := Lib.hid b3
        clear b3
        go_wp2_with fail
        refine ⟨⟨k + 1, by simp, by omega, ?_, below_step HBR.out B3.out⟩, by simp only [intOf]; omega⟩
        rw [join_step hkt, HSL.out, HTL.out]
      · obtain rfl : k = n := by omega
        have hsp : s = p := bytes_ext (by rw [hsl, List.take_of_length_le (by rw [← HN.out]; exact Nat.le_refl _), HJ.out])
        subst hsp
        have heq : (s.toList == s.toList) = true := by rw [beq_iff_eq]
        have HBR := Lib.hid hbr
        clear hs hsl hbr
        go_wp2_with fail
        go_ret
        exact ⟨rfl, below_step B0.out HBR.out⟩

end Go.Proofs.Ytalkajcndllipaa.PtrBuilt
