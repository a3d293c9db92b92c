/- The reference's escapes and the text of a character, exactly. -/
import Derived.Test.YtjjbgoknmofajaaDoorPart
namespace Go.Proofs.YtjjbgoknmofajaaDoor.Exact
open Go.RowKit Go.Proofs.YtjjbgoknmofajaaDoor

def digits : List UInt8 := [48, 49, 50, 51, 52, 53, 54, 55, 56, 57, 97, 98, 99, 100, 101, 102]
/-- A digit of base 16. -/
def hx (n : Nat) : UInt8 := digits.getD n 48
/-- An escape of four digits. -/
def unit (c : Nat) : List UInt8 := [92, 117, hx (c / 4096), hx (c / 256 % 16), hx (c / 16 % 16), hx (c % 16)]

theorem hx_at : ∀ n : Fin 16, (⟨#[48, 49, 50, 51, 52, 53, 54, 55, 56, 57, 97, 98, 99, 100, 101, 102]⟩ : ByteArray)[n.val]'(n.isLt) = hx n.val := by decide +kernel

set_option maxRecDepth 100000 in
set_option maxHeartbeats 1000000 in
theorem digit_any (n : Nat) (hn : n < 16) (x : Int) (hx' : x = (n : Int)) (w : World) :
    Calls Tryd.prog 55 #[.int .i64 x] w fun e w' => w' = w ∧ e = .returned (.int .u8 (((hx n).toNat : Nat) : Int)) := by
  subst hx'
  have h0 : (0 : Int) ≤ (n : Int) := by omega
  have h1 : (n : Int) < 16 := by omega
  have hv := hx_at ⟨n, hn⟩
  simp only at hv
  have HV := Lib.hid hv
  clear hv
  go_enter Tryd.func55, Tryd.ntmps55
  go_wp2
  go_ret
  refine ⟨rfl, ?_⟩
  rw [← HV.out]
  rfl

/-- A text that is told. -/
structure Tells (w : World) (l : List UInt8) (e : Ending) (w' : World) : Prop where
  below : Below w.heap.size w w'
  what : e = .returned (.string ⟨l.toArray⟩)

set_option maxRecDepth 100000 in
set_option maxHeartbeats 1000000 in
theorem unitText_any (c : Nat) (hc : c < 65536) (x : Int) (hx' : x = (c : Int)) (w : World) :
    Calls Tryd.prog 41 #[.int .i64 x] w (Tells w (unit c)) := by
  subst hx'
  have a1 : bits .and .i64 ((c : Int) / 256) 15 = ((c / 256 % 16 : Nat) : Int) := and15 (c / 256) (by omega)
  have a2 : bits .and .i64 ((c : Int) / 16) 15 = ((c / 16 % 16 : Nat) : Int) := and15 (c / 16) (by omega)
  have a3 : bits .and .i64 (c : Int) 15 = ((c % 16 : Nat) : Int) := and15 c hc
  have A1 := Lib.hid a1
  have A2 := Lib.hid a2
  have A3 := Lib.hid a3
  clear a1 a2 a3
  go_enter Tryd.func41, Tryd.ntmps41
  go_wp2_with fail
  refine (digit_any (c / 4096) (by omega) _ (by omega) _).mono ?_
  rintro e w1 ⟨rfl, rfl⟩
  go_wp2_with fail
  refine (digit_any (c / 256 % 16) (by omega) _ A1.out _).mono ?_
  rintro e w2 ⟨rfl, rfl⟩
  go_wp2_with fail
  refine (digit_any (c / 16 % 16) (by omega) _ A2.out _).mono ?_
  rintro e w3 ⟨rfl, rfl⟩
  go_wp2_with fail
  refine (digit_any (c % 16) (by omega) _ A3.out _).mono ?_
  rintro e w4 ⟨rfl, rfl⟩
  have hB : Bytes (w4.alloc (.cells #[.int .u8 92, .int .u8 117, .int .u8 (((hx (c / 4096)).toNat : Nat) : Int), .int .u8 (((hx (c / 256 % 16)).toNat : Nat) : Int), .int .u8 (((hx (c / 16 % 16)).toNat : Nat) : Int), .int .u8 (((hx (c % 16)).toNat : Nat) : Int)] 5)) w4.heap.size 0 (unit c) := by
    intro j hj
    rw [Nat.zero_add]
    refine (World.cell?_alloc_new w4 _ _ j).trans ?_
    match j, hj with
    | 0, _ => rfl
    | 1, _ => rfl
    | 2, _ => rfl
    | 3, _ => rfl
    | 4, _ => rfl
    | 5, _ => rfl
  have HB := Lib.hid hB
  clear hB
  go_wp2_with (refine wpList_toStr (P := Tryd.prog) (t := 39) (e := 5) ⟨by kernel_rfl, by kernel_rfl, by kernel_rfl⟩ rfl (.tmp 17) 9 rfl (by kernel_rfl) rfl ⟨(unit c).toArray⟩ rfl HB.out ?_)
  go_ret
  exact ⟨(Below.refl _ _).alloc (Nat.le_refl _) _, rfl⟩

/-- What stands for a marked character; nothing for another. -/
def mk (html js : Bool) (p : List UInt8) : List UInt8 :=
  if html = true ∧ (p = [60] ∨ p = [62] ∨ p = [38]) then unit (p.headD 0).toNat
  else if js = true ∧ p = [226, 128, 168] then unit 8232
  else if js = true ∧ p = [226, 128, 169] then unit 8233
  else []

/-- What stands for a character. -/
def qp (html js : Bool) (p : List UInt8) : List UInt8 :=
  if mk html js p ≠ [] then mk html js p
  else if p.headD 0 = 34 ∨ p.headD 0 = 92 then 92 :: p
  else if p.headD 0 = 8 then [92, 98]
  else if p.headD 0 = 12 then [92, 102]
  else if p.headD 0 = 10 then [92, 110]
  else if p.headD 0 = 13 then [92, 114]
  else if p.headD 0 = 9 then [92, 116]
  else if (p.headD 0).toNat < 32 then unit (p.headD 0).toNat
  else p

theorem w64_u8 (x : UInt8) : wrap64 ((x.toNat : Nat) : Int) = ((x.toNat : Nat) : Int) := by
  have := x.toNat_lt
  unfold wrap64
  omega

theorem toArrU (s : ByteArray) : (⟨s.data.toList.toArray⟩ : ByteArray) = s := bytes_ext (by simp)

def marks (html js : Bool) : Value := .agg #[.bool html, .bool js]

set_option maxRecDepth 100000 in
set_option maxHeartbeats 2000000 in
theorem marked_one (js : Bool) (c : UInt8) (hc : c = 60 ∨ c = 62 ∨ c = 38) (w : World) :
    Calls Tryd.prog 40 #[.string ⟨#[c]⟩, marks true js] w (Tells w (mk true js [c])) := by
  have e : mk true js [c] = unit c.toNat := by unfold mk; rw [if_pos ⟨rfl, by simpa using hc⟩]; rfl
  rw [e]
  unfold marks
  rcases hc with rfl | rfl | rfl
  all_goals
    go_enter Tryd.func40, Tryd.ntmps40
    go_wp2_with fail
    refine (unitText_any _ (Nat.lt_trans (UInt8.toNat_lt _) (by decide)) _ (w64_u8 _) _).mono ?_
    rintro e w1 ⟨b1, rfl⟩
    have B1 := Lib.hid b1
    clear b1
    go_wp2_with fail
    go_ret
    exact ⟨below_step ((Below.refl _ _).alloc (Nat.le_refl _) _) B1.out, rfl⟩

set_option maxRecDepth 100000 in
set_option maxHeartbeats 2000000 in
theorem marked_sep (html : Bool) (c : UInt8) (hc : c = 168 ∨ c = 169) (w : World) :
    Calls Tryd.prog 40 #[.string ⟨#[226, 128, c]⟩, marks html true] w (Tells w (mk html true [226, 128, c])) := by
  unfold marks
  rcases hc with rfl | rfl
  · have e : mk html true [226, 128, 168] = unit 8232 := by unfold mk; rw [if_neg (by simp), if_pos ⟨rfl, rfl⟩]
    rw [e]
    cases html
    all_goals
      go_enter Tryd.func40, Tryd.ntmps40
      go_wp2_with fail
      refine (unitText_any 8232 (by decide) _ (by rfl) _).mono ?_
      rintro e w1 ⟨b1, rfl⟩
      have B1 := Lib.hid b1
      clear b1
      go_wp2_with fail
      go_ret
      exact ⟨below_step ((Below.refl _ _).alloc (Nat.le_refl _) _) B1.out, rfl⟩
  · have e : mk html true [226, 128, 169] = unit 8233 := by unfold mk; rw [if_neg (by simp), if_neg (by simp), if_pos ⟨rfl, rfl⟩]
    rw [e]
    cases html
    all_goals
      go_enter Tryd.func40, Tryd.ntmps40
      go_wp2_with fail
      refine (unitText_any 8233 (by decide) _ (by rfl) _).mono ?_
      rintro e w1 ⟨b1, rfl⟩
      have B1 := Lib.hid b1
      clear b1
      go_wp2_with fail
      go_ret
      exact ⟨below_step ((Below.refl _ _).alloc (Nat.le_refl _) _) B1.out, rfl⟩

set_option maxRecDepth 100000 in
set_option maxHeartbeats 2000000 in
theorem marked_none (html js : Bool) (p : ByteArray) (h : ¬ (html = true ∧ (p.data.toList = [60] ∨ p.data.toList = [62] ∨ p.data.toList = [38]))) (k1 : ¬ (js = true ∧ p.data.toList = [226, 128, 168])) (k2 : ¬ (js = true ∧ p.data.toList = [226, 128, 169])) (w : World) :
    Calls Tryd.prog 40 #[.string p, marks html js] w (Tells w []) := by
  have bt : ∀ l : List UInt8, p.data.toList ≠ l → (p.toList == l) = false := fun l hl => by rw [beq_eq_false_iff_ne, Lib.toList_data]; exact hl
  unfold marks
  cases html with
  | true =>
    have h1 := bt [60] (fun e => h ⟨rfl, .inl e⟩)
    have h2 := bt [62] (fun e => h ⟨rfl, .inr (.inl e)⟩)
    have h3 := bt [38] (fun e => h ⟨rfl, .inr (.inr e)⟩)
    cases js with
    | true =>
      have h4 := bt _ (fun e => k1 ⟨rfl, e⟩)
      have h5 := bt _ (fun e => k2 ⟨rfl, e⟩)
      clear bt h k1 k2
      go_enter Tryd.func40, Tryd.ntmps40
      go_wp2_with fail
      go_ret
      exact ⟨(Below.refl _ _).alloc (Nat.le_refl _) _, rfl⟩
    | false =>
      clear bt h k1 k2
      go_enter Tryd.func40, Tryd.ntmps40
      go_wp2_with fail
      go_ret
      exact ⟨(Below.refl _ _).alloc (Nat.le_refl _) _, rfl⟩
  | false =>
    cases js with
    | true =>
      have h4 := bt _ (fun e => k1 ⟨rfl, e⟩)
      have h5 := bt _ (fun e => k2 ⟨rfl, e⟩)
      clear bt h k1 k2
      go_enter Tryd.func40, Tryd.ntmps40
      go_wp2_with fail
      go_ret
      exact ⟨(Below.refl _ _).alloc (Nat.le_refl _) _, rfl⟩
    | false =>
      clear bt h k1 k2
      go_enter Tryd.func40, Tryd.ntmps40
      go_wp2_with fail
      go_ret
      exact ⟨(Below.refl _ _).alloc (Nat.le_refl _) _, rfl⟩

/-- 'marked', for each part. -/
theorem marked_any (html js : Bool) (p : ByteArray) (w : World) :
    Calls Tryd.prog 40 #[.string p, marks html js] w (Tells w (mk html js p.data.toList)) := by
  by_cases h : html = true ∧ (p.data.toList = [60] ∨ p.data.toList = [62] ∨ p.data.toList = [38])
  · obtain ⟨rfl, h⟩ := h
    rcases h with h | h | h
    · have e : p = ⟨#[60]⟩ := bytes_ext (by rw [h])
      subst e
      exact marked_one js 60 (.inl rfl) w
    · have e : p = ⟨#[62]⟩ := bytes_ext (by rw [h])
      subst e
      exact marked_one js 62 (.inr (.inl rfl)) w
    · have e : p = ⟨#[38]⟩ := bytes_ext (by rw [h])
      subst e
      exact marked_one js 38 (.inr (.inr rfl)) w
  · by_cases k1 : js = true ∧ p.data.toList = [226, 128, 168]
    · obtain ⟨rfl, k1⟩ := k1
      have e : p = ⟨#[226, 128, 168]⟩ := bytes_ext (by rw [k1])
      subst e
      exact marked_sep html 168 (.inl rfl) w
    · by_cases k2 : js = true ∧ p.data.toList = [226, 128, 169]
      · obtain ⟨rfl, k2⟩ := k2
        have e : p = ⟨#[226, 128, 169]⟩ := bytes_ext (by rw [k2])
        subst e
        exact marked_sep html 169 (.inr rfl) w
      · have e : mk html js p.data.toList = [] := by unfold mk; rw [if_neg h, if_neg k1, if_neg k2]
        rw [e]
        exact marked_none html js p h k1 k2 w

set_option maxRecDepth 100000 in
set_option maxHeartbeats 2000000 in
theorem part_marked (html js : Bool) (p : ByteArray) (hm : mk html js p.data.toList ≠ []) (hl : 0 < (mk html js p.data.toList).length) (w : World) :
    Calls Tryd.prog 27 #[.string p, marks html js] w (Tells w (qp html js p.data.toList)) := by
  have e : qp html js p.data.toList = mk html js p.data.toList := by unfold qp; rw [if_pos hm]
  rw [e]
  have hmk := marked_any html js p
  obtain ⟨t, ht⟩ : ∃ t : ByteArray, t = ⟨(mk html js p.data.toList).toArray⟩ := ⟨_, rfl⟩
  have htl : t.data.toList = mk html js p.data.toList := by rw [ht]
  have hne : (!t.toList.isEmpty) = true := by
    rw [nonempty (by rw [← size_eq, htl]; exact hl)]
    rfl
  have he : t.toList.isEmpty = false := nonempty (by rw [← size_eq, htl]; exact hl)
  have HM := Lib.hid hmk
  have HT := Lib.hid ht
  clear hm hl e hmk ht htl
  unfold marks at HM ⊢
  go_enter Tryd.func27, Tryd.ntmps27
  go_wp2_with fail
  refine (HM.out _).mono ?_
  rintro e w1 ⟨b1, rfl⟩
  rw [← HT.out]
  have B1 := Lib.hid b1
  clear b1
  go_wp2_with fail
  go_ret
  exact ⟨below_step ((Below.refl _ _).alloc (Nat.le_refl _) _) B1.out, by rw [← HT.out]; rfl⟩

set_option maxRecDepth 100000 in
set_option maxHeartbeats 4000000 in
theorem part_other (html js : Bool) (p : ByteArray) (hm : mk html js p.data.toList = []) (h0 : 0 < p.size) (hs : p.size ≤ 1000) (a : Nat) (ha : (p[0]'h0).toNat = a) (w : World) :
    Calls Tryd.prog 27 #[.string p, marks html js] w (Tells w (qp html js p.data.toList)) := by
  obtain ⟨c, t, hp⟩ : ∃ c t, p.data.toList = c :: t := by
    cases e : p.data.toList with
    | nil => rw [← size_eq, e] at h0; simp at h0
    | cons c t => exact ⟨c, t, rfl⟩
  have hca : c.toNat = a := by
    have : p.data.toList[0]'(by rw [hp]; simp) = c := by simp [hp]
    rw [← ha, ← this]
    rfl
  have hu : ∀ x : UInt8, c = x ↔ a = x.toNat := fun x => ⟨fun e => by rw [← hca, e], fun e => UInt8.toNat_inj.1 (hca.trans e)⟩
  have hqp : qp html js p.data.toList = (if a = 34 ∨ a = 92 then 92 :: p.data.toList else if a = 8 then [92, 98] else if a = 12 then [92, 102] else if a = 10 then [92, 110] else if a = 13 then [92, 114] else if a = 9 then [92, 116] else if a < 32 then unit a else p.data.toList) := by
    unfold qp
    rw [if_neg (by rw [hm]; simp)]
    rw [hp]
    simp only [List.headD_cons]
    have q34 : (c = 34) = (a = 34) := propext (hu 34)
    have q92 : (c = 92) = (a = 92) := propext (hu 92)
    have q8 : (c = 8) = (a = 8) := propext (hu 8)
    have q12 : (c = 12) = (a = 12) := propext (hu 12)
    have q10 : (c = 10) = (a = 10) := propext (hu 10)
    have q13 : (c = 13) = (a = 13) := propext (hu 13)
    have q9 : (c = 9) = (a = 9) := propext (hu 9)
    simp only [q34, q92, q8, q12, q10, q13, q9, hca]
  have hmk := marked_any html js p
  rw [hm] at hmk
  have HM := Lib.hid hmk
  have hz : p.data.toList = p.data.toList := rfl
  have hcat : (⟨(92 :: p.data.toList).toArray⟩ : ByteArray) = ⟨#[92]⟩ ++ p := bytes_ext (by rw [data_append]; rfl)
  have HC := Lib.hid hcat
  have hi : (0 : Int) < (p.size : Int) := by omega
  have hbig : ¬ 9223372036854775807 < 1 + p.size := by omega
  rw [hqp]
  clear hmk hm hp hca hu hqp hz hcat
  unfold marks at HM ⊢
  by_cases e34 : a = 34
  · subst e34
    rw [if_pos (.inl rfl)]
    go_enter Tryd.func27, Tryd.ntmps27
    go_wp2_with fail
    refine (HM.out _).mono ?_
    rintro e w1 ⟨b1, rfl⟩
    have B1 := Lib.hid b1
    clear b1
    go_wp2_with fail
    go_ret
    exact ⟨below_step ((Below.refl _ _).alloc (Nat.le_refl _) _) B1.out, by rw [HC.out]; rfl⟩
  have n34 : ((a : Int) == 34) = false := by rw [beq_eq_false_iff_ne]; omega
  by_cases e92 : a = 92
  · subst e92
    rw [if_pos (.inr rfl)]
    go_enter Tryd.func27, Tryd.ntmps27
    go_wp2_with fail
    refine (HM.out _).mono ?_
    rintro e w1 ⟨b1, rfl⟩
    have B1 := Lib.hid b1
    clear b1
    go_wp2_with fail
    go_ret
    exact ⟨below_step ((Below.refl _ _).alloc (Nat.le_refl _) _) B1.out, by rw [HC.out]; rfl⟩
  have n92 : ((a : Int) == 92) = false := by rw [beq_eq_false_iff_ne]; omega
  rw [if_neg (by omega)]
  by_cases e8 : a = 8
  · subst e8
    rw [if_pos rfl]
    go_enter Tryd.func27, Tryd.ntmps27
    go_wp2_with fail
    refine (HM.out _).mono ?_
    rintro e w1 ⟨b1, rfl⟩
    have B1 := Lib.hid b1
    clear b1
    go_wp2_with fail
    go_ret
    exact ⟨below_step ((Below.refl _ _).alloc (Nat.le_refl _) _) B1.out, rfl⟩
  have n8 : ((a : Int) == 8) = false := by rw [beq_eq_false_iff_ne]; omega
  rw [if_neg e8]
  by_cases e12 : a = 12
  · subst e12
    rw [if_pos rfl]
    go_enter Tryd.func27, Tryd.ntmps27
    go_wp2_with fail
    refine (HM.out _).mono ?_
    rintro e w1 ⟨b1, rfl⟩
    have B1 := Lib.hid b1
    clear b1
    go_wp2_with fail
    go_ret
    exact ⟨below_step ((Below.refl _ _).alloc (Nat.le_refl _) _) B1.out, rfl⟩
  have n12 : ((a : Int) == 12) = false := by rw [beq_eq_false_iff_ne]; omega
  rw [if_neg e12]
  by_cases e10 : a = 10
  · subst e10
    rw [if_pos rfl]
    go_enter Tryd.func27, Tryd.ntmps27
    go_wp2_with fail
    refine (HM.out _).mono ?_
    rintro e w1 ⟨b1, rfl⟩
    have B1 := Lib.hid b1
    clear b1
    go_wp2_with fail
    go_ret
    exact ⟨below_step ((Below.refl _ _).alloc (Nat.le_refl _) _) B1.out, rfl⟩
  have n10 : ((a : Int) == 10) = false := by rw [beq_eq_false_iff_ne]; omega
  rw [if_neg e10]
  by_cases e13 : a = 13
  · subst e13
    rw [if_pos rfl]
    go_enter Tryd.func27, Tryd.ntmps27
    go_wp2_with fail
    refine (HM.out _).mono ?_
    rintro e w1 ⟨b1, rfl⟩
    have B1 := Lib.hid b1
    clear b1
    go_wp2_with fail
    go_ret
    exact ⟨below_step ((Below.refl _ _).alloc (Nat.le_refl _) _) B1.out, rfl⟩
  have n13 : ((a : Int) == 13) = false := by rw [beq_eq_false_iff_ne]; omega
  rw [if_neg e13]
  by_cases e9 : a = 9
  · subst e9
    rw [if_pos rfl]
    go_enter Tryd.func27, Tryd.ntmps27
    go_wp2_with fail
    refine (HM.out _).mono ?_
    rintro e w1 ⟨b1, rfl⟩
    have B1 := Lib.hid b1
    clear b1
    go_wp2_with fail
    go_ret
    exact ⟨below_step ((Below.refl _ _).alloc (Nat.le_refl _) _) B1.out, rfl⟩
  have n9 : ((a : Int) == 9) = false := by rw [beq_eq_false_iff_ne]; omega
  rw [if_neg e9]
  by_cases e32 : a < 32
  · have a1 : (a : Int) < 32 := by omega
    rw [if_pos e32]
    go_enter Tryd.func27, Tryd.ntmps27
    go_wp2_with fail
    refine (HM.out _).mono ?_
    rintro e w1 ⟨b1, rfl⟩
    have B1 := Lib.hid b1
    clear b1
    go_wp2_with fail
    refine (unitText_any a (by omega) _ (by omega) _).mono ?_
    rintro e w2 ⟨b2, rfl⟩
    have B2 := Lib.hid b2
    clear b2
    go_wp2_with fail
    go_ret
    exact ⟨below_step (below_step ((Below.refl _ _).alloc (Nat.le_refl _) _) B1.out) B2.out, rfl⟩
  · have a1 : ¬ (a : Int) < 32 := by omega
    rw [if_neg e32]
    go_enter Tryd.func27, Tryd.ntmps27
    go_wp2_with fail
    refine (HM.out _).mono ?_
    rintro e w1 ⟨b1, rfl⟩
    have B1 := Lib.hid b1
    clear b1
    go_wp2_with fail
    go_ret
    exact ⟨below_step ((Below.refl _ _).alloc (Nat.le_refl _) _) B1.out, by rw [toArrU]; rfl⟩

/-- 'quotedPart', for each part that is not empty. -/
theorem part_any (html js : Bool) (p : ByteArray) (h0 : 0 < p.size) (hs : p.size ≤ 1000) (w : World) :
    Calls Tryd.prog 27 #[.string p, marks html js] w (Tells w (qp html js p.data.toList)) := by
  by_cases hm : mk html js p.data.toList = []
  · exact part_other html js p hm h0 hs _ rfl w
  · exact part_marked html js p hm (List.length_pos_iff.2 hm) w

end Go.Proofs.YtjjbgoknmofajaaDoor.Exact
