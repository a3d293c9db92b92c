/- The reference's 'Encoded', 'escaped', 'Decode'. -/
import Derived.Test.YtlgmdcaoogiooaaGreatDoorDecWk
namespace Go.Proofs.YtlgmdcaoogiooaaGreatDoor.Wire
open Go.RowKit Go.Proofs.YtlgmdcaoogiooaaGreatDoor

theorem and63 (y : Nat) (hy : y < 1000000000000) : bits .and .i64 (y : Int) 63 = ((y % 64 : Nat) : Int) := by
  have h : (BitVec.ofInt 64 (y : Int) &&& BitVec.ofInt 64 63).toNat = y % 64 := by
    rw [BitVec.toNat_and]
    have e1 : (BitVec.ofInt 64 (y : Int)).toNat = y := by simp; omega
    have e2 : (BitVec.ofInt 64 (63 : Int)).toNat = 63 := by decide
    rw [e1, e2]
    exact Nat.and_two_pow_sub_one_eq_mod y 6
  show IntKind.i64.wrap (((BitVec.ofInt 64 (y : Int) &&& BitVec.ofInt 64 63).toNat : Nat) : Int) = _
  rw [h, IntWalk.i64_in _ (by omega)]

theorem and63i (x : Int) (h0 : 0 ≤ x) (h1 : x < 1000000000000) : bits .and .i64 x 63 = x % 64 := by
  obtain ⟨y, rfl⟩ := Int.eq_ofNat_of_zero_le h0
  rw [and63 y (by omega)]
  omega

theorem encC (r : Int) (C : Array Value) (h : C.toList = Lib.runeCells r) : C.toList = (Lib.encodeRune r).map B := by
  rw [h, ← Lib.byteCells_encodeRune]
  rfl

theorem bytes_new (w : World) (t : TypeId) (m : List UInt8) (C : Array Value) (hC : C.toList = m.map B) : Bytes (w.alloc (.cells C t)) w.heap.size 0 m := by
  intro j hj
  rw [Nat.zero_add, World.cell?_alloc_new, ← hC, Array.getElem?_toList]

/-- What 'Encoded' tells. -/
structure EncRet (w : World) (c : Nat) (e : Ending) (w' : World) : Prop where
  below : Below w.heap.size w w'
  what : e = .returned (.string ⟨(enc c).toArray⟩)

theorem toList_mk (l : List UInt8) : (⟨l.toArray⟩ : ByteArray).data.toList = l := rfl

set_option maxRecDepth 100000 in
set_option maxHeartbeats 4000000 in
theorem encoded_any (c : Nat) (hc : c ≤ 1114111) (w : World) :
    Calls Tryz.prog 72 #[.int .i64 c] w (EncRet w c) := by
  by_cases h1 : c < 128
  · have e1 : (c : Int) < 128 := by omega
    have hC : (#[.int .u8 (c : Int)] : Array Value).toList = (enc c).map B := encC _ _ (by simp only [Lib.runeCells, Lib.encodeRuneZ_one (r := (c : Int)) (by omega) (by omega)]; rfl)
    have hl : (enc c).length = 1 := by have := congrArg List.length hC; simp at this; exact this.symm
    have HB := Lib.hid (bytes_new w 5 _ _ hC)
    have HL := Lib.hid hl
    clear hC hl
    go_enter Tryz.func72, Tryz.ntmps72
    go_wp2_with (refine wpList_toStr (P := Tryz.prog) (t := 51) (e := 5) u8m rfl (.tmp 8) 9 rfl string9m rfl ⟨(enc c).toArray⟩ HL.out.symm HB.out ?_)
    go_ret
    exact ⟨(Below.refl _ _).alloc (Nat.le_refl _) _, rfl⟩
  have e1 : ¬ (c : Int) < 128 := by omega
  have b1 := and63i (c : Int) (by omega) (by omega)
  have m1 : ((128 : Int) + (c : Int) % 64) % 256 = 128 + (c : Int) % 64 := by omega
  by_cases h2 : c < 2048
  · have e2 : (c : Int) < 2048 := by omega
    have hC : (#[.int .u8 (192 + (c : Int) / 64), .int .u8 (128 + (c : Int) % 64)] : Array Value).toList = (enc c).map B := encC _ _ (by simp only [Lib.runeCells, Lib.encodeRuneZ_two (r := (c : Int)) (by omega) (by omega)]; rfl)
    have hl : (enc c).length = 2 := by have := congrArg List.length hC; simp at this; exact this.symm
    have HB := Lib.hid (bytes_new w 5 _ _ hC)
    have HL := Lib.hid hl
    clear hC hl
    go_enter Tryz.func72, Tryz.ntmps72
    go_wp2_with (refine wpList_toStr (P := Tryz.prog) (t := 51) (e := 5) u8m rfl (.tmp 21) 9 rfl string9m rfl ⟨(enc c).toArray⟩ HL.out.symm HB.out ?_)
    go_ret
    exact ⟨(Below.refl _ _).alloc (Nat.le_refl _) _, rfl⟩
  have e2 : ¬ (c : Int) < 2048 := by omega
  by_cases h3 : 55296 ≤ c ∧ c ≤ 57343
  · have e3 : (55296 : Int) ≤ (c : Int) := by omega
    have e3' : (c : Int) ≤ 57343 := by omega
    have hb : (⟨(enc c).toArray⟩ : ByteArray) = ⟨#[239, 191, 189]⟩ := by
      have : enc c = [239, 191, 189] := by unfold enc Lib.encodeRune; rw [Lib.encodeRuneZ_bad (.inr (.inl ⟨e3, e3'⟩))]; rfl
      rw [this]
    have HB := Lib.hid hb
    clear hb b1 m1
    go_enter Tryz.func72, Tryz.ntmps72
    go_wp2_with fail
    go_ret
    exact ⟨Below.refl _ _, by rw [HB.out]; rfl⟩
  have b2 := and63i ((c : Int) / 64) (by omega) (by omega)
  have m2 : ((128 : Int) + (c : Int) / 64 % 64) % 256 = 128 + (c : Int) / 64 % 64 := by omega
  have q3 : ¬ (55296 : Int) ≤ (c : Int) ∨ ((55296 : Int) ≤ (c : Int) ∧ ¬ (c : Int) ≤ 57343) := by omega
  by_cases h4 : c < 65536
  · have e4 : (c : Int) < 65536 := by omega
    have hC : (#[.int .u8 (224 + (c : Int) / 4096), .int .u8 (128 + (c : Int) / 64 % 64), .int .u8 (128 + (c : Int) % 64)] : Array Value).toList = (enc c).map B := encC _ _ (by simp only [Lib.runeCells, Lib.encodeRuneZ_three (r := (c : Int)) (by omega)]; rfl)
    have hl : (enc c).length = 3 := by have := congrArg List.length hC; simp at this; exact this.symm
    have HB := Lib.hid (bytes_new w 5 _ _ hC)
    have HL := Lib.hid hl
    clear hC hl
    rcases q3 with q3 | ⟨q3, q3'⟩
    all_goals
      go_enter Tryz.func72, Tryz.ntmps72
      go_wp2_with (refine wpList_toStr (P := Tryz.prog) (t := 51) (e := 5) u8m rfl (.tmp 46) 9 rfl string9m rfl ⟨(enc c).toArray⟩ HL.out.symm HB.out ?_)
      go_ret
      exact ⟨(Below.refl _ _).alloc (Nat.le_refl _) _, rfl⟩
  have e4 : ¬ (c : Int) < 65536 := by omega
  have b3 := and63i ((c : Int) / 4096) (by omega) (by omega)
  have m3 : ((128 : Int) + (c : Int) / 4096 % 64) % 256 = 128 + (c : Int) / 4096 % 64 := by omega
  have hC : (#[.int .u8 (240 + (c : Int) / 262144), .int .u8 (128 + (c : Int) / 4096 % 64), .int .u8 (128 + (c : Int) / 64 % 64), .int .u8 (128 + (c : Int) % 64)] : Array Value).toList = (enc c).map B := encC _ _ (by simp only [Lib.runeCells, Lib.encodeRuneZ_four (r := (c : Int)) (by omega) (by omega)]; rfl)
  have hl : (enc c).length = 4 := by have := congrArg List.length hC; simp at this; exact this.symm
  have HB := Lib.hid (bytes_new w 5 _ _ hC)
  have HL := Lib.hid hl
  have q3 : (55296 : Int) ≤ (c : Int) := by omega
  have q3' : ¬ (c : Int) ≤ 57343 := by omega
  clear hC hl
  go_enter Tryz.func72, Tryz.ntmps72
  go_wp2_with (refine wpList_toStr (P := Tryz.prog) (t := 51) (e := 5) u8m rfl (.tmp 66) 9 rfl string9m rfl ⟨(enc c).toArray⟩ HL.out.symm HB.out ?_)
  go_ret
  exact ⟨(Below.refl _ _).alloc (Nat.le_refl _) _, rfl⟩

/-- What 'escaped' tells. -/
structure EscRet (w : World) (s : List UInt8) (e : Ending) (w' : World) : Prop where
  below : Below w.heap.size w w'
  what : e = .returned (.tuple #[.string ⟨(escS s).1.toArray⟩, .int .i64 (((escS s).2.1 : Nat) : Int), .bool (escS s).2.2])

theorem escS_u {c0 : UInt8} {t : List UInt8} {v : Nat} (hv : (unitS (c0 :: 117 :: t)).getD 0 = v) : escS (c0 :: 117 :: t) =
    if v < 55296 ∨ 57343 < v then (enc v, 6, true)
    else if v < 56320 ∧ (unitS ((c0 :: 117 :: t).drop 6)).isSome = true ∧ 56320 ≤ (unitS ((c0 :: 117 :: t).drop 6)).getD 0 ∧ (unitS ((c0 :: 117 :: t).drop 6)).getD 0 ≤ 57343 then (enc (65536 + (v - 55296) * 1024 + ((unitS ((c0 :: 117 :: t).drop 6)).getD 0 - 56320)), 12, true)
    else (bad, 6, false) := by
  show (if (unitS (c0 :: 117 :: t)).getD 0 < 55296 ∨ 57343 < (unitS (c0 :: 117 :: t)).getD 0 then (enc ((unitS (c0 :: 117 :: t)).getD 0), 6, true)
      else if (unitS (c0 :: 117 :: t)).getD 0 < 56320 ∧ (unitS ((c0 :: 117 :: t).drop 6)).isSome = true ∧ 56320 ≤ (unitS ((c0 :: 117 :: t).drop 6)).getD 0 ∧ (unitS ((c0 :: 117 :: t).drop 6)).getD 0 ≤ 57343 then (enc (65536 + ((unitS (c0 :: 117 :: t)).getD 0 - 55296) * 1024 + ((unitS ((c0 :: 117 :: t).drop 6)).getD 0 - 56320)), 12, true)
      else (bad, 6, false)) = _
  rw [hv]

theorem unitS_lt {s : List UInt8} : (unitS s).getD 0 < 65536 := by
  unfold unitS
  split
  · cases h : hex4 ((s.drop 2).take 4) with
    | none => decide
    | some v => exact hex4_lt h
  · decide

set_option maxRecDepth 100000 in
set_option maxHeartbeats 4000000 in
theorem escaped_u (s : ByteArray) (k : Nat) (hs : s.size ≤ 100000000000) (hk : k + 1 < s.size) (w : World) (h117 : s.data.toList[k + 1]? = some 117) :
    Calls Tryz.prog 53 #[.string s, .int .i64 k] w (EscRet w (s.data.toList.drop k)) := by
  have j2 : (0 : Int) ≤ (k : Int) + 1 := by omega
  have j3 : (k : Int) + 1 < (s.size : Int) := by omega
  have ha1 : (s[k + 1]'hk).toNat = 117 := by rw [get_some hk] at h117; rw [Option.some.inj h117]; rfl
  have hd : s.data.toList.drop k = (s[k]'(by omega)) :: 117 :: s.data.toList.drop (k + 1 + 1) := by rw [drop_of_get (get_some (show k < s.size by omega)), drop_of_get h117]
  obtain ⟨u, hu⟩ : ∃ u, unitS (s.data.toList.drop k) = u := ⟨_, rfl⟩
  obtain ⟨u', hu'⟩ : ∃ u, unitS (s.data.toList.drop (k + 6)) = u := ⟨_, rfl⟩
  obtain ⟨v, hv⟩ : ∃ v, u.getD 0 = v := ⟨_, rfl⟩
  obtain ⟨v', hv'⟩ : ∃ v, u'.getD 0 = v := ⟨_, rfl⟩
  obtain ⟨o', ho'⟩ : ∃ o, u'.isSome = o := ⟨_, rfl⟩
  have hvl : v < 65536 := by rw [← hv, ← hu]; exact unitS_lt
  have hvl' : v' < 65536 := by rw [← hv', ← hu']; exact unitS_lt
  have hes := escS_u (c0 := s[k]'(by omega)) (t := s.data.toList.drop (k + 1 + 1)) (v := v) (by rw [← hd, hu, hv])
  rw [← hd, List.drop_drop, hu', hv', ho'] at hes
  have HES := Lib.hid hes
  have HU := Lib.hid hu
  have HU' := Lib.hid hu'
  have HV := Lib.hid hv
  have HV' := Lib.hid hv'
  have HO' := Lib.hid ho'
  have k6 : (k : Int) + 6 = ((k + 6 : Nat) : Int) := by omega
  have K6 := Lib.hid k6
  clear h117 hd hu hu' hv hv' ho' hes k6
  obtain ⟨V, hV⟩ : ∃ V : Int, (v : Int) = V := ⟨_, rfl⟩
  obtain ⟨V', hV'⟩ : ∃ V : Int, (v' : Int) = V := ⟨_, rfl⟩
  have hV0 : 0 ≤ V ∧ V < 65536 := by omega
  have hV0' : 0 ≤ V' ∧ V' < 65536 := by omega
  have unit1 : ∀ w : World, Calls Tryz.prog 71 #[.string s, .int .i64 k] w fun e w' => w' = w ∧ e = .returned (.tuple #[.int .i64 V, .bool u.isSome]) := fun w =>
    (unitAt_any s k hs (by omega) w).mono fun e w' h => ⟨h.1, by rw [h.2, HU.out, HV.out, hV]⟩
  have unit2 : ∀ w : World, Calls Tryz.prog 71 #[.string s, .int .i64 ((k : Int) + 6)] w fun e w' => w' = w ∧ e = .returned (.tuple #[.int .i64 V', .bool o']) := fun w => by
    rw [K6.out]
    exact (unitAt_any s (k + 6) hs (by omega) w).mono fun e w' h => ⟨h.1, by rw [h.2, HU'.out, HV'.out, HO'.out, hV']⟩
  have U1 := Lib.hid unit1
  have U2 := Lib.hid unit2
  clear unit1 unit2
  by_cases c1 : v < 55296 ∨ 57343 < v
  · have hes := HES.out
    rw [if_pos c1] at hes
    have HE := Lib.hid hes
    have q : V < 55296 ∨ (¬ V < 55296 ∧ 57343 < V) := by omega
    have henc : ∀ w : World, Calls Tryz.prog 72 #[.int .i64 V] w (EncRet w v) := fun w => by rw [← hV]; exact encoded_any v (by omega) w
    have HEnc := Lib.hid henc
    obtain ⟨z0, z1⟩ := hV0
    clear hes c1 henc hvl hvl' hV hV' hV0'
    rcases q with q | ⟨q, q'⟩
    all_goals
      go_enter Tryz.func53, Tryz.ntmps53
      go_wp2_with fail
      refine (U1.out _).mono ?_
      rintro e w1 ⟨rfl, rfl⟩
      go_wp2_with fail
      refine (HEnc.out _).mono ?_
      rintro e w2 ⟨b2, rfl⟩
      have B2 := Lib.hid b2
      clear b2
      go_wp2_with fail
      go_ret3
      exact ⟨B2.out, by rw [HE.out]; rfl⟩
  have hes := HES.out
  rw [if_neg c1] at hes
  have q1 : ¬ V < 55296 := by omega
  have q2 : ¬ 57343 < V := by omega
  by_cases c2 : v < 56320 ∧ o' = true ∧ 56320 ≤ v' ∧ v' ≤ 57343
  · rw [if_pos c2] at hes
    obtain ⟨d1, rfl, d3, d4⟩ := c2
    obtain ⟨E, hE⟩ : ∃ E, E = enc (65536 + (v - 55296) * 1024 + (v' - 56320)) := ⟨_, rfl⟩
    rw [← hE] at hes
    have HE := Lib.hid hes
    have p1 : V < 56320 := by omega
    have p3 : (56320 : Int) ≤ V' := by omega
    have p4 : V' ≤ 57343 := by omega
    have henc : ∀ w : World, Calls Tryz.prog 72 #[.int .i64 (65536 + (V - 55296) * 1024 + (V' - 56320))] w fun e w' => Below w.heap.size w w' ∧ e = .returned (.string ⟨E.toArray⟩) := fun w => by
      rw [show 65536 + (V - 55296) * 1024 + (V' - 56320) = ((65536 + (v - 55296) * 1024 + (v' - 56320) : Nat) : Int) by omega]
      exact (encoded_any _ (by omega) w).mono fun e w' h => ⟨h.below, by rw [h.what, hE]⟩
    have HEnc := Lib.hid henc
    clear hE
    clear hes c1 d1 d3 d4 hvl hvl' hV hV' henc hV0 hV0'
    go_enter Tryz.func53, Tryz.ntmps53
    go_wp2_with fail
    refine (U1.out _).mono ?_
    rintro e w1 ⟨rfl, rfl⟩
    go_wp2_with fail
    refine (U2.out _).mono ?_
    rintro e w1 ⟨rfl, rfl⟩
    go_wp2_with fail
    refine (HEnc.out _).mono ?_
    rintro e w2 ⟨b2, rfl⟩
    have B2 := Lib.hid b2
    clear b2
    go_wp2_with fail
    go_ret3
    exact ⟨B2.out, by rw [HE.out]; rfl⟩
  · rw [if_neg c2] at hes
    have HE := Lib.hid hes
    have q : ¬ V < 56320 ∨ (V < 56320 ∧ o' = false) ∨ (V < 56320 ∧ o' = true ∧ ¬ 56320 ≤ V') ∨ (V < 56320 ∧ o' = true ∧ 56320 ≤ V' ∧ ¬ V' ≤ 57343) := by
      by_cases z1 : v < 56320
      · have z1' : V < 56320 := by omega
        cases ho : o' with
        | false => exact .inr (.inl ⟨z1', rfl⟩)
        | true =>
          by_cases z3 : 56320 ≤ v'
          · exact .inr (.inr (.inr ⟨z1', rfl, by omega, fun h => c2 ⟨z1, ho, z3, by omega⟩⟩))
          · exact .inr (.inr (.inl ⟨z1', rfl, by omega⟩))
      · exact .inl (by omega)
    clear hes c1 c2 hvl hvl' hV hV' hV0 hV0'
    rcases q with q3 | ⟨q3, rfl⟩ | ⟨q3, rfl, q4⟩ | ⟨q3, rfl, q4, q5⟩
    all_goals
      go_enter Tryz.func53, Tryz.ntmps53
      go_wp2_with fail
      refine (U1.out _).mono ?_
      rintro e w1 ⟨rfl, rfl⟩
      go_wp2_with fail
      refine (U2.out _).mono ?_
      rintro e w1 ⟨rfl, rfl⟩
      go_wp2_with fail
      go_ret3
      exact ⟨Below.refl _ _, by rw [HE.out]; rfl⟩

set_option maxRecDepth 100000 in
set_option maxHeartbeats 4000000 in
theorem escaped_any (s : ByteArray) (k : Nat) (hs : s.size ≤ 100000000000) (hk : k + 1 < s.size) (w : World) :
    Calls Tryz.prog 53 #[.string s, .int .i64 k] w (EscRet w (s.data.toList.drop k)) := by
  have j2 : (0 : Int) ≤ (k : Int) + 1 := by omega
  have j3 : (k : Int) + 1 < (s.size : Int) := by omega
  obtain ⟨r, hr⟩ : ∃ r, s.data.toList[k + 1]? = some r ∧ r = s[k + 1]'hk := ⟨_, get_some hk, rfl⟩
  have hd : s.data.toList.drop k = (s[k]'(by omega)) :: r :: s.data.toList.drop (k + 1 + 1) := by rw [drop_of_get (get_some (show k < s.size by omega)), drop_of_get hr.1]
  obtain ⟨a, ha⟩ : ∃ a : Nat, (s[k + 1]'hk).toNat = a := ⟨_, rfl⟩
  have hra : r.toNat = a := by rw [hr.2]; exact ha
  have req : ∀ x : UInt8, a = x.toNat → r = x := fun x h => UInt8.toNat_inj.1 (by rw [hra, h])
  have rne : ∀ x : UInt8, a ≠ x.toNat → r ≠ x := fun x h e => h (by rw [← hra, e])
  by_cases a117 : a = 117
  · exact escaped_u s k hs hk w (by rw [hr.1, req 117 a117])
  obtain ⟨p, hp⟩ : ∃ p, escS (s.data.toList.drop k) = p := ⟨_, rfl⟩
  have HP := Lib.hid hp
  rw [hd] at hp
  have HD := Lib.hid hd
  have n117 : ((a : Int) == 117) = false := by rw [beq_eq_false_iff_ne]; omega
  by_cases a98 : a = 98
  · rw [req 98 a98] at hp
    have HQ := Lib.hid hp
    subst a98
    clear hr hd hra req rne hp
    go_enter Tryz.func53, Tryz.ntmps53
    go_wp2_with fail
    go_ret3
    exact ⟨Below.refl _ _, by rw [HP.out, ← HQ.out]; rfl⟩
  have n98 : ((a : Int) == 98) = false := by rw [beq_eq_false_iff_ne]; omega
  by_cases a102 : a = 102
  · rw [req 102 a102] at hp
    have HQ := Lib.hid hp
    subst a102
    clear hr hd hra req rne hp
    go_enter Tryz.func53, Tryz.ntmps53
    go_wp2_with fail
    go_ret3
    exact ⟨Below.refl _ _, by rw [HP.out, ← HQ.out]; rfl⟩
  have n102 : ((a : Int) == 102) = false := by rw [beq_eq_false_iff_ne]; omega
  by_cases a110 : a = 110
  · rw [req 110 a110] at hp
    have HQ := Lib.hid hp
    subst a110
    clear hr hd hra req rne hp
    go_enter Tryz.func53, Tryz.ntmps53
    go_wp2_with fail
    go_ret3
    exact ⟨Below.refl _ _, by rw [HP.out, ← HQ.out]; rfl⟩
  have n110 : ((a : Int) == 110) = false := by rw [beq_eq_false_iff_ne]; omega
  by_cases a114 : a = 114
  · rw [req 114 a114] at hp
    have HQ := Lib.hid hp
    subst a114
    clear hr hd hra req rne hp
    go_enter Tryz.func53, Tryz.ntmps53
    go_wp2_with fail
    go_ret3
    exact ⟨Below.refl _ _, by rw [HP.out, ← HQ.out]; rfl⟩
  have n114 : ((a : Int) == 114) = false := by rw [beq_eq_false_iff_ne]; omega
  by_cases a116 : a = 116
  · rw [req 116 a116] at hp
    have HQ := Lib.hid hp
    subst a116
    clear hr hd hra req rne hp
    go_enter Tryz.func53, Tryz.ntmps53
    go_wp2_with fail
    go_ret3
    exact ⟨Below.refl _ _, by rw [HP.out, ← HQ.out]; rfl⟩
  have n116 : ((a : Int) == 116) = false := by rw [beq_eq_false_iff_ne]; omega
  have hq : p = ([r], 2, true) := by
    rw [← hp]
    show (if r = 98 then _ else if r = 102 then _ else if r = 110 then _ else if r = 114 then _ else if r = 116 then _ else if r = 117 then _ else ([r], 2, true)) = _
    rw [if_neg (rne 98 a98), if_neg (rne 102 a102), if_neg (rne 110 a110), if_neg (rne 114 a114), if_neg (rne 116 a116), if_neg (rne 117 a117)]
  have hx : (⟨[r].toArray⟩ : ByteArray) = s.extract (k + 1) (k + 2) := by
    refine bytes_ext ?_
    have := extract_m s (k + 1) 1
    rw [this, drop_of_get hr.1]
    rfl
  have HQ := Lib.hid hq
  have HX := Lib.hid hx
  have t0 : (0 : Int) ≤ (k : Int) + 2 := by omega
  have t1 : (k : Int) + 1 ≤ (k : Int) + 2 := by omega
  have t2 : (k : Int) + 2 ≤ (s.size : Int) := by omega
  clear hr hd hra req rne hp hq hx a98 a102 a110 a114 a116 a117
  go_enter Tryz.func53, Tryz.ntmps53
  go_wp2_with fail
  go_ret3
  exact ⟨Below.refl _ _, by rw [HP.out, HQ.out, HX.out]; rfl⟩

end Go.Proofs.YtlgmdcaoogiooaaGreatDoor.Wire
