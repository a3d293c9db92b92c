/- jsonwire's hasEscapedUTF16Prefix and utf8.FullRune. -/
import Derived.Test.YtifemmjblamfkaaDoorCsrF
namespace Go.Proofs.YtifemmjblamfkaaDoor.Wire
open Go.RowKit Go.Proofs.YtifemmjblamfkaaDoor

theorem prefB_true {lower : Bool} {l : List UInt8} (h : ∀ j, j < l.length → prefAt lower j (l.getD j 0).toNat = true) : prefB lower l = true := by
  unfold prefB
  rw [List.all_eq_true]
  intro j hj
  exact h j (List.mem_range.1 hj)

theorem prefB_false {lower : Bool} {l : List UInt8} (j : Nat) (hj : j < l.length) (h : prefAt lower j (l.getD j 0).toNat = false) : prefB lower l = false := by
  unfold prefB
  rw [List.all_eq_false]
  exact ⟨j, List.mem_range.2 hj, by rw [h]; decide⟩

set_option maxRecDepth 100000 in
set_option maxHeartbeats 8000000 in
theorem prefix_any (lower : Bool) (l : List UInt8) (hl : l.length < 6) (b off cap : Nat) (w : World) (hB : Bytes w b off l) :
    Calls Tryd.prog 28 #[.slice (some ⟨b, off, none⟩) l.length cap, .bool lower] w fun e w' => w' = w ∧ e = .returned (.bool (prefB lower l)) := by
  have HB := Lib.hid hB
  clear hB
  go_enter Tryd.func28, Tryd.ntmps28
  go_wp2_with fail
  go_loopw [9] (fun i wr => wr = w ∧ ∃ k : Nat, i = .int .i64 k ∧ k ≤ l.length ∧ ∀ j, j < k → prefAt lower j (l.getD j 0).toNat = true) (fun i _ => l.length - (intOf i).toNat)
  case atStart => exact ⟨rfl, 0, rfl, Nat.zero_le _, fun j h => absurd h (Nat.not_lt_zero _)⟩
  case round =>
    obtain ⟨rfl, k, rfl, hk, hall⟩ := hrel
    have HA := Lib.hid hall
    clear hall
    by_cases hkl : k < l.length
    · have i0 : (0 : Int) ≤ (k : Int) := by omega
      have i1 : (k : Int) < (l.length : Int) := by omega
      have hc := HB.out.at k hkl
      obtain ⟨a, ha⟩ : ∃ a : Nat, a = (l[k]).toNat := ⟨_, rfl⟩
      have hga : (l.getD k 0).toNat = a := by rw [ha, List.getD_eq_getElem?_getD, List.getElem?_eq_getElem hkl]; rfl
      rw [← ha] at hc
      have HGA := Lib.hid hga
      clear ha hga
      have next : prefAt lower k a = true → ∀ j, j < k + 1 → prefAt lower j (l.getD j 0).toNat = true := fun h j hj => by
        by_cases e : j = k
        · subst e; rw [HGA.out]; exact h
        · exact HA.out j (by omega)
      have stop : prefAt lower k a = false → prefB lower l = false := fun h => prefB_false k hkl (by rw [HGA.out]; exact h)
      have NX := Lib.hid next
      have ST := Lib.hid stop
      clear next stop
      have hk6 : k = 0 ∨ k = 1 ∨ k = 2 ∨ k = 3 ∨ k = 4 ∨ k = 5 := by omega
      have hz : ∀ x : Nat, a ≠ x → ((a : Int) == (x : Int)) = false ∧ ((a : Int) != (x : Int)) = true := fun x h => ⟨by rw [beq_eq_false_iff_ne]; omega, by rw [bne_iff_ne]; omega⟩
      have HZ := Lib.hid hz
      clear hz
      rcases hk6 with e0 | e0 | e0 | e0 | e0 | e0
      · have k0 : ((k : Int) == 0) = true := by rw [beq_iff_eq]; omega
        have k1 : ((k : Int) == 1) = false := by rw [beq_eq_false_iff_ne]; omega
        have k2 : ((k : Int) == 2) = false := by rw [beq_eq_false_iff_ne]; omega
        have k3 : ((k : Int) == 3) = false := by rw [beq_eq_false_iff_ne]; omega
        have k4 : ¬ (2 : Int) ≤ (k : Int) := by omega
        have k5 : (k : Int) < 6 := by omega
        have HE := Lib.hid e0
        clear e0
        by_cases e : a = 92
        · subst e
          have hv : prefAt lower k 92 = true := decide_eq_true (by have := HE.out; simp; omega)
          go_wp2_with fail
          exact ⟨⟨trivial, k + 1, by simp, by omega, NX.out hv⟩, by simp only [intOf]; omega⟩
        · obtain ⟨z1, z2⟩ := HZ.out 92 e
          have hv : prefAt lower k a = false := decide_eq_false (by simp [HE.out, e])
          go_wp2_with fail
          go_ret
          exact ⟨rfl, by rw [ST.out hv]; rfl⟩
      · have k0 : ((k : Int) == 0) = false := by rw [beq_eq_false_iff_ne]; omega
        have k1 : ((k : Int) == 1) = true := by rw [beq_iff_eq]; omega
        have k2 : ((k : Int) == 2) = false := by rw [beq_eq_false_iff_ne]; omega
        have k3 : ((k : Int) == 3) = false := by rw [beq_eq_false_iff_ne]; omega
        have k4 : ¬ (2 : Int) ≤ (k : Int) := by omega
        have k5 : (k : Int) < 6 := by omega
        have HE := Lib.hid e0
        clear e0
        by_cases e : a = 117
        · subst e
          have hv : prefAt lower k 117 = true := decide_eq_true (by have := HE.out; simp; omega)
          go_wp2_with fail
          exact ⟨⟨trivial, k + 1, by simp, by omega, NX.out hv⟩, by simp only [intOf]; omega⟩
        · obtain ⟨z1, z2⟩ := HZ.out 117 e
          have hv : prefAt lower k a = false := decide_eq_false (by simp [HE.out, e])
          go_wp2_with fail
          go_ret
          exact ⟨rfl, by rw [ST.out hv]; rfl⟩
      · have k0 : ((k : Int) == 0) = false := by rw [beq_eq_false_iff_ne]; omega
        have k1 : ((k : Int) == 1) = false := by rw [beq_eq_false_iff_ne]; omega
        have k2 : ((k : Int) == 2) = true := by rw [beq_iff_eq]; omega
        have k3 : ((k : Int) == 3) = false := by rw [beq_eq_false_iff_ne]; omega
        have k4 : (2 : Int) ≤ (k : Int) := by omega
        have k5 : (k : Int) < 6 := by omega
        have HE := Lib.hid e0
        clear e0
        cases lower with
        | true =>
          by_cases e1 : a = 100
          · subst e1
            have hv : prefAt true k 100 = true := decide_eq_true (by have := HE.out; simp; omega)
            go_wp2_with fail
            exact ⟨⟨trivial, k + 1, by simp, by omega, NX.out hv⟩, by simp only [intOf]; omega⟩
          · by_cases e2 : a = 68
            · subst e2
              have hv : prefAt true k 68 = true := decide_eq_true (by have := HE.out; simp; omega)
              go_wp2_with fail
              exact ⟨⟨trivial, k + 1, by simp, by omega, NX.out hv⟩, by simp only [intOf]; omega⟩
            · have z1 : ((a : Int) != 100) = true := by rw [bne_iff_ne]; omega
              have z3 : ((a : Int) != 68) = true := by rw [bne_iff_ne]; omega
              have z2 : ((a : Int) == 100) = false := by rw [beq_eq_false_iff_ne]; omega
              have z4 : ((a : Int) == 68) = false := by rw [beq_eq_false_iff_ne]; omega
              have hv : prefAt true k a = false := decide_eq_false (by simp [HE.out, e1, e2])
              go_wp2_with fail
              go_ret
              exact ⟨rfl, by rw [ST.out hv]; rfl⟩
        | false =>
          by_cases s0 : a ≤ 47
          · have g48 : ¬ (48 : Int) ≤ (a : Int) := by omega
            have g97 : ¬ (97 : Int) ≤ (a : Int) := by omega
            have g65 : ¬ (65 : Int) ≤ (a : Int) := by omega
            have g99 : ¬ (99 : Int) ≤ (a : Int) := by omega
            have g67 : ¬ (67 : Int) ≤ (a : Int) := by omega
            have l57 : (a : Int) ≤ 57 := by omega
            have l102 : (a : Int) ≤ 102 := by omega
            have l70 : (a : Int) ≤ 70 := by omega
            first
              | (have hv : prefAt false k a = true := decide_eq_true (by have := HE.out; simp; try omega)
                 go_wp2_with fail
                 exact ⟨⟨trivial, k + 1, by simp, by omega, NX.out hv⟩, by simp only [intOf]; omega⟩)
              | (have hv : prefAt false k a = false := decide_eq_false (by have := HE.out; simp; try omega)
                 go_wp2_with fail
                 go_ret
                 exact ⟨rfl, by rw [ST.out hv]; rfl⟩)
          · by_cases s1 : a ≤ 57
            · have hlo : 48 ≤ a := by omega
              have g48 : (48 : Int) ≤ (a : Int) := by omega
              have g97 : ¬ (97 : Int) ≤ (a : Int) := by omega
              have g65 : ¬ (65 : Int) ≤ (a : Int) := by omega
              have g99 : ¬ (99 : Int) ≤ (a : Int) := by omega
              have g67 : ¬ (67 : Int) ≤ (a : Int) := by omega
              have l57 : (a : Int) ≤ 57 := by omega
              have l102 : (a : Int) ≤ 102 := by omega
              have l70 : (a : Int) ≤ 70 := by omega
              first
                | (have hv : prefAt false k a = true := decide_eq_true (by have := HE.out; simp; try omega)
                   go_wp2_with fail
                   exact ⟨⟨trivial, k + 1, by simp, by omega, NX.out hv⟩, by simp only [intOf]; omega⟩)
                | (have hv : prefAt false k a = false := decide_eq_false (by have := HE.out; simp; try omega)
                   go_wp2_with fail
                   go_ret
                   exact ⟨rfl, by rw [ST.out hv]; rfl⟩)
            · by_cases s2 : a ≤ 64
              · have hlo : 58 ≤ a := by omega
                have g48 : (48 : Int) ≤ (a : Int) := by omega
                have g97 : ¬ (97 : Int) ≤ (a : Int) := by omega
                have g65 : ¬ (65 : Int) ≤ (a : Int) := by omega
                have g99 : ¬ (99 : Int) ≤ (a : Int) := by omega
                have g67 : ¬ (67 : Int) ≤ (a : Int) := by omega
                have l57 : ¬ (a : Int) ≤ 57 := by omega
                have l102 : (a : Int) ≤ 102 := by omega
                have l70 : (a : Int) ≤ 70 := by omega
                first
                  | (have hv : prefAt false k a = true := decide_eq_true (by have := HE.out; simp; try omega)
                     go_wp2_with fail
                     exact ⟨⟨trivial, k + 1, by simp, by omega, NX.out hv⟩, by simp only [intOf]; omega⟩)
                  | (have hv : prefAt false k a = false := decide_eq_false (by have := HE.out; simp; try omega)
                     go_wp2_with fail
                     go_ret
                     exact ⟨rfl, by rw [ST.out hv]; rfl⟩)
              · by_cases s3 : a ≤ 66
                · have hlo : 65 ≤ a := by omega
                  have g48 : (48 : Int) ≤ (a : Int) := by omega
                  have g97 : ¬ (97 : Int) ≤ (a : Int) := by omega
                  have g65 : (65 : Int) ≤ (a : Int) := by omega
                  have g99 : ¬ (99 : Int) ≤ (a : Int) := by omega
                  have g67 : ¬ (67 : Int) ≤ (a : Int) := by omega
                  have l57 : ¬ (a : Int) ≤ 57 := by omega
                  have l102 : (a : Int) ≤ 102 := by omega
                  have l70 : (a : Int) ≤ 70 := by omega
                  first
                    | (have hv : prefAt false k a = true := decide_eq_true (by have := HE.out; simp; try omega)
                       go_wp2_with fail
                       exact ⟨⟨trivial, k + 1, by simp, by omega, NX.out hv⟩, by simp only [intOf]; omega⟩)
                    | (have hv : prefAt false k a = false := decide_eq_false (by have := HE.out; simp; try omega)
                       go_wp2_with fail
                       go_ret
                       exact ⟨rfl, by rw [ST.out hv]; rfl⟩)
                · by_cases s4 : a ≤ 70
                  · have hlo : 67 ≤ a := by omega
                    have g48 : (48 : Int) ≤ (a : Int) := by omega
                    have g97 : ¬ (97 : Int) ≤ (a : Int) := by omega
                    have g65 : (65 : Int) ≤ (a : Int) := by omega
                    have g99 : ¬ (99 : Int) ≤ (a : Int) := by omega
                    have g67 : (67 : Int) ≤ (a : Int) := by omega
                    have l57 : ¬ (a : Int) ≤ 57 := by omega
                    have l102 : (a : Int) ≤ 102 := by omega
                    have l70 : (a : Int) ≤ 70 := by omega
                    first
                      | (have hv : prefAt false k a = true := decide_eq_true (by have := HE.out; simp; try omega)
                         go_wp2_with fail
                         exact ⟨⟨trivial, k + 1, by simp, by omega, NX.out hv⟩, by simp only [intOf]; omega⟩)
                      | (have hv : prefAt false k a = false := decide_eq_false (by have := HE.out; simp; try omega)
                         go_wp2_with fail
                         go_ret
                         exact ⟨rfl, by rw [ST.out hv]; rfl⟩)
                  · by_cases s5 : a ≤ 96
                    · have hlo : 71 ≤ a := by omega
                      have g48 : (48 : Int) ≤ (a : Int) := by omega
                      have g97 : ¬ (97 : Int) ≤ (a : Int) := by omega
                      have g65 : (65 : Int) ≤ (a : Int) := by omega
                      have g99 : ¬ (99 : Int) ≤ (a : Int) := by omega
                      have g67 : (67 : Int) ≤ (a : Int) := by omega
                      have l57 : ¬ (a : Int) ≤ 57 := by omega
                      have l102 : (a : Int) ≤ 102 := by omega
                      have l70 : ¬ (a : Int) ≤ 70 := by omega
                      first
                        | (have hv : prefAt false k a = true := decide_eq_true (by have := HE.out; simp; try omega)
                           go_wp2_with fail
                           exact ⟨⟨trivial, k + 1, by simp, by omega, NX.out hv⟩, by simp only [intOf]; omega⟩)
                        | (have hv : prefAt false k a = false := decide_eq_false (by have := HE.out; simp; try omega)
                           go_wp2_with fail
                           go_ret
                           exact ⟨rfl, by rw [ST.out hv]; rfl⟩)
                    · by_cases s6 : a ≤ 98
                      · have hlo : 97 ≤ a := by omega
                        have g48 : (48 : Int) ≤ (a : Int) := by omega
                        have g97 : (97 : Int) ≤ (a : Int) := by omega
                        have g65 : (65 : Int) ≤ (a : Int) := by omega
                        have g99 : ¬ (99 : Int) ≤ (a : Int) := by omega
                        have g67 : (67 : Int) ≤ (a : Int) := by omega
                        have l57 : ¬ (a : Int) ≤ 57 := by omega
                        have l102 : (a : Int) ≤ 102 := by omega
                        have l70 : ¬ (a : Int) ≤ 70 := by omega
                        first
                          | (have hv : prefAt false k a = true := decide_eq_true (by have := HE.out; simp; try omega)
                             go_wp2_with fail
                             exact ⟨⟨trivial, k + 1, by simp, by omega, NX.out hv⟩, by simp only [intOf]; omega⟩)
                          | (have hv : prefAt false k a = false := decide_eq_false (by have := HE.out; simp; try omega)
                             go_wp2_with fail
                             go_ret
                             exact ⟨rfl, by rw [ST.out hv]; rfl⟩)
                      · by_cases s7 : a ≤ 102
                        · have hlo : 99 ≤ a := by omega
                          have g48 : (48 : Int) ≤ (a : Int) := by omega
                          have g97 : (97 : Int) ≤ (a : Int) := by omega
                          have g65 : (65 : Int) ≤ (a : Int) := by omega
                          have g99 : (99 : Int) ≤ (a : Int) := by omega
                          have g67 : (67 : Int) ≤ (a : Int) := by omega
                          have l57 : ¬ (a : Int) ≤ 57 := by omega
                          have l102 : (a : Int) ≤ 102 := by omega
                          have l70 : ¬ (a : Int) ≤ 70 := by omega
                          first
                            | (have hv : prefAt false k a = true := decide_eq_true (by have := HE.out; simp; try omega)
                               go_wp2_with fail
                               exact ⟨⟨trivial, k + 1, by simp, by omega, NX.out hv⟩, by simp only [intOf]; omega⟩)
                            | (have hv : prefAt false k a = false := decide_eq_false (by have := HE.out; simp; try omega)
                               go_wp2_with fail
                               go_ret
                               exact ⟨rfl, by rw [ST.out hv]; rfl⟩)
                        · have hlo : 103 ≤ a := by omega
                          have g48 : (48 : Int) ≤ (a : Int) := by omega
                          have g97 : (97 : Int) ≤ (a : Int) := by omega
                          have g65 : (65 : Int) ≤ (a : Int) := by omega
                          have g99 : (99 : Int) ≤ (a : Int) := by omega
                          have g67 : (67 : Int) ≤ (a : Int) := by omega
                          have l57 : ¬ (a : Int) ≤ 57 := by omega
                          have l102 : ¬ (a : Int) ≤ 102 := by omega
                          have l70 : ¬ (a : Int) ≤ 70 := by omega
                          first
                            | (have hv : prefAt false k a = true := decide_eq_true (by have := HE.out; simp; try omega)
                               go_wp2_with fail
                               exact ⟨⟨trivial, k + 1, by simp, by omega, NX.out hv⟩, by simp only [intOf]; omega⟩)
                            | (have hv : prefAt false k a = false := decide_eq_false (by have := HE.out; simp; try omega)
                               go_wp2_with fail
                               go_ret
                               exact ⟨rfl, by rw [ST.out hv]; rfl⟩)
      · have k0 : ((k : Int) == 0) = false := by rw [beq_eq_false_iff_ne]; omega
        have k1 : ((k : Int) == 1) = false := by rw [beq_eq_false_iff_ne]; omega
        have k2 : ((k : Int) == 2) = false := by rw [beq_eq_false_iff_ne]; omega
        have k3 : ((k : Int) == 3) = true := by rw [beq_iff_eq]; omega
        have k4 : (2 : Int) ≤ (k : Int) := by omega
        have k5 : (k : Int) < 6 := by omega
        have HE := Lib.hid e0
        clear e0
        cases lower with
        | true =>
          by_cases s0 : a ≤ 47
          · have g48 : ¬ (48 : Int) ≤ (a : Int) := by omega
            have g97 : ¬ (97 : Int) ≤ (a : Int) := by omega
            have g65 : ¬ (65 : Int) ≤ (a : Int) := by omega
            have g99 : ¬ (99 : Int) ≤ (a : Int) := by omega
            have g67 : ¬ (67 : Int) ≤ (a : Int) := by omega
            have l57 : (a : Int) ≤ 57 := by omega
            have l102 : (a : Int) ≤ 102 := by omega
            have l70 : (a : Int) ≤ 70 := by omega
            first
              | (have hv : prefAt true k a = true := decide_eq_true (by have := HE.out; simp; try omega)
                 go_wp2_with fail
                 exact ⟨⟨trivial, k + 1, by simp, by omega, NX.out hv⟩, by simp only [intOf]; omega⟩)
              | (have hv : prefAt true k a = false := decide_eq_false (by have := HE.out; simp; try omega)
                 go_wp2_with fail
                 go_ret
                 exact ⟨rfl, by rw [ST.out hv]; rfl⟩)
          · by_cases s1 : a ≤ 57
            · have hlo : 48 ≤ a := by omega
              have g48 : (48 : Int) ≤ (a : Int) := by omega
              have g97 : ¬ (97 : Int) ≤ (a : Int) := by omega
              have g65 : ¬ (65 : Int) ≤ (a : Int) := by omega
              have g99 : ¬ (99 : Int) ≤ (a : Int) := by omega
              have g67 : ¬ (67 : Int) ≤ (a : Int) := by omega
              have l57 : (a : Int) ≤ 57 := by omega
              have l102 : (a : Int) ≤ 102 := by omega
              have l70 : (a : Int) ≤ 70 := by omega
              first
                | (have hv : prefAt true k a = true := decide_eq_true (by have := HE.out; simp; try omega)
                   go_wp2_with fail
                   exact ⟨⟨trivial, k + 1, by simp, by omega, NX.out hv⟩, by simp only [intOf]; omega⟩)
                | (have hv : prefAt true k a = false := decide_eq_false (by have := HE.out; simp; try omega)
                   go_wp2_with fail
                   go_ret
                   exact ⟨rfl, by rw [ST.out hv]; rfl⟩)
            · by_cases s2 : a ≤ 64
              · have hlo : 58 ≤ a := by omega
                have g48 : (48 : Int) ≤ (a : Int) := by omega
                have g97 : ¬ (97 : Int) ≤ (a : Int) := by omega
                have g65 : ¬ (65 : Int) ≤ (a : Int) := by omega
                have g99 : ¬ (99 : Int) ≤ (a : Int) := by omega
                have g67 : ¬ (67 : Int) ≤ (a : Int) := by omega
                have l57 : ¬ (a : Int) ≤ 57 := by omega
                have l102 : (a : Int) ≤ 102 := by omega
                have l70 : (a : Int) ≤ 70 := by omega
                first
                  | (have hv : prefAt true k a = true := decide_eq_true (by have := HE.out; simp; try omega)
                     go_wp2_with fail
                     exact ⟨⟨trivial, k + 1, by simp, by omega, NX.out hv⟩, by simp only [intOf]; omega⟩)
                  | (have hv : prefAt true k a = false := decide_eq_false (by have := HE.out; simp; try omega)
                     go_wp2_with fail
                     go_ret
                     exact ⟨rfl, by rw [ST.out hv]; rfl⟩)
              · by_cases s3 : a ≤ 66
                · have hlo : 65 ≤ a := by omega
                  have g48 : (48 : Int) ≤ (a : Int) := by omega
                  have g97 : ¬ (97 : Int) ≤ (a : Int) := by omega
                  have g65 : (65 : Int) ≤ (a : Int) := by omega
                  have g99 : ¬ (99 : Int) ≤ (a : Int) := by omega
                  have g67 : ¬ (67 : Int) ≤ (a : Int) := by omega
                  have l57 : ¬ (a : Int) ≤ 57 := by omega
                  have l102 : (a : Int) ≤ 102 := by omega
                  have l70 : (a : Int) ≤ 70 := by omega
                  first
                    | (have hv : prefAt true k a = true := decide_eq_true (by have := HE.out; simp; try omega)
                       go_wp2_with fail
                       exact ⟨⟨trivial, k + 1, by simp, by omega, NX.out hv⟩, by simp only [intOf]; omega⟩)
                    | (have hv : prefAt true k a = false := decide_eq_false (by have := HE.out; simp; try omega)
                       go_wp2_with fail
                       go_ret
                       exact ⟨rfl, by rw [ST.out hv]; rfl⟩)
                · by_cases s4 : a ≤ 70
                  · have hlo : 67 ≤ a := by omega
                    have g48 : (48 : Int) ≤ (a : Int) := by omega
                    have g97 : ¬ (97 : Int) ≤ (a : Int) := by omega
                    have g65 : (65 : Int) ≤ (a : Int) := by omega
                    have g99 : ¬ (99 : Int) ≤ (a : Int) := by omega
                    have g67 : (67 : Int) ≤ (a : Int) := by omega
                    have l57 : ¬ (a : Int) ≤ 57 := by omega
                    have l102 : (a : Int) ≤ 102 := by omega
                    have l70 : (a : Int) ≤ 70 := by omega
                    first
                      | (have hv : prefAt true k a = true := decide_eq_true (by have := HE.out; simp; try omega)
                         go_wp2_with fail
                         exact ⟨⟨trivial, k + 1, by simp, by omega, NX.out hv⟩, by simp only [intOf]; omega⟩)
                      | (have hv : prefAt true k a = false := decide_eq_false (by have := HE.out; simp; try omega)
                         go_wp2_with fail
                         go_ret
                         exact ⟨rfl, by rw [ST.out hv]; rfl⟩)
                  · by_cases s5 : a ≤ 96
                    · have hlo : 71 ≤ a := by omega
                      have g48 : (48 : Int) ≤ (a : Int) := by omega
                      have g97 : ¬ (97 : Int) ≤ (a : Int) := by omega
                      have g65 : (65 : Int) ≤ (a : Int) := by omega
                      have g99 : ¬ (99 : Int) ≤ (a : Int) := by omega
                      have g67 : (67 : Int) ≤ (a : Int) := by omega
                      have l57 : ¬ (a : Int) ≤ 57 := by omega
                      have l102 : (a : Int) ≤ 102 := by omega
                      have l70 : ¬ (a : Int) ≤ 70 := by omega
                      first
                        | (have hv : prefAt true k a = true := decide_eq_true (by have := HE.out; simp; try omega)
                           go_wp2_with fail
                           exact ⟨⟨trivial, k + 1, by simp, by omega, NX.out hv⟩, by simp only [intOf]; omega⟩)
                        | (have hv : prefAt true k a = false := decide_eq_false (by have := HE.out; simp; try omega)
                           go_wp2_with fail
                           go_ret
                           exact ⟨rfl, by rw [ST.out hv]; rfl⟩)
                    · by_cases s6 : a ≤ 98
                      · have hlo : 97 ≤ a := by omega
                        have g48 : (48 : Int) ≤ (a : Int) := by omega
                        have g97 : (97 : Int) ≤ (a : Int) := by omega
                        have g65 : (65 : Int) ≤ (a : Int) := by omega
                        have g99 : ¬ (99 : Int) ≤ (a : Int) := by omega
                        have g67 : (67 : Int) ≤ (a : Int) := by omega
                        have l57 : ¬ (a : Int) ≤ 57 := by omega
                        have l102 : (a : Int) ≤ 102 := by omega
                        have l70 : ¬ (a : Int) ≤ 70 := by omega
                        first
                          | (have hv : prefAt true k a = true := decide_eq_true (by have := HE.out; simp; try omega)
                             go_wp2_with fail
                             exact ⟨⟨trivial, k + 1, by simp, by omega, NX.out hv⟩, by simp only [intOf]; omega⟩)
                          | (have hv : prefAt true k a = false := decide_eq_false (by have := HE.out; simp; try omega)
                             go_wp2_with fail
                             go_ret
                             exact ⟨rfl, by rw [ST.out hv]; rfl⟩)
                      · by_cases s7 : a ≤ 102
                        · have hlo : 99 ≤ a := by omega
                          have g48 : (48 : Int) ≤ (a : Int) := by omega
                          have g97 : (97 : Int) ≤ (a : Int) := by omega
                          have g65 : (65 : Int) ≤ (a : Int) := by omega
                          have g99 : (99 : Int) ≤ (a : Int) := by omega
                          have g67 : (67 : Int) ≤ (a : Int) := by omega
                          have l57 : ¬ (a : Int) ≤ 57 := by omega
                          have l102 : (a : Int) ≤ 102 := by omega
                          have l70 : ¬ (a : Int) ≤ 70 := by omega
                          first
                            | (have hv : prefAt true k a = true := decide_eq_true (by have := HE.out; simp; try omega)
                               go_wp2_with fail
                               exact ⟨⟨trivial, k + 1, by simp, by omega, NX.out hv⟩, by simp only [intOf]; omega⟩)
                            | (have hv : prefAt true k a = false := decide_eq_false (by have := HE.out; simp; try omega)
                               go_wp2_with fail
                               go_ret
                               exact ⟨rfl, by rw [ST.out hv]; rfl⟩)
                        · have hlo : 103 ≤ a := by omega
                          have g48 : (48 : Int) ≤ (a : Int) := by omega
                          have g97 : (97 : Int) ≤ (a : Int) := by omega
                          have g65 : (65 : Int) ≤ (a : Int) := by omega
                          have g99 : (99 : Int) ≤ (a : Int) := by omega
                          have g67 : (67 : Int) ≤ (a : Int) := by omega
                          have l57 : ¬ (a : Int) ≤ 57 := by omega
                          have l102 : ¬ (a : Int) ≤ 102 := by omega
                          have l70 : ¬ (a : Int) ≤ 70 := by omega
                          first
                            | (have hv : prefAt true k a = true := decide_eq_true (by have := HE.out; simp; try omega)
                               go_wp2_with fail
                               exact ⟨⟨trivial, k + 1, by simp, by omega, NX.out hv⟩, by simp only [intOf]; omega⟩)
                            | (have hv : prefAt true k a = false := decide_eq_false (by have := HE.out; simp; try omega)
                               go_wp2_with fail
                               go_ret
                               exact ⟨rfl, by rw [ST.out hv]; rfl⟩)
        | false =>
          by_cases s0 : a ≤ 47
          · have g48 : ¬ (48 : Int) ≤ (a : Int) := by omega
            have g97 : ¬ (97 : Int) ≤ (a : Int) := by omega
            have g65 : ¬ (65 : Int) ≤ (a : Int) := by omega
            have g99 : ¬ (99 : Int) ≤ (a : Int) := by omega
            have g67 : ¬ (67 : Int) ≤ (a : Int) := by omega
            have l57 : (a : Int) ≤ 57 := by omega
            have l102 : (a : Int) ≤ 102 := by omega
            have l70 : (a : Int) ≤ 70 := by omega
            first
              | (have hv : prefAt false k a = true := decide_eq_true (by have := HE.out; simp; try omega)
                 go_wp2_with fail
                 exact ⟨⟨trivial, k + 1, by simp, by omega, NX.out hv⟩, by simp only [intOf]; omega⟩)
              | (have hv : prefAt false k a = false := decide_eq_false (by have := HE.out; simp; try omega)
                 go_wp2_with fail
                 go_ret
                 exact ⟨rfl, by rw [ST.out hv]; rfl⟩)
          · by_cases s1 : a ≤ 57
            · have hlo : 48 ≤ a := by omega
              have g48 : (48 : Int) ≤ (a : Int) := by omega
              have g97 : ¬ (97 : Int) ≤ (a : Int) := by omega
              have g65 : ¬ (65 : Int) ≤ (a : Int) := by omega
              have g99 : ¬ (99 : Int) ≤ (a : Int) := by omega
              have g67 : ¬ (67 : Int) ≤ (a : Int) := by omega
              have l57 : (a : Int) ≤ 57 := by omega
              have l102 : (a : Int) ≤ 102 := by omega
              have l70 : (a : Int) ≤ 70 := by omega
              first
                | (have hv : prefAt false k a = true := decide_eq_true (by have := HE.out; simp; try omega)
                   go_wp2_with fail
                   exact ⟨⟨trivial, k + 1, by simp, by omega, NX.out hv⟩, by simp only [intOf]; omega⟩)
                | (have hv : prefAt false k a = false := decide_eq_false (by have := HE.out; simp; try omega)
                   go_wp2_with fail
                   go_ret
                   exact ⟨rfl, by rw [ST.out hv]; rfl⟩)
            · by_cases s2 : a ≤ 64
              · have hlo : 58 ≤ a := by omega
                have g48 : (48 : Int) ≤ (a : Int) := by omega
                have g97 : ¬ (97 : Int) ≤ (a : Int) := by omega
                have g65 : ¬ (65 : Int) ≤ (a : Int) := by omega
                have g99 : ¬ (99 : Int) ≤ (a : Int) := by omega
                have g67 : ¬ (67 : Int) ≤ (a : Int) := by omega
                have l57 : ¬ (a : Int) ≤ 57 := by omega
                have l102 : (a : Int) ≤ 102 := by omega
                have l70 : (a : Int) ≤ 70 := by omega
                first
                  | (have hv : prefAt false k a = true := decide_eq_true (by have := HE.out; simp; try omega)
                     go_wp2_with fail
                     exact ⟨⟨trivial, k + 1, by simp, by omega, NX.out hv⟩, by simp only [intOf]; omega⟩)
                  | (have hv : prefAt false k a = false := decide_eq_false (by have := HE.out; simp; try omega)
                     go_wp2_with fail
                     go_ret
                     exact ⟨rfl, by rw [ST.out hv]; rfl⟩)
              · by_cases s3 : a ≤ 66
                · have hlo : 65 ≤ a := by omega
                  have g48 : (48 : Int) ≤ (a : Int) := by omega
                  have g97 : ¬ (97 : Int) ≤ (a : Int) := by omega
                  have g65 : (65 : Int) ≤ (a : Int) := by omega
                  have g99 : ¬ (99 : Int) ≤ (a : Int) := by omega
                  have g67 : ¬ (67 : Int) ≤ (a : Int) := by omega
                  have l57 : ¬ (a : Int) ≤ 57 := by omega
                  have l102 : (a : Int) ≤ 102 := by omega
                  have l70 : (a : Int) ≤ 70 := by omega
                  first
                    | (have hv : prefAt false k a = true := decide_eq_true (by have := HE.out; simp; try omega)
                       go_wp2_with fail
                       exact ⟨⟨trivial, k + 1, by simp, by omega, NX.out hv⟩, by simp only [intOf]; omega⟩)
                    | (have hv : prefAt false k a = false := decide_eq_false (by have := HE.out; simp; try omega)
                       go_wp2_with fail
                       go_ret
                       exact ⟨rfl, by rw [ST.out hv]; rfl⟩)
                · by_cases s4 : a ≤ 70
                  · have hlo : 67 ≤ a := by omega
                    have g48 : (48 : Int) ≤ (a : Int) := by omega
                    have g97 : ¬ (97 : Int) ≤ (a : Int) := by omega
                    have g65 : (65 : Int) ≤ (a : Int) := by omega
                    have g99 : ¬ (99 : Int) ≤ (a : Int) := by omega
                    have g67 : (67 : Int) ≤ (a : Int) := by omega
                    have l57 : ¬ (a : Int) ≤ 57 := by omega
                    have l102 : (a : Int) ≤ 102 := by omega
                    have l70 : (a : Int) ≤ 70 := by omega
                    first
                      | (have hv : prefAt false k a = true := decide_eq_true (by have := HE.out; simp; try omega)
                         go_wp2_with fail
                         exact ⟨⟨trivial, k + 1, by simp, by omega, NX.out hv⟩, by simp only [intOf]; omega⟩)
                      | (have hv : prefAt false k a = false := decide_eq_false (by have := HE.out; simp; try omega)
                         go_wp2_with fail
                         go_ret
                         exact ⟨rfl, by rw [ST.out hv]; rfl⟩)
                  · by_cases s5 : a ≤ 96
                    · have hlo : 71 ≤ a := by omega
                      have g48 : (48 : Int) ≤ (a : Int) := by omega
                      have g97 : ¬ (97 : Int) ≤ (a : Int) := by omega
                      have g65 : (65 : Int) ≤ (a : Int) := by omega
                      have g99 : ¬ (99 : Int) ≤ (a : Int) := by omega
                      have g67 : (67 : Int) ≤ (a : Int) := by omega
                      have l57 : ¬ (a : Int) ≤ 57 := by omega
                      have l102 : (a : Int) ≤ 102 := by omega
                      have l70 : ¬ (a : Int) ≤ 70 := by omega
                      first
                        | (have hv : prefAt false k a = true := decide_eq_true (by have := HE.out; simp; try omega)
                           go_wp2_with fail
                           exact ⟨⟨trivial, k + 1, by simp, by omega, NX.out hv⟩, by simp only [intOf]; omega⟩)
                        | (have hv : prefAt false k a = false := decide_eq_false (by have := HE.out; simp; try omega)
                           go_wp2_with fail
                           go_ret
                           exact ⟨rfl, by rw [ST.out hv]; rfl⟩)
                    · by_cases s6 : a ≤ 98
                      · have hlo : 97 ≤ a := by omega
                        have g48 : (48 : Int) ≤ (a : Int) := by omega
                        have g97 : (97 : Int) ≤ (a : Int) := by omega
                        have g65 : (65 : Int) ≤ (a : Int) := by omega
                        have g99 : ¬ (99 : Int) ≤ (a : Int) := by omega
                        have g67 : (67 : Int) ≤ (a : Int) := by omega
                        have l57 : ¬ (a : Int) ≤ 57 := by omega
                        have l102 : (a : Int) ≤ 102 := by omega
                        have l70 : ¬ (a : Int) ≤ 70 := by omega
                        first
                          | (have hv : prefAt false k a = true := decide_eq_true (by have := HE.out; simp; try omega)
                             go_wp2_with fail
                             exact ⟨⟨trivial, k + 1, by simp, by omega, NX.out hv⟩, by simp only [intOf]; omega⟩)
                          | (have hv : prefAt false k a = false := decide_eq_false (by have := HE.out; simp; try omega)
                             go_wp2_with fail
                             go_ret
                             exact ⟨rfl, by rw [ST.out hv]; rfl⟩)
                      · by_cases s7 : a ≤ 102
                        · have hlo : 99 ≤ a := by omega
                          have g48 : (48 : Int) ≤ (a : Int) := by omega
                          have g97 : (97 : Int) ≤ (a : Int) := by omega
                          have g65 : (65 : Int) ≤ (a : Int) := by omega
                          have g99 : (99 : Int) ≤ (a : Int) := by omega
                          have g67 : (67 : Int) ≤ (a : Int) := by omega
                          have l57 : ¬ (a : Int) ≤ 57 := by omega
                          have l102 : (a : Int) ≤ 102 := by omega
                          have l70 : ¬ (a : Int) ≤ 70 := by omega
                          first
                            | (have hv : prefAt false k a = true := decide_eq_true (by have := HE.out; simp; try omega)
                               go_wp2_with fail
                               exact ⟨⟨trivial, k + 1, by simp, by omega, NX.out hv⟩, by simp only [intOf]; omega⟩)
                            | (have hv : prefAt false k a = false := decide_eq_false (by have := HE.out; simp; try omega)
                               go_wp2_with fail
                               go_ret
                               exact ⟨rfl, by rw [ST.out hv]; rfl⟩)
                        · have hlo : 103 ≤ a := by omega
                          have g48 : (48 : Int) ≤ (a : Int) := by omega
                          have g97 : (97 : Int) ≤ (a : Int) := by omega
                          have g65 : (65 : Int) ≤ (a : Int) := by omega
                          have g99 : (99 : Int) ≤ (a : Int) := by omega
                          have g67 : (67 : Int) ≤ (a : Int) := by omega
                          have l57 : ¬ (a : Int) ≤ 57 := by omega
                          have l102 : ¬ (a : Int) ≤ 102 := by omega
                          have l70 : ¬ (a : Int) ≤ 70 := by omega
                          first
                            | (have hv : prefAt false k a = true := decide_eq_true (by have := HE.out; simp; try omega)
                               go_wp2_with fail
                               exact ⟨⟨trivial, k + 1, by simp, by omega, NX.out hv⟩, by simp only [intOf]; omega⟩)
                            | (have hv : prefAt false k a = false := decide_eq_false (by have := HE.out; simp; try omega)
                               go_wp2_with fail
                               go_ret
                               exact ⟨rfl, by rw [ST.out hv]; rfl⟩)
      · have k0 : ((k : Int) == 0) = false := by rw [beq_eq_false_iff_ne]; omega
        have k1 : ((k : Int) == 1) = false := by rw [beq_eq_false_iff_ne]; omega
        have k2 : ((k : Int) == 2) = false := by rw [beq_eq_false_iff_ne]; omega
        have k3 : ((k : Int) == 3) = false := by rw [beq_eq_false_iff_ne]; omega
        have k4 : (2 : Int) ≤ (k : Int) := by omega
        have k5 : (k : Int) < 6 := by omega
        have HE := Lib.hid e0
        clear e0
        by_cases s0 : a ≤ 47
        · have g48 : ¬ (48 : Int) ≤ (a : Int) := by omega
          have g97 : ¬ (97 : Int) ≤ (a : Int) := by omega
          have g65 : ¬ (65 : Int) ≤ (a : Int) := by omega
          have g99 : ¬ (99 : Int) ≤ (a : Int) := by omega
          have g67 : ¬ (67 : Int) ≤ (a : Int) := by omega
          have l57 : (a : Int) ≤ 57 := by omega
          have l102 : (a : Int) ≤ 102 := by omega
          have l70 : (a : Int) ≤ 70 := by omega
          first
            | (have hv : prefAt lower k a = true := decide_eq_true (by have := HE.out; simp; try omega)
               go_wp2_with fail
               exact ⟨⟨trivial, k + 1, by simp, by omega, NX.out hv⟩, by simp only [intOf]; omega⟩)
            | (have hv : prefAt lower k a = false := decide_eq_false (by have := HE.out; simp; try omega)
               go_wp2_with fail
               go_ret
               exact ⟨rfl, by rw [ST.out hv]; rfl⟩)
        · by_cases s1 : a ≤ 57
          · have hlo : 48 ≤ a := by omega
            have g48 : (48 : Int) ≤ (a : Int) := by omega
            have g97 : ¬ (97 : Int) ≤ (a : Int) := by omega
            have g65 : ¬ (65 : Int) ≤ (a : Int) := by omega
            have g99 : ¬ (99 : Int) ≤ (a : Int) := by omega
            have g67 : ¬ (67 : Int) ≤ (a : Int) := by omega
            have l57 : (a : Int) ≤ 57 := by omega
            have l102 : (a : Int) ≤ 102 := by omega
            have l70 : (a : Int) ≤ 70 := by omega
            first
              | (have hv : prefAt lower k a = true := decide_eq_true (by have := HE.out; simp; try omega)
                 go_wp2_with fail
                 exact ⟨⟨trivial, k + 1, by simp, by omega, NX.out hv⟩, by simp only [intOf]; omega⟩)
              | (have hv : prefAt lower k a = false := decide_eq_false (by have := HE.out; simp; try omega)
                 go_wp2_with fail
                 go_ret
                 exact ⟨rfl, by rw [ST.out hv]; rfl⟩)
          · by_cases s2 : a ≤ 64
            · have hlo : 58 ≤ a := by omega
              have g48 : (48 : Int) ≤ (a : Int) := by omega
              have g97 : ¬ (97 : Int) ≤ (a : Int) := by omega
              have g65 : ¬ (65 : Int) ≤ (a : Int) := by omega
              have g99 : ¬ (99 : Int) ≤ (a : Int) := by omega
              have g67 : ¬ (67 : Int) ≤ (a : Int) := by omega
              have l57 : ¬ (a : Int) ≤ 57 := by omega
              have l102 : (a : Int) ≤ 102 := by omega
              have l70 : (a : Int) ≤ 70 := by omega
              first
                | (have hv : prefAt lower k a = true := decide_eq_true (by have := HE.out; simp; try omega)
                   go_wp2_with fail
                   exact ⟨⟨trivial, k + 1, by simp, by omega, NX.out hv⟩, by simp only [intOf]; omega⟩)
                | (have hv : prefAt lower k a = false := decide_eq_false (by have := HE.out; simp; try omega)
                   go_wp2_with fail
                   go_ret
                   exact ⟨rfl, by rw [ST.out hv]; rfl⟩)
            · by_cases s3 : a ≤ 66
              · have hlo : 65 ≤ a := by omega
                have g48 : (48 : Int) ≤ (a : Int) := by omega
                have g97 : ¬ (97 : Int) ≤ (a : Int) := by omega
                have g65 : (65 : Int) ≤ (a : Int) := by omega
                have g99 : ¬ (99 : Int) ≤ (a : Int) := by omega
                have g67 : ¬ (67 : Int) ≤ (a : Int) := by omega
                have l57 : ¬ (a : Int) ≤ 57 := by omega
                have l102 : (a : Int) ≤ 102 := by omega
                have l70 : (a : Int) ≤ 70 := by omega
                first
                  | (have hv : prefAt lower k a = true := decide_eq_true (by have := HE.out; simp; try omega)
                     go_wp2_with fail
                     exact ⟨⟨trivial, k + 1, by simp, by omega, NX.out hv⟩, by simp only [intOf]; omega⟩)
                  | (have hv : prefAt lower k a = false := decide_eq_false (by have := HE.out; simp; try omega)
                     go_wp2_with fail
                     go_ret
                     exact ⟨rfl, by rw [ST.out hv]; rfl⟩)
              · by_cases s4 : a ≤ 70
                · have hlo : 67 ≤ a := by omega
                  have g48 : (48 : Int) ≤ (a : Int) := by omega
                  have g97 : ¬ (97 : Int) ≤ (a : Int) := by omega
                  have g65 : (65 : Int) ≤ (a : Int) := by omega
                  have g99 : ¬ (99 : Int) ≤ (a : Int) := by omega
                  have g67 : (67 : Int) ≤ (a : Int) := by omega
                  have l57 : ¬ (a : Int) ≤ 57 := by omega
                  have l102 : (a : Int) ≤ 102 := by omega
                  have l70 : (a : Int) ≤ 70 := by omega
                  first
                    | (have hv : prefAt lower k a = true := decide_eq_true (by have := HE.out; simp; try omega)
                       go_wp2_with fail
                       exact ⟨⟨trivial, k + 1, by simp, by omega, NX.out hv⟩, by simp only [intOf]; omega⟩)
                    | (have hv : prefAt lower k a = false := decide_eq_false (by have := HE.out; simp; try omega)
                       go_wp2_with fail
                       go_ret
                       exact ⟨rfl, by rw [ST.out hv]; rfl⟩)
                · by_cases s5 : a ≤ 96
                  · have hlo : 71 ≤ a := by omega
                    have g48 : (48 : Int) ≤ (a : Int) := by omega
                    have g97 : ¬ (97 : Int) ≤ (a : Int) := by omega
                    have g65 : (65 : Int) ≤ (a : Int) := by omega
                    have g99 : ¬ (99 : Int) ≤ (a : Int) := by omega
                    have g67 : (67 : Int) ≤ (a : Int) := by omega
                    have l57 : ¬ (a : Int) ≤ 57 := by omega
                    have l102 : (a : Int) ≤ 102 := by omega
                    have l70 : ¬ (a : Int) ≤ 70 := by omega
                    first
                      | (have hv : prefAt lower k a = true := decide_eq_true (by have := HE.out; simp; try omega)
                         go_wp2_with fail
                         exact ⟨⟨trivial, k + 1, by simp, by omega, NX.out hv⟩, by simp only [intOf]; omega⟩)
                      | (have hv : prefAt lower k a = false := decide_eq_false (by have := HE.out; simp; try omega)
                         go_wp2_with fail
                         go_ret
                         exact ⟨rfl, by rw [ST.out hv]; rfl⟩)
                  · by_cases s6 : a ≤ 98
                    · have hlo : 97 ≤ a := by omega
                      have g48 : (48 : Int) ≤ (a : Int) := by omega
                      have g97 : (97 : Int) ≤ (a : Int) := by omega
                      have g65 : (65 : Int) ≤ (a : Int) := by omega
                      have g99 : ¬ (99 : Int) ≤ (a : Int) := by omega
                      have g67 : (67 : Int) ≤ (a : Int) := by omega
                      have l57 : ¬ (a : Int) ≤ 57 := by omega
                      have l102 : (a : Int) ≤ 102 := by omega
                      have l70 : ¬ (a : Int) ≤ 70 := by omega
                      first
                        | (have hv : prefAt lower k a = true := decide_eq_true (by have := HE.out; simp; try omega)
                           go_wp2_with fail
                           exact ⟨⟨trivial, k + 1, by simp, by omega, NX.out hv⟩, by simp only [intOf]; omega⟩)
                        | (have hv : prefAt lower k a = false := decide_eq_false (by have := HE.out; simp; try omega)
                           go_wp2_with fail
                           go_ret
                           exact ⟨rfl, by rw [ST.out hv]; rfl⟩)
                    · by_cases s7 : a ≤ 102
                      · have hlo : 99 ≤ a := by omega
                        have g48 : (48 : Int) ≤ (a : Int) := by omega
                        have g97 : (97 : Int) ≤ (a : Int) := by omega
                        have g65 : (65 : Int) ≤ (a : Int) := by omega
                        have g99 : (99 : Int) ≤ (a : Int) := by omega
                        have g67 : (67 : Int) ≤ (a : Int) := by omega
                        have l57 : ¬ (a : Int) ≤ 57 := by omega
                        have l102 : (a : Int) ≤ 102 := by omega
                        have l70 : ¬ (a : Int) ≤ 70 := by omega
                        first
                          | (have hv : prefAt lower k a = true := decide_eq_true (by have := HE.out; simp; try omega)
                             go_wp2_with fail
                             exact ⟨⟨trivial, k + 1, by simp, by omega, NX.out hv⟩, by simp only [intOf]; omega⟩)
                          | (have hv : prefAt lower k a = false := decide_eq_false (by have := HE.out; simp; try omega)
                             go_wp2_with fail
                             go_ret
                             exact ⟨rfl, by rw [ST.out hv]; rfl⟩)
                      · have hlo : 103 ≤ a := by omega
                        have g48 : (48 : Int) ≤ (a : Int) := by omega
                        have g97 : (97 : Int) ≤ (a : Int) := by omega
                        have g65 : (65 : Int) ≤ (a : Int) := by omega
                        have g99 : (99 : Int) ≤ (a : Int) := by omega
                        have g67 : (67 : Int) ≤ (a : Int) := by omega
                        have l57 : ¬ (a : Int) ≤ 57 := by omega
                        have l102 : ¬ (a : Int) ≤ 102 := by omega
                        have l70 : ¬ (a : Int) ≤ 70 := by omega
                        first
                          | (have hv : prefAt lower k a = true := decide_eq_true (by have := HE.out; simp; try omega)
                             go_wp2_with fail
                             exact ⟨⟨trivial, k + 1, by simp, by omega, NX.out hv⟩, by simp only [intOf]; omega⟩)
                          | (have hv : prefAt lower k a = false := decide_eq_false (by have := HE.out; simp; try omega)
                             go_wp2_with fail
                             go_ret
                             exact ⟨rfl, by rw [ST.out hv]; rfl⟩)
      · have k0 : ((k : Int) == 0) = false := by rw [beq_eq_false_iff_ne]; omega
        have k1 : ((k : Int) == 1) = false := by rw [beq_eq_false_iff_ne]; omega
        have k2 : ((k : Int) == 2) = false := by rw [beq_eq_false_iff_ne]; omega
        have k3 : ((k : Int) == 3) = false := by rw [beq_eq_false_iff_ne]; omega
        have k4 : (2 : Int) ≤ (k : Int) := by omega
        have k5 : (k : Int) < 6 := by omega
        have HE := Lib.hid e0
        clear e0
        by_cases s0 : a ≤ 47
        · have g48 : ¬ (48 : Int) ≤ (a : Int) := by omega
          have g97 : ¬ (97 : Int) ≤ (a : Int) := by omega
          have g65 : ¬ (65 : Int) ≤ (a : Int) := by omega
          have g99 : ¬ (99 : Int) ≤ (a : Int) := by omega
          have g67 : ¬ (67 : Int) ≤ (a : Int) := by omega
          have l57 : (a : Int) ≤ 57 := by omega
          have l102 : (a : Int) ≤ 102 := by omega
          have l70 : (a : Int) ≤ 70 := by omega
          first
            | (have hv : prefAt lower k a = true := decide_eq_true (by have := HE.out; simp; try omega)
               go_wp2_with fail
               exact ⟨⟨trivial, k + 1, by simp, by omega, NX.out hv⟩, by simp only [intOf]; omega⟩)
            | (have hv : prefAt lower k a = false := decide_eq_false (by have := HE.out; simp; try omega)
               go_wp2_with fail
               go_ret
               exact ⟨rfl, by rw [ST.out hv]; rfl⟩)
        · by_cases s1 : a ≤ 57
          · have hlo : 48 ≤ a := by omega
            have g48 : (48 : Int) ≤ (a : Int) := by omega
            have g97 : ¬ (97 : Int) ≤ (a : Int) := by omega
            have g65 : ¬ (65 : Int) ≤ (a : Int) := by omega
            have g99 : ¬ (99 : Int) ≤ (a : Int) := by omega
            have g67 : ¬ (67 : Int) ≤ (a : Int) := by omega
            have l57 : (a : Int) ≤ 57 := by omega
            have l102 : (a : Int) ≤ 102 := by omega
            have l70 : (a : Int) ≤ 70 := by omega
            first
              | (have hv : prefAt lower k a = true := decide_eq_true (by have := HE.out; simp; try omega)
                 go_wp2_with fail
                 exact ⟨⟨trivial, k + 1, by simp, by omega, NX.out hv⟩, by simp only [intOf]; omega⟩)
              | (have hv : prefAt lower k a = false := decide_eq_false (by have := HE.out; simp; try omega)
                 go_wp2_with fail
                 go_ret
                 exact ⟨rfl, by rw [ST.out hv]; rfl⟩)
          · by_cases s2 : a ≤ 64
            · have hlo : 58 ≤ a := by omega
              have g48 : (48 : Int) ≤ (a : Int) := by omega
              have g97 : ¬ (97 : Int) ≤ (a : Int) := by omega
              have g65 : ¬ (65 : Int) ≤ (a : Int) := by omega
              have g99 : ¬ (99 : Int) ≤ (a : Int) := by omega
              have g67 : ¬ (67 : Int) ≤ (a : Int) := by omega
              have l57 : ¬ (a : Int) ≤ 57 := by omega
              have l102 : (a : Int) ≤ 102 := by omega
              have l70 : (a : Int) ≤ 70 := by omega
              first
                | (have hv : prefAt lower k a = true := decide_eq_true (by have := HE.out; simp; try omega)
                   go_wp2_with fail
                   exact ⟨⟨trivial, k + 1, by simp, by omega, NX.out hv⟩, by simp only [intOf]; omega⟩)
                | (have hv : prefAt lower k a = false := decide_eq_false (by have := HE.out; simp; try omega)
                   go_wp2_with fail
                   go_ret
                   exact ⟨rfl, by rw [ST.out hv]; rfl⟩)
            · by_cases s3 : a ≤ 66
              · have hlo : 65 ≤ a := by omega
                have g48 : (48 : Int) ≤ (a : Int) := by omega
                have g97 : ¬ (97 : Int) ≤ (a : Int) := by omega
                have g65 : (65 : Int) ≤ (a : Int) := by omega
                have g99 : ¬ (99 : Int) ≤ (a : Int) := by omega
                have g67 : ¬ (67 : Int) ≤ (a : Int) := by omega
                have l57 : ¬ (a : Int) ≤ 57 := by omega
                have l102 : (a : Int) ≤ 102 := by omega
                have l70 : (a : Int) ≤ 70 := by omega
                first
                  | (have hv : prefAt lower k a = true := decide_eq_true (by have := HE.out; simp; try omega)
                     go_wp2_with fail
                     exact ⟨⟨trivial, k + 1, by simp, by omega, NX.out hv⟩, by simp only [intOf]; omega⟩)
                  | (have hv : prefAt lower k a = false := decide_eq_false (by have := HE.out; simp; try omega)
                     go_wp2_with fail
                     go_ret
                     exact ⟨rfl, by rw [ST.out hv]; rfl⟩)
              · by_cases s4 : a ≤ 70
                · have hlo : 67 ≤ a := by omega
                  have g48 : (48 : Int) ≤ (a : Int) := by omega
                  have g97 : ¬ (97 : Int) ≤ (a : Int) := by omega
                  have g65 : (65 : Int) ≤ (a : Int) := by omega
                  have g99 : ¬ (99 : Int) ≤ (a : Int) := by omega
                  have g67 : (67 : Int) ≤ (a : Int) := by omega
                  have l57 : ¬ (a : Int) ≤ 57 := by omega
                  have l102 : (a : Int) ≤ 102 := by omega
                  have l70 : (a : Int) ≤ 70 := by omega
                  first
                    | (have hv : prefAt lower k a = true := decide_eq_true (by have := HE.out; simp; try omega)
                       go_wp2_with fail
                       exact ⟨⟨trivial, k + 1, by simp, by omega, NX.out hv⟩, by simp only [intOf]; omega⟩)
                    | (have hv : prefAt lower k a = false := decide_eq_false (by have := HE.out; simp; try omega)
                       go_wp2_with fail
                       go_ret
                       exact ⟨rfl, by rw [ST.out hv]; rfl⟩)
                · by_cases s5 : a ≤ 96
                  · have hlo : 71 ≤ a := by omega
                    have g48 : (48 : Int) ≤ (a : Int) := by omega
                    have g97 : ¬ (97 : Int) ≤ (a : Int) := by omega
                    have g65 : (65 : Int) ≤ (a : Int) := by omega
                    have g99 : ¬ (99 : Int) ≤ (a : Int) := by omega
                    have g67 : (67 : Int) ≤ (a : Int) := by omega
                    have l57 : ¬ (a : Int) ≤ 57 := by omega
                    have l102 : (a : Int) ≤ 102 := by omega
                    have l70 : ¬ (a : Int) ≤ 70 := by omega
                    first
                      | (have hv : prefAt lower k a = true := decide_eq_true (by have := HE.out; simp; try omega)
                         go_wp2_with fail
                         exact ⟨⟨trivial, k + 1, by simp, by omega, NX.out hv⟩, by simp only [intOf]; omega⟩)
                      | (have hv : prefAt lower k a = false := decide_eq_false (by have := HE.out; simp; try omega)
                         go_wp2_with fail
                         go_ret
                         exact ⟨rfl, by rw [ST.out hv]; rfl⟩)
                  · by_cases s6 : a ≤ 98
                    · have hlo : 97 ≤ a := by omega
                      have g48 : (48 : Int) ≤ (a : Int) := by omega
                      have g97 : (97 : Int) ≤ (a : Int) := by omega
                      have g65 : (65 : Int) ≤ (a : Int) := by omega
                      have g99 : ¬ (99 : Int) ≤ (a : Int) := by omega
                      have g67 : (67 : Int) ≤ (a : Int) := by omega
                      have l57 : ¬ (a : Int) ≤ 57 := by omega
                      have l102 : (a : Int) ≤ 102 := by omega
                      have l70 : ¬ (a : Int) ≤ 70 := by omega
                      first
                        | (have hv : prefAt lower k a = true := decide_eq_true (by have := HE.out; simp; try omega)
                           go_wp2_with fail
                           exact ⟨⟨trivial, k + 1, by simp, by omega, NX.out hv⟩, by simp only [intOf]; omega⟩)
                        | (have hv : prefAt lower k a = false := decide_eq_false (by have := HE.out; simp; try omega)
                           go_wp2_with fail
                           go_ret
                           exact ⟨rfl, by rw [ST.out hv]; rfl⟩)
                    · by_cases s7 : a ≤ 102
                      · have hlo : 99 ≤ a := by omega
                        have g48 : (48 : Int) ≤ (a : Int) := by omega
                        have g97 : (97 : Int) ≤ (a : Int) := by omega
                        have g65 : (65 : Int) ≤ (a : Int) := by omega
                        have g99 : (99 : Int) ≤ (a : Int) := by omega
                        have g67 : (67 : Int) ≤ (a : Int) := by omega
                        have l57 : ¬ (a : Int) ≤ 57 := by omega
                        have l102 : (a : Int) ≤ 102 := by omega
                        have l70 : ¬ (a : Int) ≤ 70 := by omega
                        first
                          | (have hv : prefAt lower k a = true := decide_eq_true (by have := HE.out; simp; try omega)
                             go_wp2_with fail
                             exact ⟨⟨trivial, k + 1, by simp, by omega, NX.out hv⟩, by simp only [intOf]; omega⟩)
                          | (have hv : prefAt lower k a = false := decide_eq_false (by have := HE.out; simp; try omega)
                             go_wp2_with fail
                             go_ret
                             exact ⟨rfl, by rw [ST.out hv]; rfl⟩)
                      · have hlo : 103 ≤ a := by omega
                        have g48 : (48 : Int) ≤ (a : Int) := by omega
                        have g97 : (97 : Int) ≤ (a : Int) := by omega
                        have g65 : (65 : Int) ≤ (a : Int) := by omega
                        have g99 : (99 : Int) ≤ (a : Int) := by omega
                        have g67 : (67 : Int) ≤ (a : Int) := by omega
                        have l57 : ¬ (a : Int) ≤ 57 := by omega
                        have l102 : ¬ (a : Int) ≤ 102 := by omega
                        have l70 : ¬ (a : Int) ≤ 70 := by omega
                        first
                          | (have hv : prefAt lower k a = true := decide_eq_true (by have := HE.out; simp; try omega)
                             go_wp2_with fail
                             exact ⟨⟨trivial, k + 1, by simp, by omega, NX.out hv⟩, by simp only [intOf]; omega⟩)
                          | (have hv : prefAt lower k a = false := decide_eq_false (by have := HE.out; simp; try omega)
                             go_wp2_with fail
                             go_ret
                             exact ⟨rfl, by rw [ST.out hv]; rfl⟩)
    · obtain rfl : k = l.length := by omega
      have hv := prefB_true HA.out
      have HV := Lib.hid hv
      clear hv
      go_wp2_with fail
      go_ret
      exact ⟨rfl, by rw [HV.out]; rfl⟩

end Go.Proofs.YtifemmjblamfkaaDoor.Wire
