/- Reading a number that may go on later, from the whole part on. -/
import Derived.Test.YtifemmjblamfkaaDoorCnrF
namespace Go.Proofs.YtifemmjblamfkaaDoor
open Go.RowKit

set_option maxRecDepth 100000 in
set_option maxHeartbeats 8000000 in
theorem int_tail (l : List UInt8) (b cap st : Nat) (eofV : Value) (w : World) (hl : l.length ≤ 4000) (hcap : l.length ≤ cap) (hB : Bytes w b 0 l) (hbw : b < w.heap.size) (hT : Lib.Utf8Tabs 2 3 w) (hg : w.cell? ⟨0, 0, none⟩ = some eofV)
    {c : Code} (hf : findLabel (scopeOf Tryd.f13) 0 = some (.seq .skip c)) {u1 u3 u4 u5 u7 u8 u9 u10 u11 u12 u13 u14 u15 u16 u17 u18 u19 u20 u21 u22 u23 u24 u25 u26 u27 u28 u29 u30 u31 u32 u33 u34 u35 u36 u37 u38 u39 u40 u41 u42 u43 u44 u45 u46 u47 u48 u49 u50 u51 u52 u53 u54 u55 u56 u57 u58 u59 u60 u61 u62 u63 u64 u65 u66 u67 u68 u69 u70 u71 u72 u73 u74 u75 u76 u77 u78 u79 u80 u81 u82 u83 u84 u85 u86 u87 u88 u89 u90 u91 u92 u93 u94 u95 u96 u97 u98 u99 u100 u101 u102 u103 u104 u105 u106 u107 u108 u109 u110 u111 u112 u113 u114 u115 u116 u117 u118 u119 u120 u121 u122 u123 u124 u125 u126 u127 u128 u129 u130 u131 u132 u133 u134 u135 u136 u137 u138 u139 u140 u141 u142 u143 u144 u145 u146 u147 u148 u149 u150 u151 u152 u153 u154 u155 u156 u157 u158 u159 u160 u161 u162 u163 u164 u165 u166 u167 u168 u169 u170 u171 u172 u173 u174 u175 u176 u177 u178 u179 u180 u181 u182 u183 u184 u185 u186 u187 u188 u189 u190 u191 u192 u193 u194 u195 u196 u197 u198 u199 u200 u201 u202 u203 u204 u205 u206 u207 u208 u209 u210 u211 u212 u213 u214 u215 u216 u217 u218 u219 u220 u221 u222 u223 u224 u225 u226 u227 u228 u229 u230 u231 u232 u233 u234 u235 u236 u237 u238 u239 u240 u241 u242 u243 u244 u245 u246 u247 u248 u249 u250 u251 u252 u253 u254 u255 u256 u257 u258 u259 u260 u261 u262 u263 u264 u265 u266 u267 u268 u269 u270 u271 u272 u273 u274 u275 u276 u277 u278 u279 u280 u281 u282 u283 u284 u285 u286 u287 u288 u289 u290 u291 u292 u293 u294 u295 u296 u297 : Value} :
    Code.wp Tryd.prog c (Exit.noGoto (bodyPost Tryd.prog Tryd.f13 (CnRes w eofV (cInt l st)))) { tmps := #[.slice (some ⟨b, 0, none⟩) l.length cap, u1, .int .u64 ((st : Nat) : Int), u3, u4, u5, .int .i64 0, u7, u8, u9, u10, u11, u12, u13, u14, u15, u16, u17, u18, u19, u20, u21, u22, u23, u24, u25, u26, u27, u28, u29, u30, u31, u32, u33, u34, u35, u36, u37, u38, u39, u40, u41, u42, u43, u44, u45, u46, u47, u48, u49, u50, u51, u52, u53, u54, u55, u56, u57, u58, u59, u60, u61, u62, u63, u64, u65, u66, u67, u68, u69, u70, u71, u72, u73, u74, u75, u76, u77, u78, u79, u80, u81, u82, u83, u84, u85, u86, u87, u88, u89, u90, u91, u92, u93, u94, u95, u96, u97, u98, u99, u100, u101, u102, u103, u104, u105, u106, u107, u108, u109, u110, u111, u112, u113, u114, u115, u116, u117, u118, u119, u120, u121, u122, u123, u124, u125, u126, u127, u128, u129, u130, u131, u132, u133, u134, u135, u136, u137, u138, u139, u140, u141, u142, u143, u144, u145, u146, u147, u148, u149, u150, u151, u152, u153, u154, u155, u156, u157, u158, u159, u160, u161, u162, u163, u164, u165, u166, u167, u168, u169, u170, u171, u172, u173, u174, u175, u176, u177, u178, u179, u180, u181, u182, u183, u184, u185, u186, u187, u188, u189, u190, u191, u192, u193, u194, u195, u196, u197, u198, u199, u200, u201, u202, u203, u204, u205, u206, u207, u208, u209, u210, u211, u212, u213, u214, u215, u216, u217, u218, u219, u220, u221, u222, u223, u224, u225, u226, u227, u228, u229, u230, u231, u232, u233, u234, u235, u236, u237, u238, u239, u240, u241, u242, u243, u244, u245, u246, u247, u248, u249, u250, u251, u252, u253, u254, u255, u256, u257, u258, u259, u260, u261, u262, u263, u264, u265, u266, u267, u268, u269, u270, u271, u272, u273, u274, u275, u276, u277, u278, u279, u280, u281, u282, u283, u284, u285, u286, u287, u288, u289, u290, u291, u292, u293, u294, u295, u296, u297], defers := [] } w := by
  have HB := Lib.hid hB
  have HT := Lib.hid hT
  obtain ⟨R, hR⟩ : ∃ R, cInt l st = R := ⟨_, rfl⟩
  rw [hR]
  have HR := Lib.hid hR
  clear hB hT hR
  simp only [scopeOf, Tryd.f13, findLabel, Nat.reduceBEq, reduceIte, Option.some.injEq, Code.seq.injEq, true_and] at hf
  subst hf
  dsimp only
  go_upto_region 18 with fail
  go_cut [68] (fun s wx => w = wx ∧ s = .bool (decide (seeB l (0) = 45)))
  case first =>
    as_aux_lemma =>
    by_cases hka : 0 < l.length
    · have hcca := HB.out.at0 (0) hka
      obtain ⟨ca, hca⟩ : ∃ ca : Nat, (l[0]'hka).toNat = ca := ⟨_, rfl⟩
      have HSca := Lib.hid (show seeB l (0) = (ca : Int) by rw [seeB_some (List.getElem?_eq_getElem hka), hca])
      rw [hca] at hcca
      have hltca : ca < 256 := by rw [← hca]; exact (l[0]'hka).toNat_lt
      clear hca
      have hi0a : (0 : Int) ≤ ((0 : Nat) : Int) := by omega
      have hi1a : ((0 : Nat) : Int) < (l.length : Int) := by omega
      by_cases ea45 : ca = 45
      · subst ea45
        go_wp2_with fail
        go_meet
        exact ⟨rfl, by rw [decide_eq_true (show seeB l (0) = 45 by rw [HSca.out]; omega)]⟩
      have na45 : ((ca : Int) == 45) = false := by rw [beq_eq_false_iff_ne]; omega
      have hno : ¬ (seeB l (0) = 45) := by rw [HSca.out]; omega
      have HNO := Lib.hid hno
      clear hno ea45
      go_wp2_with fail
      go_meet
      exact ⟨rfl, by rw [decide_eq_false HNO.out]⟩
    · have h0 := see_end (l := l) (k := 0) (by omega)
      have hno : ¬ (seeB l (0) = 45) := by rw [h0]; omega
      have HNO := Lib.hid hno
      clear hno h0
      go_wp2_with fail
      go_meet
      exact ⟨rfl, by rw [decide_eq_false HNO.out]⟩
  case rest =>
    obtain ⟨rfl, rfl⟩ := hcut
    go_upto_if 68 with fail
    go_cut [6] (fun s wx => w = wx ∧ s = .int .i64 ((signN l : Nat) : Int))
    case first =>
      as_aux_lemma =>
      by_cases hS : seeB l (0) = 45
      · rw [decide_eq_true hS]
        have HSG := Lib.hid (show signN l = 1 from if_pos hS)
        clear hS
        go_wp2_with fail
        go_meet
        exact ⟨rfl, by rw [HSG.out]; go_num⟩
      · rw [decide_eq_false hS]
        have HSG := Lib.hid (show signN l = 0 from if_neg hS)
        clear hS
        go_wp2_with fail
        go_meet
        exact ⟨rfl, by rw [HSG.out]; go_num⟩
    case rest =>
      obtain ⟨rfl, rfl⟩ := hcut
      have hsl := signN_len l
      have hrr := HR.out
      rw [cInt_sign] at hrr
      obtain ⟨k2, hk2⟩ : ∃ k2, signN l = k2 := ⟨_, rfl⟩
      rw [hk2] at hrr hsl ⊢
      have HRR := Lib.hid hrr
      clear hrr hk2
      by_cases h1 : l.length ≤ k2
      · as_aux_lemma =>
        have hrr := HRR.out
        rw [if_pos h1] at hrr
        subst hrr
        go_wp2_with fail
        go_big_quiet (fail)
        go_wp2_with fail
        (try rw [Exit.noGoto_ret])
        go_returns
        exact ⟨⟨_, rfl, fun e => (by cases e), fun _ => rfl, fun e => (by cases e)⟩, Below.drewNB _ _⟩
      · have hrr := HRR.out
        rw [if_neg h1] at hrr
        have HR2 := Lib.hid hrr
        clear hrr
        have hk : k2 < l.length := by omega
        have hcd := HB.out.at0 (k2) hk
        obtain ⟨d, hd⟩ : ∃ d : Nat, (l[k2]'hk).toNat = d := ⟨_, rfl⟩
        have HSd := Lib.hid (show seeB l (k2) = (d : Int) by rw [seeB_some (List.getElem?_eq_getElem hk), hd])
        rw [hd] at hcd
        have hltd : d < 256 := by rw [← hd]; exact (l[k2]'hk).toNat_lt
        clear hd
        have hi0 : (0 : Int) ≤ ((k2 : Nat) : Int) := by omega
        have hi1 : ((k2 : Nat) : Int) < (l.length : Int) := by omega
        by_cases h48 : d = 48
        · as_aux_lemma =>
          have hrr := HR2.out
          rw [if_pos (show seeB l k2 = 48 by rw [HSd.out]; omega)] at hrr
          have HR3 := Lib.hid hrr
          clear hrr
          subst h48
          go_wp2_with fail
          go_step3
          (try simp only [Exit.then])
          go_step
          rw [← HR3.out]
          exact frac_tail l b cap (k2 + 1) 3 eofV w hl hcap (by omega) HB.out hbw HT.out hg (by rfl)
        · have n48 : ((d : Int) == 48) = false := by rw [beq_eq_false_iff_ne]; omega
          by_cases hd : 49 ≤ d ∧ d ≤ 57
          · have hrr := HR2.out
            rw [if_neg (show ¬ seeB l k2 = 48 by rw [HSd.out]; omega), if_pos (show 49 ≤ seeB l (k2) ∧ seeB l (k2) ≤ 57 by rw [HSd.out]; omega)] at hrr
            have HR3 := Lib.hid hrr
            clear hrr
            have q1 : (49 : Int) ≤ (d : Int) := by omega
            have q2 : (d : Int) ≤ 57 := by omega
            go_wp2_with fail
            go_loop [6] (fun v => ∃ j : Nat, j ≤ l.length ∧ v = .int .i64 ((j : Nat) : Int) ∧ mDigs l (k2 + 1) = mDigs l j) (fun v => l.length - (intOf v).toNat)
            case atStart => exact ⟨k2 + 1, by omega, by go_num, rfl⟩
            case round =>
              obtain ⟨j, hj, rfl, hm⟩ := hrel
              have HM := Lib.hid hm
              clear hm
              by_cases hjl : j < l.length
              · have hcg := HB.out.at0 (j) hjl
                obtain ⟨g, hg⟩ : ∃ g : Nat, (l[j]'hjl).toNat = g := ⟨_, rfl⟩
                have HSg := Lib.hid (show seeB l (j) = (g : Int) by rw [seeB_some (List.getElem?_eq_getElem hjl), hg])
                rw [hg] at hcg
                have hltg : g < 256 := by rw [← hg]; exact (l[j]'hjl).toNat_lt
                clear hg
                have hij0 : (0 : Int) ≤ (j : Int) := by omega
                have hij1 : (j : Int) < (l.length : Int) := by omega
                have hgt : (l[j]'hjl).toNat = g := by have := HSg.out; rw [seeB_some (List.getElem?_eq_getElem hjl)] at this; omega
                have HGT := Lib.hid hgt
                clear hgt
                by_cases hg1 : 48 ≤ g
                · have g1 : (48 : Int) ≤ (g : Int) := by omega
                  by_cases hg2 : g ≤ 57
                  · as_aux_lemma =>
                    have g2 : (g : Int) ≤ 57 := by omega
                    have HON := Lib.hid (show mDigs l j = mDigs l (j + 1) from mDigs_on hjl (by rw [HGT.out]; exact ⟨hg1, hg2⟩))
                    go_wp2_with fail
                    go_round
                    case rel => exact ⟨j + 1, hjl, by go_num, HM.out.trans HON.out⟩
                    case measure => simp [intOf]; omega
                  · as_aux_lemma =>
                    have g2 : ¬ (g : Int) ≤ 57 := by omega
                    have HOFF := Lib.hid (HM.out.trans (show mDigs l j = j from mDigs_off (fun _ q => hg2 (by have := q.2; rw [HGT.out] at this; exact this))))
                    go_wp2_with fail
                    go_step3
                    (try simp only [Exit.then])
                    go_step
                    have hrr := HR3.out
                    rw [HOFF.out] at hrr
                    rw [← hrr]
                    exact frac_tail l b cap j 2 eofV w hl hcap (by omega) HB.out hbw HT.out hg (by rfl)
                · as_aux_lemma =>
                  have g1 : ¬ (48 : Int) ≤ (g : Int) := by omega
                  have HOFF := Lib.hid (HM.out.trans (show mDigs l j = j from mDigs_off (fun _ q => hg1 (by have := q.1; rw [HGT.out] at this; exact this))))
                  go_wp2_with fail
                  go_step3
                  (try simp only [Exit.then])
                  go_step
                  have hrr := HR3.out
                  rw [HOFF.out] at hrr
                  rw [← hrr]
                  exact frac_tail l b cap j 2 eofV w hl hcap (by omega) HB.out hbw HT.out hg (by rfl)
              · as_aux_lemma =>
                have HOFF := Lib.hid (HM.out.trans (show mDigs l j = j from mDigs_off (fun h => absurd h hjl)))
                go_wp2_with fail
                go_step3
                (try simp only [Exit.then])
                go_step
                have hrr := HR3.out
                rw [HOFF.out] at hrr
                rw [← hrr]
                exact frac_tail l b cap j 2 eofV w hl hcap (by omega) HB.out hbw HT.out hg (by rfl)
          · have hrr := HR2.out
            rw [if_neg (show ¬ seeB l k2 = 48 by rw [HSd.out]; omega), if_neg (show ¬ (49 ≤ seeB l (k2) ∧ seeB l (k2) ≤ 57) by rw [HSd.out]; omega)] at hrr
            subst hrr
            have s1 : (0 : Int) ≤ ((k2 : Nat) : Int) := by omega
            have s2 : ((k2 : Nat) : Int) ≤ (l.length : Int) := by omega
            have s3 : ((k2 : Nat) : Int) < (cap : Int) := by omega
            have s4 : ((cap : Int) == ((k2 : Nat) : Int)) = false := by rw [beq_eq_false_iff_ne]; omega
            have s5 : ¬ cap = k2 := by omega
            have BYD := Lib.hid (show Bytes w b (k2) (l.drop (k2)) by
              have := HB.out.sub (k2) l.length
              rw [Nat.zero_add, List.take_of_length_le (by simp)] at this
              exact this)
            have hq : ¬ (49 : Int) ≤ (d : Int) ∨ ((49 : Int) ≤ (d : Int) ∧ ¬ (d : Int) ≤ 57) := by omega
            rcases hq with q1 | ⟨q1, q2⟩
            · as_aux_lemma =>
              go_wp2_with fail
              refine (nic_any (l.drop (k2)) (by simp; omega) b (k2) (l.length - (k2)) (cap - (k2)) _ _ (by simp) (by omega) BYD.out hbw HT.out).mono ?_
              rintro e w5 ⟨hb5, err, rfl, hbad⟩
              have B5 := Lib.hid hb5
              have HBAD := Lib.hid hbad
              clear hb5 hbad
              go_wp2_with fail
              (try rw [Exit.noGoto_ret])
              go_returns
              exact ⟨⟨_, rfl, fun e => (by cases e), fun e => (by cases e), fun _ => HBAD.out⟩, B5.out⟩
            · as_aux_lemma =>
              go_wp2_with fail
              refine (nic_any (l.drop (k2)) (by simp; omega) b (k2) (l.length - (k2)) (cap - (k2)) _ _ (by simp) (by omega) BYD.out hbw HT.out).mono ?_
              rintro e w5 ⟨hb5, err, rfl, hbad⟩
              have B5 := Lib.hid hb5
              have HBAD := Lib.hid hbad
              clear hb5 hbad
              go_wp2_with fail
              (try rw [Exit.noGoto_ret])
              go_returns
              exact ⟨⟨_, rfl, fun e => (by cases e), fun e => (by cases e), fun _ => HBAD.out⟩, B5.out⟩

end Go.Proofs.YtifemmjblamfkaaDoor
