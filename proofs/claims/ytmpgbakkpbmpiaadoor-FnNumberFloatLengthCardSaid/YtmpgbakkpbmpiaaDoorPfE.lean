/- ParseFloat: the exponent. -/
import Derived.Test.YtmpgbakkpbmpiaaDoorPfD
namespace Go.Proofs.YtmpgbakkpbmpiaaDoor.PFl
open Go.RowKit Go.Proofs.YtmpgbakkpbmpiaaDoorW.PrintWords Go.Proofs.YtmpgbakkpbmpiaaDoorW.PrintLast Go.Proofs.YtmpgbakkpbmpiaaDoorW.PrintMore
open NumL
set_option linter.unusedVariables false
set_option linter.unusedSimpArgs false

set_option maxHeartbeats 2000000 in
set_option maxRecDepth 100000 in
theorem part14 {A : Option Addr} {c f s d1 dl : Nat} {x12 : Int} {u1 u2 u3 u5 u6 u7 u8 u9 u10 u13 u14 u15 u16 u17 u18 u19 u20 u21 u22 u23 u24 u25 u26 u27 u28 u29 u30 u31 u32 u33 u34 u35 u36 u37 u38 u39 u40 u41 u42 u43 u44 u45 u46 u47 u48 u49 u50 u51 u52 u53 u54 u55 u56 u57 u58 u59 u60 u61 u62 u63 u64 u65 u66 u67 u68 u69 u70 u71 u72 u73 u74 u75 u76 u77 u78 u79 u80 u81 u82 u83 u84 u85 u86 u87 u88 u89 u90 u91 u92 u93 u94 u95 u96 u97 u98 u99 u100 u101 u102 u103 u104 u105 u106 u107 u108 u109 u110 u111 u112 u113 u114 u115 u116 u117 u118 u119 u120 u121 u122 u123 u124 u125 u126 u127 u128 u129 u130 u131 u132 u133 u134 u135 u136 u137 u138 u139 u140 u141 u142 u143 u144 u145 u146 u147 u148 u149 u150 u151 u152 u153 u154 u155 u156 u157 u158 u159 u160 u161 u162 u163 u164 u165 u166 u167 u168 u169 u170 u171 u172 u173 u174 u175 u176 u177 u178 u179 u180 u181 u182 u183 u184 u185 u186 u187 u188 u189 u190 u191 u192 u193 u194 u195 u196 u197 u198 u199 u200 u201 u202 u203 u204 u205 u206 u207 u208 u209 u210 u211 u212 u213 u214 u215 u216 u217 u218 u219 u220 u221 u222 u223 u224 u225 u226 u227 u228 u229 u230 u231 u232 u233 u234 u235 u236 u237 u238 u239 u240 u241 u242 u243 u244 u245 u246 u247 u248 u249 u250 u251 : Value} (w W : World) (l : List Int) (hw : Drawn0 w W) (ht : Tab.Tabs w) (h0 : ∀ i < 23, ∃ y, w.cell? ⟨0, i, none⟩ = some (.float .f64 y)) (hr : Kd.C (Kd.int .u8) w A l.length l) (hc : l.length ≤ c) (hl : l.length ≤ 40) (hS : Shape l s d1 dl)
    (he : dl < l.length → ∃ k v, PFnNumberFloatLength.tdstrconv_ParseInt.f k (l.drop (dl + 1)) = some (v, (l.length : Int) - dl - 1) ∧ dl + 1 < l.length) :
    Code.wp Tryd.prog (rest 14 body18) (bodyPost Tryd.prog Tryd.f18 fun e w' => ∃ y, e = .returned (.tuple #[.float .f64 y, .int .i64 (l.length : Int)]) ∧ Drawn0 w w') ⟨#[.slice A l.length c, u1, u2, u3, .int .i64 (dl : Int), u5, u6, u7, u8, u9, u10, .float .f64 f, .int .i64 x12, u13, u14, u15, u16, u17, u18, u19, u20, u21, u22, u23, u24, u25, u26, u27, u28, u29, u30, u31, u32, u33, u34, u35, u36, u37, u38, u39, u40, u41, u42, u43, u44, u45, u46, u47, u48, u49, u50, u51, u52, u53, u54, u55, u56, u57, u58, u59, u60, u61, u62, u63, u64, u65, u66, u67, u68, u69, u70, u71, u72, u73, u74, u75, u76, u77, u78, u79, u80, u81, u82, u83, u84, u85, u86, u87, u88, u89, u90, u91, u92, u93, u94, u95, u96, u97, u98, u99, u100, u101, u102, u103, u104, u105, u106, u107, u108, u109, u110, u111, u112, u113, u114, u115, u116, u117, u118, u119, u120, u121, u122, u123, u124, u125, u126, u127, u128, u129, u130, u131, u132, u133, u134, u135, u136, u137, u138, u139, u140, u141, u142, u143, u144, u145, u146, u147, u148, u149, u150, u151, u152, u153, u154, u155, u156, u157, u158, u159, u160, u161, u162, u163, u164, u165, u166, u167, u168, u169, u170, u171, u172, u173, u174, u175, u176, u177, u178, u179, u180, u181, u182, u183, u184, u185, u186, u187, u188, u189, u190, u191, u192, u193, u194, u195, u196, u197, u198, u199, u200, u201, u202, u203, u204, u205, u206, u207, u208, u209, u210, u211, u212, u213, u214, u215, u216, u217, u218, u219, u220, u221, u222, u223, u224, u225, u226, u227, u228, u229, u230, u231, u232, u233, u234, u235, u236, u237, u238, u239, u240, u241, u242, u243, u244, u245, u246, u247, u248, u249, u250, u251], []⟩ W := by
  conv => arg 2; whnf
  obtain ⟨n, rfl⟩ := hw
  have HT := Aside0.mk ht
  have H0 := Aside0.mk h0
  have HR := Aside0.mk hr
  have HC := Aside0.mk hc
  have HL := Aside0.mk hl
  have HS := Aside0.mk hS
  have HE := Aside0.mk he
  clear ht h0 hr hc hl hS he
  go_upto_region 36 with (fail)
  go_cut [147] (fun v147 wc => v147 = .bool (decide (dl < l.length)) ∧ Drawn0 w wc)
  case first => as_aux_lemma =>
    by_cases hlt : dl < l.length
    · obtain ⟨ad, rfl, hx⟩ := Kd.at_int HR.out (dl : Int) (by omega) (by omega)
      have q := eq_true (show ((dl : Int)) < l.length by omega)
      have q0 := eq_true (show (0 : Int) ≤ (dl : Int) by omega)
      have q' : decide ((dl : Int) < (l.length : Int)) = true := decide_eq_true (by omega)
      have q2 : (dl < l.length) = True := eq_true (by omega)
      rw [Int.toNat_natCast] at hx
      have hfin := HS.out.fin hlt
      have HF := Aside0.mk hfin
      have HLT := Aside0.mk hlt
      clear hfin hlt
      rcases Bool.eq_false_or_eq_true (rd l (dl : Int) == 101) with a1 | a1
      · go_wp2_with (fail)
        go_meet
        case rel => exact ⟨by simp [HLT.out], by repeat (first | exact Drawn0.refl _ | apply Drawn0.step)⟩
      · have a2 : (rd l (dl : Int) == 69) = true := beq_iff_eq.mpr (HF.out.resolve_left (beq_eq_false_iff_ne.mp a1))
        go_wp2_with (fail)
        go_meet
        case rel => exact ⟨by simp [HLT.out], by repeat (first | exact Drawn0.refl _ | apply Drawn0.step)⟩
    · have q' : decide ((dl : Int) < (l.length : Int)) = false := decide_eq_false (by omega)
      have q2 := eq_false (show ¬ (dl : Int) < (l.length : Int) by omega)
      have HLT := Aside0.mk hlt
      clear hlt
      go_wp2_with (fail)
      go_meet
      case rel => exact ⟨by simp [HLT.out], by repeat (first | exact Drawn0.refl _ | apply Drawn0.step)⟩
  case rest =>
    obtain ⟨rfl, ⟨n2, rfl⟩⟩ := hcut
    go_upto_if 147 with (fail)
    go_cut [4, 13, 14, 15, 16] (fun v4 v13 v14 v15 v16 wc => v4 = .int .i64 (l.length : Int) ∧ (∃ x, v13 = .int .i64 x) ∧ Drawn0 w wc)
    case first => as_aux_lemma =>
      by_cases hlt : dl < l.length
      · obtain ⟨k, v, hpi, hle⟩ := HE.out hlt
        obtain ⟨ad, rfl, hx⟩ := Kd.at_int HR.out (dl : Int) (by omega) (by omega)
        have hcd : dl + 1 < c := by have := HC.out; omega
        obtain ⟨n1, hn1⟩ : ∃ n1, (l.length : Int) - dl - 1 = n1 := ⟨_, rfl⟩
        rw [hn1] at hpi
        have z1 := eq_false (show ¬ c = dl + 1 by omega)
        have z2 := eq_false (show ¬ dl + 1 = c by omega)
        have z3 := eq_false (show ¬ c - (dl + 1) = 0 by omega)
        have z4 := eq_false (show ¬ c ≤ dl + 1 by omega)
        have z5 := eq_true (show dl + 1 ≤ c by omega)
        have z6 := eq_true hcd
        clear hcd
        have hca : ∀ (W : World), Drawn0 w W → Calls Tryd.prog 23 #[.slice (some { block := ad.block, off := ad.off + (dl + 1) }) (l.length - (dl + 1)) (c - (dl + 1))] W fun e w' => e = .returned (.tuple #[.int .i64 v, .int .i64 n1]) ∧ Drawn0 W w' := by
          intro W hW
          obtain ⟨m, rfl⟩ := hW
          have h1 := Kd.C_drewN (Kd.C_drop (c := c) HR.out (m := dl + 1) (by omega) HC.out) m
          rw [if_neg (by have := HC.out; omega)] at h1
          have h := PFnNumberFloatLength.tdstrconv_ParseInt.calls k (some (ad.add (dl + 1))) (c - (dl + 1)) (l.drop (dl + 1)) v _ (w.drewN m) (by rw [show (dl + 1) * (Kd.int .u8).sz = dl + 1 from Nat.mul_one (dl + 1)] at h1; exact h1) (by have := HC.out; simp only [List.length_drop]; omega) hpi
          rw [List.length_drop] at h
          exact h
        have HCA := Aside0.mk hca
        have q0 := eq_true (show (0 : Int) ≤ (dl : Int) + 1 by omega)
        have q1 := eq_true (show (dl : Int) + 1 ≤ (l.length : Int) by omega)
        have q3 : decide (dl < l.length) = true := decide_eq_true hlt
        have hw : wrap64 ((dl : Int) + 1) = (dl : Int) + 1 := by have := HL.out; simp only [wrap64]; omega
        have hw2 : wrap64 ((dl : Int) + 1 + n1) = (l.length : Int) := by have := HL.out; simp only [wrap64]; omega
        have q4 : decide ((0 : Int) < n1) = true := decide_eq_true (by omega)
        have q5 := eq_true (show (0 : Int) < n1 by omega)
        rw [q3]
        clear q3 hpi hca hlt hle hn1
        go_wp2_with (go_at_call 23; refine (HCA.out _ (by repeat (first | exact Drawn0.refl _ | apply Drawn0.step))).mono ?_; rintro e w' ⟨rfl, ⟨nd, rfl⟩⟩)
        go_meet
        case rel => exact ⟨by simp [hw2], ⟨_, rfl⟩, by repeat (first | exact Drawn0.refl _ | apply Drawn0.step)⟩
      · have q3 : decide (dl < l.length) = false := decide_eq_false hlt
        have HDL := Aside0.mk (show dl = l.length by have := HS.out.le; omega)
        rw [q3]
        clear q3 hlt
        go_wp2_with (fail)
        go_meet
        case rel => exact ⟨by rw [← HDL.out], ⟨_, rfl⟩, by repeat (first | exact Drawn0.refl _ | apply Drawn0.step)⟩
    case rest =>
      obtain ⟨rfl, ⟨x13, rfl⟩, hw2⟩ := hcut
      refine use_k (by assumption) ?_
      exact part16 w _ l hw2 HT.out H0.out
end Go.Proofs.YtmpgbakkpbmpiaaDoor.PFl
