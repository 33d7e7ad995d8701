/- ParseFloat: the ways by the small table. -/
import Derived.Test.YtmpgbakkpbmpiaaDoorPfC
namespace Go.Proofs.YtmpgbakkpbmpiaaDoor.PFl
open Go.RowKit Go.Proofs.YtmpgbakkpbmpiaaDoorW.PrintWords Go.Proofs.YtmpgbakkpbmpiaaDoorW.PrintLast Go.Proofs.YtmpgbakkpbmpiaaDoorW.PrintMore
open NumL
set_option linter.unusedVariables false
set_option linter.unusedSimpArgs false

set_option maxHeartbeats 2000000 in
set_option maxRecDepth 100000 in
theorem part16 {A : Option Addr} {c f : Nat} {x12 x13 : Int} {u1 u2 u3 u5 u6 u7 u8 u9 u10 u14 u15 u16 u17 u18 u19 u20 u21 u22 u23 u24 u25 u26 u27 u28 u29 u30 u31 u32 u33 u34 u35 u36 u37 u38 u39 u40 u41 u42 u43 u44 u45 u46 u47 u48 u49 u50 u51 u52 u53 u54 u55 u56 u57 u58 u59 u60 u61 u62 u63 u64 u65 u66 u67 u68 u69 u70 u71 u72 u73 u74 u75 u76 u77 u78 u79 u80 u81 u82 u83 u84 u85 u86 u87 u88 u89 u90 u91 u92 u93 u94 u95 u96 u97 u98 u99 u100 u101 u102 u103 u104 u105 u106 u107 u108 u109 u110 u111 u112 u113 u114 u115 u116 u117 u118 u119 u120 u121 u122 u123 u124 u125 u126 u127 u128 u129 u130 u131 u132 u133 u134 u135 u136 u137 u138 u139 u140 u141 u142 u143 u144 u145 u146 u147 u148 u149 u150 u151 u152 u153 u154 u155 u156 u157 u158 u159 u160 u161 u162 u163 u164 u165 u166 u167 u168 u169 u170 u171 u172 u173 u174 u175 u176 u177 u178 u179 u180 u181 u182 u183 u184 u185 u186 u187 u188 u189 u190 u191 u192 u193 u194 u195 u196 u197 u198 u199 u200 u201 u202 u203 u204 u205 u206 u207 u208 u209 u210 u211 u212 u213 u214 u215 u216 u217 u218 u219 u220 u221 u222 u223 u224 u225 u226 u227 u228 u229 u230 u231 u232 u233 u234 u235 u236 u237 u238 u239 u240 u241 u242 u243 u244 u245 u246 u247 u248 u249 u250 u251 : Value} (w W : World) (l : List Int) (hw : Drawn0 w W) (ht : Tab.Tabs w) (h0 : ∀ i < 23, ∃ y, w.cell? ⟨0, i, none⟩ = some (.float .f64 y)) :
    Code.wp Tryd.prog (rest 16 body18) (bodyPost Tryd.prog Tryd.f18 fun e w' => ∃ y, e = .returned (.tuple #[.float .f64 y, .int .i64 (l.length : Int)]) ∧ Drawn0 w w') ⟨#[.slice A l.length c, u1, u2, u3, .int .i64 (l.length : Int), u5, u6, u7, u8, u9, u10, .float .f64 f, .int .i64 x12, .int .i64 x13, u14, u15, u16, u17, u18, u19, u20, u21, u22, u23, u24, u25, u26, u27, u28, u29, u30, u31, u32, u33, u34, u35, u36, u37, u38, u39, u40, u41, u42, u43, u44, u45, u46, u47, u48, u49, u50, u51, u52, u53, u54, u55, u56, u57, u58, u59, u60, u61, u62, u63, u64, u65, u66, u67, u68, u69, u70, u71, u72, u73, u74, u75, u76, u77, u78, u79, u80, u81, u82, u83, u84, u85, u86, u87, u88, u89, u90, u91, u92, u93, u94, u95, u96, u97, u98, u99, u100, u101, u102, u103, u104, u105, u106, u107, u108, u109, u110, u111, u112, u113, u114, u115, u116, u117, u118, u119, u120, u121, u122, u123, u124, u125, u126, u127, u128, u129, u130, u131, u132, u133, u134, u135, u136, u137, u138, u139, u140, u141, u142, u143, u144, u145, u146, u147, u148, u149, u150, u151, u152, u153, u154, u155, u156, u157, u158, u159, u160, u161, u162, u163, u164, u165, u166, u167, u168, u169, u170, u171, u172, u173, u174, u175, u176, u177, u178, u179, u180, u181, u182, u183, u184, u185, u186, u187, u188, u189, u190, u191, u192, u193, u194, u195, u196, u197, u198, u199, u200, u201, u202, u203, u204, u205, u206, u207, u208, u209, u210, u211, u212, u213, u214, u215, u216, u217, u218, u219, u220, u221, u222, u223, u224, u225, u226, u227, u228, u229, u230, u231, u232, u233, u234, u235, u236, u237, u238, u239, u240, u241, u242, u243, u244, u245, u246, u247, u248, u249, u250, u251], []⟩ W := by
  conv => arg 2; whnf
  have HT := Aside0.mk ht
  have H0 := Aside0.mk h0
  obtain ⟨n, rfl⟩ := hw
  clear ht h0
  go_upto_if 169 with (fail)
  generalize wrap64 (x13 - x12) = x17
  go_cut [2, 3, 18, 19] (fun v2 v3 v18 v19 wc => Aside0 (Drawn0 w wc))
  case first =>
    rcases Bool.eq_false_or_eq_true (x17 == 0) with a1 | a1
    · go_wp2_with (fail)
      go_ret2
      exact ⟨_, rfl, by repeat (first | exact Drawn0.refl _ | apply Drawn0.step)⟩
    · have b1 : x17 ≠ 0 := beq_eq_false_iff_ne.mp a1
      have B1 := Aside0.mk b1
      clear b1
      rcases Bool.eq_false_or_eq_true (decide (0 < x17)) with a2 | a2
      · rcases Bool.eq_false_or_eq_true (decide (x17 ≤ 37)) with a3 | a3
        · have B2 := Aside0.mk (of_decide_eq_true a2)
          have B3 := Aside0.mk (of_decide_eq_true a3)
          go_upto_if 181 with (fail)
          go_cut [18, 19] (fun v18 v19 wc => (∃ g, v18 = .float .f64 g) ∧ (∃ m : Int, v19 = .int .i64 m ∧ Aside0 (0 ≤ m ∧ m < 23)) ∧ Drawn0 w wc)
          case first =>
            rcases Bool.eq_false_or_eq_true (decide (22 < x17)) with a4 | a4
            · have hb := B3.out
              have hb2 := of_decide_eq_true a4
              obtain ⟨j, hjd⟩ : ∃ j, x17 - 22 = j := ⟨_, rfl⟩
              obtain ⟨y, hy⟩ := H0.out j.toNat (by omega)
              have hwj : wrap64 (x17 - 22) = j := by simp only [wrap64]; omega
              have hj := eq_true (show j < 23 by omega)
              have hj2 := eq_true (show 0 ≤ j by omega)
              have hj3 := decide_eq_true (show j < 23 by omega)
              have hj4 := decide_eq_true (show 0 ≤ j by omega)
              have hj5 := eq_true (show j.toNat < 23 by omega)
              clear hb hjd hb2
              rw [a4]
              clear a4
              go_wp2_with ((refine Flt.wpList_mul_any _ rfl _ _ _ _ _ _ _ rfl rfl rfl ?_; intro rm mm))
              go_meet
              case rel => exact ⟨⟨_, rfl⟩, ⟨22, rfl, ⟨by omega, by omega⟩⟩, by repeat (first | exact Drawn0.refl _ | apply Drawn0.step)⟩
            · have hb2 := of_decide_eq_false a4
              have HB2 := Aside0.mk hb2
              clear hb2
              rw [a4]
              clear a4
              go_wp2_with (fail)
              go_meet
              case rel => exact ⟨⟨_, rfl⟩, ⟨x17, rfl, ⟨by have := B2.out; omega, by have := HB2.out; omega⟩⟩, by repeat (first | exact Drawn0.refl _ | apply Drawn0.step)⟩
          case rest =>
            obtain ⟨⟨g, rfl⟩, ⟨m2, rfl, HM⟩, ⟨n3, rfl⟩⟩ := hcut
            go_upto_region 52 with (fail)
            go_cut [193] (fun v193 wc => (∃ b, v193 = .bool b) ∧ Drawn0 w wc)
            case first =>
              rcases Bool.eq_false_or_eq_true (FloatKind.f64.format.order 14054727237768577024 g == some .lt || FloatKind.f64.format.order 14054727237768577024 g == some .eq) with c1 | c1
              · go_wp2_with (fail)
                go_meet
                case rel => exact ⟨⟨_, rfl⟩, by repeat (first | exact Drawn0.refl _ | apply Drawn0.step)⟩
              · go_wp2_with (fail)
                go_meet
                case rel => exact ⟨⟨_, rfl⟩, by repeat (first | exact Drawn0.refl _ | apply Drawn0.step)⟩
            case rest =>
              obtain ⟨⟨b, rfl⟩, ⟨n4, rfl⟩⟩ := hcut
              cases b with
              | true =>
                have hm := HM.out
                obtain ⟨y, hy⟩ := H0.out m2.toNat (by omega)
                have hj := eq_true hm.2
                have hj2 := eq_true hm.1
                have hj3 := decide_eq_true hm.2
                have hj4 := decide_eq_true hm.1
                have hj5 := eq_true (show m2.toNat < 23 by omega)
                clear hm
                go_wp2_with ((refine Flt.wpList_mul_any _ rfl _ _ _ _ _ _ _ rfl rfl rfl ?_; intro rm mm))
                go_ret2
                exact ⟨_, rfl, by repeat (first | exact Drawn0.refl _ | apply Drawn0.step)⟩
              | false =>
                go_wp2_with (fail)
                go_meet
                case rel => exact ⟨by repeat (first | exact Drawn0.refl _ | apply Drawn0.step)⟩
        · have b3 := of_decide_eq_false a3
          have c1 : decide (-22 ≤ x17) = true := decide_eq_true (by omega)
          have c2 : decide (x17 < 0) = false := decide_eq_false (by omega)
          have c3 := eq_true (show -22 ≤ x17 by omega)
          have c4 := eq_false (show ¬ x17 < 0 by omega)
          clear b3
          go_wp2_with (fail)
          go_meet
          case rel => exact ⟨by repeat (first | exact Drawn0.refl _ | apply Drawn0.step)⟩
      · rcases Bool.eq_false_or_eq_true (decide (-22 ≤ x17)) with a3 | a3
        · have b2 := of_decide_eq_false a2
          have b3 := of_decide_eq_true a3
          have a4 : decide (x17 < 0) = true := decide_eq_true (by have := B1.out; omega)
          obtain ⟨y, hy⟩ := H0.out (-x17).toNat (by omega)
          have hwj : wrap64 (-x17) = -x17 := by simp only [wrap64]; omega
          have hj := eq_true (show -x17 < 23 by omega)
          have hj2 := eq_true (show 0 ≤ -x17 by omega)
          have hj3 := decide_eq_true (show -x17 < 23 by omega)
          have hj4 := decide_eq_true (show 0 ≤ -x17 by omega)
          have hj5 := eq_true (show (-x17).toNat < 23 by omega)
          have hj6 := eq_true (show x17 ≤ 0 by omega)
          have hj7 := eq_true (show -23 < x17 by omega)
          have hj8 := eq_true (show x17 < 0 by have := B1.out; omega)
          have hj9 := eq_true b3
          clear b2 b3
          go_wp2_with ((refine Flt.wpList_quo_any _ rfl _ _ _ _ _ _ _ rfl rfl rfl ?_; intro rm mm))
          go_ret2
          exact ⟨_, rfl, by repeat (first | exact Drawn0.refl _ | apply Drawn0.step)⟩
        · go_wp2_with (fail)
          go_meet
          case rel => exact ⟨by repeat (first | exact Drawn0.refl _ | apply Drawn0.step)⟩
  case rest =>
    have hw2 := hcut.out
    refine use_k (by assumption) ?_
    exact part18 w _ l hw2 HT.out
end Go.Proofs.YtmpgbakkpbmpiaaDoor.PFl
