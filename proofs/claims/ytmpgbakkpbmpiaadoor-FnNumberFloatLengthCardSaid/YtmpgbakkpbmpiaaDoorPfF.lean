/- ParseFloat: the mantissa. -/
import Derived.Test.YtmpgbakkpbmpiaaDoorPfE
namespace Go.Proofs.YtmpgbakkpbmpiaaDoor.PFl
open Go.RowKit Go.Proofs.YtmpgbakkpbmpiaaDoorW.PrintWords Go.Proofs.YtmpgbakkpbmpiaaDoorW.PrintLast Go.Proofs.YtmpgbakkpbmpiaaDoorW.PrintMore
open NumL
set_option linter.unusedVariables false
set_option linter.unusedSimpArgs false

set_option maxHeartbeats 2000000 in
set_option maxRecDepth 100000 in
theorem part10 {A : Option Addr} {c s d1 dl : Nat} {x7 x8 x9 : Int} {b : Bool} {u1 u2 u3 u6 u10 u11 u12 u13 u14 u15 u16 u17 u18 u19 u20 u21 u22 u23 u24 u25 u26 u27 u28 u29 u30 u31 u32 u33 u34 u35 u36 u37 u38 u39 u40 u41 u42 u43 u44 u45 u46 u47 u48 u49 u50 u51 u52 u53 u54 u55 u56 u57 u58 u59 u60 u61 u62 u63 u64 u65 u66 u67 u68 u69 u70 u71 u72 u73 u74 u75 u76 u77 u78 u79 u80 u81 u82 u83 u84 u85 u86 u87 u88 u89 u90 u91 u92 u93 u94 u95 u96 u97 u98 u99 u100 u101 u102 u103 u104 u105 u106 u107 u108 u109 u110 u111 u112 u113 u114 u115 u116 u117 u118 u119 u120 u121 u122 u123 u124 u125 u126 u127 u128 u129 u130 u131 u132 u133 u134 u135 u136 u137 u138 u139 u140 u141 u142 u143 u144 u145 u146 u147 u148 u149 u150 u151 u152 u153 u154 u155 u156 u157 u158 u159 u160 u161 u162 u163 u164 u165 u166 u167 u168 u169 u170 u171 u172 u173 u174 u175 u176 u177 u178 u179 u180 u181 u182 u183 u184 u185 u186 u187 u188 u189 u190 u191 u192 u193 u194 u195 u196 u197 u198 u199 u200 u201 u202 u203 u204 u205 u206 u207 u208 u209 u210 u211 u212 u213 u214 u215 u216 u217 u218 u219 u220 u221 u222 u223 u224 u225 u226 u227 u228 u229 u230 u231 u232 u233 u234 u235 u236 u237 u238 u239 u240 u241 u242 u243 u244 u245 u246 u247 u248 u249 u250 u251 : Value} (w W : World) (l : List Int) (hw : Drawn0 w W) (ht : Tab.Tabs w) (h0 : ∀ i < 23, ∃ y, w.cell? ⟨0, i, none⟩ = some (.float .f64 y)) (hr : Kd.C (Kd.int .u8) w A l.length l) (hc : l.length ≤ c) (hl : l.length ≤ 40) (hS : Shape l s d1 dl)
    (he : dl < l.length → ∃ k v, PFnNumberFloatLength.tdstrconv_ParseInt.f k (l.drop (dl + 1)) = some (v, (l.length : Int) - dl - 1) ∧ dl + 1 < l.length) :
    Code.wp Tryd.prog (rest 10 body18) (bodyPost Tryd.prog Tryd.f18 fun e w' => ∃ y, e = .returned (.tuple #[.float .f64 y, .int .i64 (l.length : Int)]) ∧ Drawn0 w w') ⟨#[.slice A l.length c, u1, u2, u3, .int .i64 (dl : Int), .bool b, u6, .int .i64 x7, .int .i64 x8, .int .u64 x9, u10, u11, u12, u13, u14, u15, u16, u17, u18, u19, u20, u21, u22, u23, u24, u25, u26, u27, u28, u29, u30, u31, u32, u33, u34, u35, u36, u37, u38, u39, u40, u41, u42, u43, u44, u45, u46, u47, u48, u49, u50, u51, u52, u53, u54, u55, u56, u57, u58, u59, u60, u61, u62, u63, u64, u65, u66, u67, u68, u69, u70, u71, u72, u73, u74, u75, u76, u77, u78, u79, u80, u81, u82, u83, u84, u85, u86, u87, u88, u89, u90, u91, u92, u93, u94, u95, u96, u97, u98, u99, u100, u101, u102, u103, u104, u105, u106, u107, u108, u109, u110, u111, u112, u113, u114, u115, u116, u117, u118, u119, u120, u121, u122, u123, u124, u125, u126, u127, u128, u129, u130, u131, u132, u133, u134, u135, u136, u137, u138, u139, u140, u141, u142, u143, u144, u145, u146, u147, u148, u149, u150, u151, u152, u153, u154, u155, u156, u157, u158, u159, u160, u161, u162, u163, u164, u165, u166, u167, u168, u169, u170, u171, u172, u173, u174, u175, u176, u177, u178, u179, u180, u181, u182, u183, u184, u185, u186, u187, u188, u189, u190, u191, u192, u193, u194, u195, u196, u197, u198, u199, u200, u201, u202, u203, u204, u205, u206, u207, u208, u209, u210, u211, u212, u213, u214, u215, u216, u217, u218, u219, u220, u221, u222, u223, u224, u225, u226, u227, u228, u229, u230, u231, u232, u233, u234, u235, u236, u237, u238, u239, u240, u241, u242, u243, u244, u245, u246, u247, u248, u249, u250, u251], []⟩ W := by
  conv => arg 2; whnf
  obtain ⟨n, rfl⟩ := hw
  have HT := Aside0.mk ht
  have H0 := Aside0.mk h0
  have HR := Aside0.mk hr
  have HC := Aside0.mk hc
  have HL := Aside0.mk hl
  have HS := Aside0.mk hS
  have HE := Aside0.mk he
  clear ht h0 hr hc hl hS he
  go_upto_if 107 with (fail)
  go_cut [11] (fun v11 wc => (∃ f, v11 = .float .f64 f) ∧ Drawn0 w wc)
  case first => as_aux_lemma =>
    have hneg : ∀ (W : World) (x : Nat), (Op.unary .neg (.float .f64 x)).run Tryd.prog W = .ok (.float .f64 (Op.negFloat .f64 x)) W := fun _ _ => rfl
    cases b with
    | true =>
      go_wp2
      go_meet
      case rel => exact ⟨⟨_, rfl⟩, by repeat (first | exact Drawn0.refl _ | apply Drawn0.step)⟩
    | false =>
      go_wp2
      go_meet
      case rel => exact ⟨⟨_, rfl⟩, by repeat (first | exact Drawn0.refl _ | apply Drawn0.step)⟩
  case rest =>
    obtain ⟨⟨f, rfl⟩, ⟨n2, rfl⟩⟩ := hcut
    go_upto_if 111 with (fail)
    go_cut [8, 12] (fun v8 v12 wc => (∃ x, v12 = .int .i64 x) ∧ Drawn0 w wc)
    case first => as_aux_lemma =>
      rcases Bool.eq_false_or_eq_true (x7 == -1) with a1 | a1
      · have a1' : (x7 != -1) = false := by rw [bne, a1]; rfl
        rcases Bool.eq_false_or_eq_true (x8 == -1) with a2 | a2
        · have a2' : (x8 != -1) = false := by rw [bne, a2]; rfl
          go_wp2_with (fail)
          go_meet
          case rel => exact ⟨⟨_, rfl⟩, by repeat (first | exact Drawn0.refl _ | apply Drawn0.step)⟩
        · have a2' : (x8 != -1) = true := by rw [bne, a2]; rfl
          go_wp2_with (fail)
          go_meet
          case rel => exact ⟨⟨_, rfl⟩, by repeat (first | exact Drawn0.refl _ | apply Drawn0.step)⟩
      · have a1' : (x7 != -1) = true := by rw [bne, a1]; rfl
        rcases Bool.eq_false_or_eq_true (x8 == -1) with a2 | a2
        · rcases Bool.eq_false_or_eq_true (decide ((dl : Int) < x7)) with a3 | a3
          · go_wp2_with (fail)
            go_meet
            case rel => exact ⟨⟨_, rfl⟩, by repeat (first | exact Drawn0.refl _ | apply Drawn0.step)⟩
          · go_wp2_with (fail)
            go_meet
            case rel => exact ⟨⟨_, rfl⟩, by repeat (first | exact Drawn0.refl _ | apply Drawn0.step)⟩
        · rcases Bool.eq_false_or_eq_true (decide (x8 < x7)) with a3 | a3
          · go_wp2_with (fail)
            go_meet
            case rel => exact ⟨⟨_, rfl⟩, by repeat (first | exact Drawn0.refl _ | apply Drawn0.step)⟩
          · go_wp2_with (fail)
            go_meet
            case rel => exact ⟨⟨_, rfl⟩, by repeat (first | exact Drawn0.refl _ | apply Drawn0.step)⟩
    case rest =>
      obtain ⟨⟨x12, rfl⟩, hw2⟩ := hcut
      refine use_k (by assumption) ?_
      exact part14 w _ l hw2 HT.out H0.out HR.out HC.out HL.out HS.out HE.out
end Go.Proofs.YtmpgbakkpbmpiaaDoor.PFl
