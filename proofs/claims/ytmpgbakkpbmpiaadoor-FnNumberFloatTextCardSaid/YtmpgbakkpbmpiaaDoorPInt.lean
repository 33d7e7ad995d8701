/- ParseInt as print.sh printed it, one line mended (see below: 'MENDED'). -/
import Derived.Test.YtmpgbakkpbmpiaaDoorPFnNumberFloatLengthx0
namespace Go.Proofs.YtmpgbakkpbmpiaaDoor.PFnNumberFloatLength
open Go.RowKit Go.Proofs.YtmpgbakkpbmpiaaDoorW.PrintWords Go.Proofs.YtmpgbakkpbmpiaaDoorW.PrintLast Go.Proofs.YtmpgbakkpbmpiaaDoorW.PrintMore
attribute [local go_sem] max2_int min2_int max_two min_two max_three min_three max_four min_four   -- for this text's walks alone
set_option linter.unusedVariables false
set_option linter.unusedSimpArgs false

/-! ### tdstrconv_ParseInt: function 23 -/
mutual
def tdstrconv_ParseInt.j0 : Nat → List Int → Int → Bool → Bool → Option (Int × Int)
  | 0, _, _, _, _ => none
  | k + 1, x0, x4, x5, x23 => if x23 = true then (if 0 < (x0.length : Int) then (tdstrconv_ParseInt.j1 k x0 (wrap64 (x4 + 1)) ((rd x0 0) == 45)) else (none)) else (tdstrconv_ParseInt.j1 k x0 x4 x5)
def tdstrconv_ParseInt.j1 : Nat → List Int → Int → Bool → Option (Int × Int)
  | 0, _, _, _ => none
  | k + 1, x0, x4, x5 => tdstrconv_ParseInt.l0 k x0 x4 x5 x4 0
def tdstrconv_ParseInt.j4 : Nat → Int → Bool → Int → Int → Option (Int × Int)
  | 0, _, _, _, _ => none
  | k + 1, x4, x5, x6, x7 => if x4 = x6 then (some (0, 0)) else (if x5 = true then (tdstrconv_ParseInt.j5 k x4 x5 x7 false) else (tdstrconv_ParseInt.j5 k x4 x5 x7 (decide (9223372036854775807 < x7))))
def tdstrconv_ParseInt.j5 : Nat → Int → Bool → Int → Bool → Option (Int × Int)
  | 0, _, _, _, _ => none
  | k + 1, x4, x5, x7, x73 => if x73 = true then (some (0, 0)) else (if x5 = true then (some (wrap64 (-(wrap64 (x7))), x4)) else (some (wrap64 (x7), x4)))
def tdstrconv_ParseInt.l0 : Nat → List Int → Int → Bool → Int → Int → Option (Int × Int)
  | 0, _, _, _, _, _ => none
  | k + 1, x0, x4, x5, x6, x7 => if x4 < (x0.length : Int) then (if 0 ≤ x4 then (if 48 ≤ (rd x0 x4) then (tdstrconv_ParseInt.j3 k x0 x4 x5 x6 x7 (rd x0 x4) (decide ((rd x0 x4) ≤ 57))) else (tdstrconv_ParseInt.j3 k x0 x4 x5 x6 x7 (rd x0 x4) false)) else (none)) else (tdstrconv_ParseInt.j4 k x4 x5 x6 x7)
def tdstrconv_ParseInt.j3 : Nat → List Int → Int → Bool → Int → Int → Int → Bool → Option (Int × Int)
  | 0, _, _, _, _, _, _, _ => none
  | k + 1, x0, x4, x5, x6, x7, x8, x44 => if x44 = true then (if 922337203685477580 < x7 then (some (0, 0)) else (if (9223372036854775808 - ((x8 - 48) % 256)) < (IntKind.u64.wrap (x7 * 10)) then (some (0, 0)) else (tdstrconv_ParseInt.l0 k x0 (wrap64 (x4 + 1)) x5 x6 (IntKind.u64.wrap ((IntKind.u64.wrap (x7 * 10)) + ((x8 - 48) % 256)))))) else (tdstrconv_ParseInt.j4 k x4 x5 x6 x7)
end
def tdstrconv_ParseInt.f (k : Nat) (l0 : List Int) : Option (Int × Int) := if (l0.length : Int) > 0 then (if 0 < (l0.length : Int) then (if (rd l0 0) = 43 then (tdstrconv_ParseInt.j0 k l0 0 false true) else (tdstrconv_ParseInt.j0 k l0 0 false ((rd l0 0) == 45))) else (none)) else (tdstrconv_ParseInt.j0 k l0 0 false false)
theorem tdstrconv_ParseInt.mono_l : ∀ k, (∀ y0 y1 y2 y3, LeO (tdstrconv_ParseInt.j0 k y0 y1 y2 y3) (tdstrconv_ParseInt.j0 (k + 1) y0 y1 y2 y3)) ∧ (∀ y0 y1 y2, LeO (tdstrconv_ParseInt.j1 k y0 y1 y2) (tdstrconv_ParseInt.j1 (k + 1) y0 y1 y2)) ∧ (∀ y0 y1 y2 y3, LeO (tdstrconv_ParseInt.j4 k y0 y1 y2 y3) (tdstrconv_ParseInt.j4 (k + 1) y0 y1 y2 y3)) ∧ (∀ y0 y1 y2 y3, LeO (tdstrconv_ParseInt.j5 k y0 y1 y2 y3) (tdstrconv_ParseInt.j5 (k + 1) y0 y1 y2 y3)) ∧ (∀ y0 y1 y2 y3 y4, LeO (tdstrconv_ParseInt.l0 k y0 y1 y2 y3 y4) (tdstrconv_ParseInt.l0 (k + 1) y0 y1 y2 y3 y4)) ∧ (∀ y0 y1 y2 y3 y4 y5 y6, LeO (tdstrconv_ParseInt.j3 k y0 y1 y2 y3 y4 y5 y6) (tdstrconv_ParseInt.j3 (k + 1) y0 y1 y2 y3 y4 y5 y6))
  | 0 => ⟨fun _ _ _ _ r h => by simp [tdstrconv_ParseInt.j0] at h, fun _ _ _ r h => by simp [tdstrconv_ParseInt.j1] at h, fun _ _ _ _ r h => by simp [tdstrconv_ParseInt.j4] at h, fun _ _ _ _ r h => by simp [tdstrconv_ParseInt.j5] at h, fun _ _ _ _ _ r h => by simp [tdstrconv_ParseInt.l0] at h, fun _ _ _ _ _ _ _ r h => by simp [tdstrconv_ParseInt.j3] at h⟩
  | k + 1 => by
    obtain ⟨ih0, ih1, ih2, ih3, ih4, ih5⟩ := tdstrconv_ParseInt.mono_l k
    refine ⟨?_, ?_, ?_, ?_, ?_, ?_⟩
    · intro y0 y1 y2 y3
      unfold tdstrconv_ParseInt.j0
      repeat' first
      | (with_reducible exact ih0 _ _ _ _)
      | (with_reducible exact ih1 _ _ _)
      | (with_reducible exact ih2 _ _ _ _)
      | (with_reducible exact ih3 _ _ _ _)
      | (with_reducible exact ih4 _ _ _ _ _)
      | (with_reducible exact ih5 _ _ _ _ _ _ _)
      | (with_reducible exact LeO.refl _)
      | (with_reducible exact LeO.none _)
      | (with_reducible refine LeO.ite ?_ ?_)
      | (with_reducible refine LeO.bind ?_ (fun _ => ?_))
      | exact ih0 _ _ _ _
      | exact ih1 _ _ _
      | exact ih2 _ _ _ _
      | exact ih3 _ _ _ _
      | exact ih4 _ _ _ _ _
      | exact ih5 _ _ _ _ _ _ _
      | exact LeO.none _
      | refine LeO.ite ?_ ?_
      | refine LeO.bind ?_ (fun _ => ?_)
    · intro y0 y1 y2
      unfold tdstrconv_ParseInt.j1
      repeat' first
      | (with_reducible exact ih0 _ _ _ _)
      | (with_reducible exact ih1 _ _ _)
      | (with_reducible exact ih2 _ _ _ _)
      | (with_reducible exact ih3 _ _ _ _)
      | (with_reducible exact ih4 _ _ _ _ _)
      | (with_reducible exact ih5 _ _ _ _ _ _ _)
      | (with_reducible exact LeO.refl _)
      | (with_reducible exact LeO.none _)
      | (with_reducible refine LeO.ite ?_ ?_)
      | (with_reducible refine LeO.bind ?_ (fun _ => ?_))
      | exact ih0 _ _ _ _
      | exact ih1 _ _ _
      | exact ih2 _ _ _ _
      | exact ih3 _ _ _ _
      | exact ih4 _ _ _ _ _
      | exact ih5 _ _ _ _ _ _ _
      | exact LeO.none _
      | refine LeO.ite ?_ ?_
      | refine LeO.bind ?_ (fun _ => ?_)
    · intro y0 y1 y2 y3
      unfold tdstrconv_ParseInt.j4
      repeat' first
      | (with_reducible exact ih0 _ _ _ _)
      | (with_reducible exact ih1 _ _ _)
      | (with_reducible exact ih2 _ _ _ _)
      | (with_reducible exact ih3 _ _ _ _)
      | (with_reducible exact ih4 _ _ _ _ _)
      | (with_reducible exact ih5 _ _ _ _ _ _ _)
      | (with_reducible exact LeO.refl _)
      | (with_reducible exact LeO.none _)
      | (with_reducible refine LeO.ite ?_ ?_)
      | (with_reducible refine LeO.bind ?_ (fun _ => ?_))
      | exact ih0 _ _ _ _
      | exact ih1 _ _ _
      | exact ih2 _ _ _ _
      | exact ih3 _ _ _ _
      | exact ih4 _ _ _ _ _
      | exact ih5 _ _ _ _ _ _ _
      | exact LeO.none _
      | refine LeO.ite ?_ ?_
      | refine LeO.bind ?_ (fun _ => ?_)
    · intro y0 y1 y2 y3
      unfold tdstrconv_ParseInt.j5
      repeat' first
      | (with_reducible exact ih0 _ _ _ _)
      | (with_reducible exact ih1 _ _ _)
      | (with_reducible exact ih2 _ _ _ _)
      | (with_reducible exact ih3 _ _ _ _)
      | (with_reducible exact ih4 _ _ _ _ _)
      | (with_reducible exact ih5 _ _ _ _ _ _ _)
      | (with_reducible exact LeO.refl _)
      | (with_reducible exact LeO.none _)
      | (with_reducible refine LeO.ite ?_ ?_)
      | (with_reducible refine LeO.bind ?_ (fun _ => ?_))
      | exact ih0 _ _ _ _
      | exact ih1 _ _ _
      | exact ih2 _ _ _ _
      | exact ih3 _ _ _ _
      | exact ih4 _ _ _ _ _
      | exact ih5 _ _ _ _ _ _ _
      | exact LeO.none _
      | refine LeO.ite ?_ ?_
      | refine LeO.bind ?_ (fun _ => ?_)
    · intro y0 y1 y2 y3 y4
      unfold tdstrconv_ParseInt.l0
      repeat' first
      | (with_reducible exact ih0 _ _ _ _)
      | (with_reducible exact ih1 _ _ _)
      | (with_reducible exact ih2 _ _ _ _)
      | (with_reducible exact ih3 _ _ _ _)
      | (with_reducible exact ih4 _ _ _ _ _)
      | (with_reducible exact ih5 _ _ _ _ _ _ _)
      | (with_reducible exact LeO.refl _)
      | (with_reducible exact LeO.none _)
      | (with_reducible refine LeO.ite ?_ ?_)
      | (with_reducible refine LeO.bind ?_ (fun _ => ?_))
      | exact ih0 _ _ _ _
      | exact ih1 _ _ _
      | exact ih2 _ _ _ _
      | exact ih3 _ _ _ _
      | exact ih4 _ _ _ _ _
      | exact ih5 _ _ _ _ _ _ _
      | exact LeO.none _
      | refine LeO.ite ?_ ?_
      | refine LeO.bind ?_ (fun _ => ?_)
    · intro y0 y1 y2 y3 y4 y5 y6
      unfold tdstrconv_ParseInt.j3
      repeat' first
      | (with_reducible exact ih0 _ _ _ _)
      | (with_reducible exact ih1 _ _ _)
      | (with_reducible exact ih2 _ _ _ _)
      | (with_reducible exact ih3 _ _ _ _)
      | (with_reducible exact ih4 _ _ _ _ _)
      | (with_reducible exact ih5 _ _ _ _ _ _ _)
      | (with_reducible exact LeO.refl _)
      | (with_reducible exact LeO.none _)
      | (with_reducible refine LeO.ite ?_ ?_)
      | (with_reducible refine LeO.bind ?_ (fun _ => ?_))
      | exact ih0 _ _ _ _
      | exact ih1 _ _ _
      | exact ih2 _ _ _ _
      | exact ih3 _ _ _ _
      | exact ih4 _ _ _ _ _
      | exact ih5 _ _ _ _ _ _ _
      | exact LeO.none _
      | refine LeO.ite ?_ ?_
      | refine LeO.bind ?_ (fun _ => ?_)
theorem tdstrconv_ParseInt.mono : ∀ a0 k, LeO (tdstrconv_ParseInt.f k a0) (tdstrconv_ParseInt.f (k + 1) a0) := by
  intro a0 k
  obtain ⟨ih0, ih1, ih2, ih3, ih4, ih5⟩ := tdstrconv_ParseInt.mono_l k
  unfold tdstrconv_ParseInt.f
  repeat' first
      | (with_reducible exact ih0 _ _ _ _)
      | (with_reducible exact ih1 _ _ _)
      | (with_reducible exact ih2 _ _ _ _)
      | (with_reducible exact ih3 _ _ _ _)
      | (with_reducible exact ih4 _ _ _ _ _)
      | (with_reducible exact ih5 _ _ _ _ _ _ _)
      | (with_reducible exact LeO.refl _)
      | (with_reducible exact LeO.none _)
      | (with_reducible refine LeO.ite ?_ ?_)
      | (with_reducible refine LeO.bind ?_ (fun _ => ?_))
      | exact ih0 _ _ _ _
      | exact ih1 _ _ _
      | exact ih2 _ _ _ _
      | exact ih3 _ _ _ _
      | exact ih4 _ _ _ _ _
      | exact ih5 _ _ _ _ _ _ _
      | exact LeO.none _
      | refine LeO.ite ?_ ?_
      | refine LeO.bind ?_ (fun _ => ?_)
set_option maxHeartbeats 8000000 in
set_option maxRecDepth 100000 in
theorem tdstrconv_ParseInt.calls (k : Nat) (A0 : Option Addr) (c0 : Nat) (l0 : List Int) (r1 : Int) (r2 : Int) (w : World) (hr0 : Kd.C (Kd.int .u8) w A0 l0.length l0) (hc0 : l0.length ≤ c0) (h : tdstrconv_ParseInt.f k l0 = some (r1, r2)) :
    Calls Tryd.prog 23 #[.slice A0 l0.length c0] w fun e w' => e = .returned (.tuple #[.int .i64 r1, .int .i64 r2]) ∧ Drawn0 w w' := by
  have HR0 := Aside0.mk hr0
  have HC0 := Aside0.mk hc0
  clear hr0 hc0
  have H : (if (l0.length : Int) > 0 then (if 0 < (l0.length : Int) then (if (rd l0 0) = 43 then (tdstrconv_ParseInt.j0 k l0 0 false true) else (tdstrconv_ParseInt.j0 k l0 0 false ((rd l0 0) == 45))) else (none)) else (tdstrconv_ParseInt.j0 k l0 0 false false)) = some (r1, r2) := h
  clear h
  have HC2 := Aside0.mk H
  clear H
  go_enter Tryd.func23, Tryd.ntmps23
  go_upto_region 3 with (fail)
  go_cut [23] (fun v23 wc => ∃ (kq : Nat) (x23_1 : Bool), v23 = .bool x23_1 ∧ Aside0 (tdstrconv_ParseInt.j0 kq l0 0 false x23_1 = some (r1, r2)) ∧ Aside0 (kq ≤ k) ∧ Drawn0 w wc)
  case first =>
    have H := HC2.out
    clear HC2
    by_cases c3 : (l0.length : Int) > 0
    · rw [if_pos c3] at H
      have c3b0 : decide (0 < (l0.length : Int)) = true := decide_eq_true c3
      have c3b1 : decide (0 < l0.length) = true := decide_eq_true (by omega)
      clear c3
      (first | rw [c3b0] | (simp only [i64_w, i32_w]; rw [c3b0]) | skip)
      by_cases c4 : 0 < (l0.length : Int)
      · rw [if_pos c4] at H
        have c4b0 : decide (0 < (l0.length : Int)) = true := decide_eq_true c4
        have c4b1 : decide (0 < l0.length) = true := decide_eq_true (by omega)
        clear c4
        by_cases c5 : (rd l0 0) = 43
        · rw [if_pos c5] at H
          have c5b0 : ((rd l0 0) == 43) = true := beq_iff_eq.mpr c5
          have c5b1 : ((rd l0 0) != 43) = false := bne_eq_false_iff_eq.mpr c5
          clear c5
          have H' := Aside0.mk H
          clear H
          have p118 : 0 ≤ (0 : Int) := (by omega)
          have q118 : 0 < (l0.length : Int) := of_decide_eq_true (by first | (with_reducible assumption) | assumption)
          obtain ⟨ad118, e118, hx118_0⟩ := Kd.at_int HR0.out 0 p118 q118
          cases e118
          have qi118 : (0 < l0.length) = True := eq_true (by omega)
          (try rw [show ((0 : Int)).toNat = 0 from rfl] at hx118_0)
          (try rw [Addr.add_zero'] at hx118_0)
          replace p118 := eq_true p118
          replace q118 := eq_true q118
          go_wp2
          go_meet
          case rel => exact ⟨_, (true), (by first | rfl | (simp; done) | (simp [*]; done)), H', ⟨by first | omega | exact Nat.le_refl _⟩, by repeat (first | exact Drawn0.refl _ | apply Drawn0.step)⟩
        · rw [if_neg c5] at H
          have c5b0 : ((rd l0 0) == 43) = false := beq_eq_false_iff_ne.mpr c5
          have c5b1 : ((rd l0 0) != 43) = true := bne_iff_ne.mpr c5
          have H' := Aside0.mk H
          clear H
          have p118 : 0 ≤ (0 : Int) := (by omega)
          have q118 : 0 < (l0.length : Int) := of_decide_eq_true (by first | (with_reducible assumption) | assumption)
          obtain ⟨ad118, e118, hx118_0⟩ := Kd.at_int HR0.out 0 p118 q118
          cases e118
          have qi118 : (0 < l0.length) = True := eq_true (by omega)
          (try rw [show ((0 : Int)).toNat = 0 from rfl] at hx118_0)
          (try rw [Addr.add_zero'] at hx118_0)
          replace p118 := eq_true p118
          replace q118 := eq_true q118
          have p119 : 0 ≤ (0 : Int) := (by omega)
          have q119 : 0 < (l0.length : Int) := of_decide_eq_true (by first | (with_reducible assumption) | assumption)
          obtain ⟨ad119, e119, hx119_0⟩ := Kd.at_int HR0.out 0 p119 q119
          obtain rfl : ad118 = ad119 := (by injection e119)
          have qi119 : (0 < l0.length) = True := eq_true (by omega)
          (try rw [show ((0 : Int)).toNat = 0 from rfl] at hx119_0)
          (try rw [Addr.add_zero'] at hx119_0)
          replace p119 := eq_true p119
          replace q119 := eq_true q119
          go_wp2
          go_meet
          case rel => exact ⟨_, (((rd l0 0) == 45)), (by first | rfl | (simp; done) | (simp [*]; done)), H', ⟨by first | omega | exact Nat.le_refl _⟩, by repeat (first | exact Drawn0.refl _ | apply Drawn0.step)⟩
      · rw [if_neg c4] at H
        exact absurd H (by simp)
    · rw [if_neg c3] at H
      have c3b0 : decide (0 < (l0.length : Int)) = false := decide_eq_false c3
      have c3b1 : decide (0 < l0.length) = false := decide_eq_false (by omega)
      clear c3
      (first | rw [c3b0] | (simp only [i64_w, i32_w]; rw [c3b0]) | skip)
      have H' := Aside0.mk H
      clear H
      go_wp2
      go_meet
      case rel => exact ⟨_, (false), (by first | rfl | (simp; done) | (simp [*]; done)), H', ⟨by first | omega | exact Nat.le_refl _⟩, by repeat (first | exact Drawn0.refl _ | apply Drawn0.step)⟩
  case rest =>
    clear HC2
    try clear p1
    try clear q1
    try clear hx1
    try clear qi1
    try clear c2
    try clear p2
    try clear c3
    try clear c3b0
    try clear c3b1
    try clear c4
    try clear c4b0
    try clear c4b1
    try clear c5
    try clear c5b0
    try clear c5b1
    try clear hx118_0
    try clear hx119_0
    try clear p118
    try clear p119
    try clear q118
    try clear q119
    obtain ⟨kq, x23_1, rfl, HA, HJ1, ⟨mc1, rfl⟩⟩ := hcut
    cases kq with
    | zero => exact absurd HA.out (by simp [tdstrconv_ParseInt.j0])
    | succ kj1 =>
      have H := HA.out
      clear HA
      simp only [tdstrconv_ParseInt.j0] at H
      have HC6 := Aside0.mk H
      clear H
      go_upto_if 23 with (fail)
      go_cut [4, 5] (fun v4 v5 wc => ∃ (kq : Nat) (x4_5 : Int) (x5_5 : Bool), v4 = .int .i64 x4_5 ∧ v5 = .bool x5_5 ∧ Aside0 (tdstrconv_ParseInt.j1 kq l0 x4_5 x5_5 = some (r1, r2)) ∧ Aside0 (kq ≤ kj1) ∧ Drawn0 w wc)
      case first =>
        have H := HC6.out
        clear HC6
        by_cases c7 : x23_1 = true
        · subst c7
          have H1 : (if 0 < (l0.length : Int) then (tdstrconv_ParseInt.j1 kj1 l0 (wrap64 (0 + 1)) ((rd l0 0) == 45)) else (none)) = some (r1, r2) := by rw [if_pos rfl] at H; exact H
          clear H
          have H := H1
          clear H1
          by_cases c8 : 0 < (l0.length : Int)
          · rw [if_pos c8] at H
            have c8b0 : decide (0 < (l0.length : Int)) = true := decide_eq_true c8
            have c8b1 : decide (0 < l0.length) = true := decide_eq_true (by omega)
            clear c8
            (first | rw [c8b0] | (simp only [i64_w, i32_w]; rw [c8b0]) | skip)
            have H' := Aside0.mk H
            clear H
            have p120 : 0 ≤ (0 : Int) := (by omega)
            have q120 : 0 < (l0.length : Int) := of_decide_eq_true (by first | (with_reducible assumption) | assumption)
            obtain ⟨ad120, e120, hx120_0⟩ := Kd.at_int HR0.out 0 p120 q120
            cases e120
            have qi120 : (0 < l0.length) = True := eq_true (by omega)
            (try rw [show ((0 : Int)).toNat = 0 from rfl] at hx120_0)
            (try rw [Addr.add_zero'] at hx120_0)
            replace p120 := eq_true p120
            replace q120 := eq_true q120
            go_wp2
            go_meet
            case rel => exact ⟨_, (wrap64 (0 + 1)), (((rd l0 0) == 45)), (by first | rfl | (simp [wrap64]; done)) /- MENDED -/, (by first | rfl | (simp; done) | (simp [*]; done)), H', ⟨by have := HJ1.out; first | omega | exact Nat.le_refl _⟩, by repeat (first | exact Drawn0.refl _ | apply Drawn0.step)⟩
          · rw [if_neg c8] at H
            exact absurd H (by simp)
        · replace c7 := Bool.eq_false_iff.mpr c7
          subst c7
          have H1 : (tdstrconv_ParseInt.j1 kj1 l0 0 false) = some (r1, r2) := by rw [if_neg (show ¬ (false = true) by decide)] at H; exact H
          clear H
          have H := H1
          clear H1
          have H' := Aside0.mk H
          clear H
          go_wp2
          go_meet
          case rel => exact ⟨_, (0), (false), (by first | rfl | (simp; done) | (simp [*]; done)), (by first | rfl | (simp; done) | (simp [*]; done)), H', ⟨by have := HJ1.out; first | omega | exact Nat.le_refl _⟩, by repeat (first | exact Drawn0.refl _ | apply Drawn0.step)⟩
      case rest =>
        clear HC6
        try clear c1
        try clear p1
        try clear q1
        try clear hx1
        try clear qi1
        try clear c2
        try clear p2
        try clear c3
        try clear c3b0
        try clear c3b1
        try clear c4
        try clear c4b0
        try clear c4b1
        try clear c5
        try clear c5b0
        try clear c5b1
        try clear p6
        try clear c7
        try clear c8
        try clear c8b0
        try clear c8b1
        try clear hx118_0
        try clear hx119_0
        try clear hx120_0
        try clear p1
        try clear p118
        try clear p119
        try clear p120
        try clear p2
        try clear q1
        try clear q118
        try clear q119
        try clear q120
        obtain ⟨kq, x4_5, x5_5, rfl, rfl, HA, HJ5, ⟨mc5, rfl⟩⟩ := hcut
        cases kq with
        | zero => exact absurd HA.out (by simp [tdstrconv_ParseInt.j1])
        | succ kj5 =>
          have H := HA.out
          clear HA
          simp only [tdstrconv_ParseInt.j1] at H
          have HC9 := Aside0.mk H
          clear H
          go_upto_block 0 with (fail)
          go_cut [4, 7] (fun v4 v7 wc => ∃ (kq : Nat) (x4_8 : Int) (x7_8 : Int), v4 = .int .i64 x4_8 ∧ v7 = .int .u64 x7_8 ∧ Aside0 (tdstrconv_ParseInt.j4 kq x4_8 x5_5 x4_5 x7_8 = some (r1, r2)) ∧ Aside0 (kq ≤ kj5) ∧ Drawn0 w wc)
          case first =>
            have H := HC9.out
            clear HC9
            have H' := Aside0.mk H
            clear H
            go_wp2
            go_loopg [4, 7] kj5 (fun kq v4 v7 w' => ∃ (x4_3 : Int) (x7_3 : Int), v4 = .int .i64 x4_3 ∧ v7 = .int .u64 x7_3 ∧ Aside0 (tdstrconv_ParseInt.l0 kq l0 x4_3 x5_5 x4_5 x7_3 = some (r1, r2)) ∧ Aside0 (kq ≤ kj5) ∧ Drawn0 w w')
            case atStart => exact ⟨(x4_5), (0), (by first | rfl | (simp; done) | (simp [*]; done)), (by first | rfl | (simp; done) | (simp [*]; done)), H', ⟨Nat.le_refl _⟩, by repeat (first | exact Drawn0.refl _ | apply Drawn0.step)⟩
            case round =>
              clear H'
              try clear c1
              try clear p1
              try clear q1
              try clear hx1
              try clear qi1
              try clear c2
              try clear p2
              try clear c3
              try clear c3b0
              try clear c3b1
              try clear c4
              try clear c4b0
              try clear c4b1
              try clear c5
              try clear c5b0
              try clear c5b1
              try clear p6
              try clear c7
              try clear c8
              try clear c8b0
              try clear c8b1
              try clear hx118_0
              try clear hx119_0
              try clear hx120_0
              try clear p1
              try clear p118
              try clear p119
              try clear p120
              try clear p2
              try clear p6
              try clear q1
              try clear q118
              try clear q119
              try clear q120
              obtain ⟨x4_3, x7_3, rfl, rfl, HA, HK3, ⟨m3, rfl⟩⟩ := hrel
              cases gk with
              | zero => exact absurd HA.out (by simp [tdstrconv_ParseInt.l0])
              | succ k3 =>
                have H := HA.out
                clear HA
                simp only [tdstrconv_ParseInt.l0] at H
                by_cases c10 : x4_3 < (l0.length : Int)
                · rw [if_pos c10] at H
                  have c10b0 : decide (x4_3 < (l0.length : Int)) = true := decide_eq_true c10
                  clear c10
                  (first | rw [c10b0] | (simp only [i64_w, i32_w]; rw [c10b0]) | skip)
                  by_cases c11 : 0 ≤ x4_3
                  · rw [if_pos c11] at H
                    have c11b0 : decide (0 ≤ x4_3) = true := decide_eq_true c11
                    clear c11
                    have HC12 := Aside0.mk H
                    clear H
                    have p121 : 0 ≤ (x4_3 : Int) := of_decide_eq_true (by first | (with_reducible assumption) | assumption)
                    have q121 : x4_3 < (l0.length : Int) := of_decide_eq_true (by first | (with_reducible assumption) | assumption)
                    obtain ⟨ad121, e121, hx121_0⟩ := Kd.at_int HR0.out x4_3 p121 q121
                    cases e121
                    replace p121 := eq_true p121
                    replace q121 := eq_true q121
                    go_upto_region 10 with (fail)
                    go_cut [44] (fun v44 wc => ∃ (kq : Nat) (x44_11 : Bool), v44 = .bool x44_11 ∧ Aside0 (tdstrconv_ParseInt.j3 kq l0 x4_3 x5_5 x4_5 x7_3 (rd l0 x4_3) x44_11 = some (r1, r2)) ∧ Aside0 (kq ≤ k3) ∧ Drawn0 w wc)
                    case first =>
                      have H := HC12.out
                      clear HC12
                      by_cases c13 : 48 ≤ (rd l0 x4_3)
                      · rw [if_pos c13] at H
                        have c13b0 : decide (48 ≤ (rd l0 x4_3)) = true := decide_eq_true c13
                        clear c13
                        (first | rw [c13b0] | (simp only [i64_w, i32_w]; rw [c13b0]) | skip)
                        have H' := Aside0.mk H
                        clear H
                        go_wp2
                        go_meet
                        case rel => exact ⟨_, (decide ((rd l0 x4_3) ≤ 57)), (by first | rfl | (simp; done) | (simp [*]; done)), H', ⟨by have := HJ1.out; have := HJ5.out; have := HK3.out; first | omega | exact Nat.le_refl _⟩, by repeat (first | exact Drawn0.refl _ | apply Drawn0.step)⟩
                      · rw [if_neg c13] at H
                        have c13b0 : decide (48 ≤ (rd l0 x4_3)) = false := decide_eq_false c13
                        clear c13
                        (first | rw [c13b0] | (simp only [i64_w, i32_w]; rw [c13b0]) | skip)
                        have H' := Aside0.mk H
                        clear H
                        go_wp2
                        go_meet
                        case rel => exact ⟨_, (false), (by first | rfl | (simp; done) | (simp [*]; done)), H', ⟨by have := HJ1.out; have := HJ5.out; have := HK3.out; first | omega | exact Nat.le_refl _⟩, by repeat (first | exact Drawn0.refl _ | apply Drawn0.step)⟩
                    case rest =>
                      clear HC12
                      try clear c1
                      try clear p1
                      try clear q1
                      try clear hx1
                      try clear qi1
                      try clear c2
                      try clear p2
                      try clear c3
                      try clear c3b0
                      try clear c3b1
                      try clear c4
                      try clear c4b0
                      try clear c4b1
                      try clear c5
                      try clear c5b0
                      try clear c5b1
                      try clear p6
                      try clear c7
                      try clear c8
                      try clear c8b0
                      try clear c8b1
                      try clear c10
                      try clear c10b0
                      try clear c11
                      try clear c11b0
                      try clear p11
                      try clear q11
                      try clear hx11
                      try clear qi11
                      try clear p12
                      try clear q12
                      try clear hx12
                      try clear qi12
                      try clear c13
                      try clear c13b0
                      try clear hx118_0
                      try clear hx119_0
                      try clear hx120_0
                      try clear hx121_0
                      try clear p1
                      try clear p118
                      try clear p119
                      try clear p120
                      try clear p121
                      try clear p2
                      try clear p6
                      try clear q1
                      try clear q118
                      try clear q119
                      try clear q120
                      try clear q121
                      obtain ⟨kq, x44_11, rfl, HA, HJ11, ⟨mc11, rfl⟩⟩ := hcut
                      cases kq with
                      | zero => exact absurd HA.out (by simp [tdstrconv_ParseInt.j3])
                      | succ kj11 =>
                        have H := HA.out
                        clear HA
                        simp only [tdstrconv_ParseInt.j3] at H
                        by_cases c14 : x44_11 = true
                        · subst c14
                          have H1 : (if 922337203685477580 < x7_3 then (some (0, 0)) else (if (9223372036854775808 - (((rd l0 x4_3) - 48) % 256)) < (IntKind.u64.wrap (x7_3 * 10)) then (some (0, 0)) else (tdstrconv_ParseInt.l0 kj11 l0 (wrap64 (x4_3 + 1)) x5_5 x4_5 (IntKind.u64.wrap ((IntKind.u64.wrap (x7_3 * 10)) + (((rd l0 x4_3) - 48) % 256)))))) = some (r1, r2) := by rw [if_pos rfl] at H; exact H
                          clear H
                          have H := H1
                          clear H1
                          by_cases c15 : 922337203685477580 < x7_3
                          · rw [if_pos c15] at H
                            have c15b0 : decide (922337203685477580 < x7_3) = true := decide_eq_true c15
                            clear c15
                            simp only [Option.some.injEq, Prod.mk.injEq] at H
                            obtain ⟨rfl, rfl⟩ := H
                            go_wp2
                            go_ret2
                            exact ⟨by first | rfl | (simp; done) | (simp [*]; done), by repeat (first | exact Drawn0.refl _ | apply Drawn0.step)⟩
                          · rw [if_neg c15] at H
                            have c15b0 : decide (922337203685477580 < x7_3) = false := decide_eq_false c15
                            clear c15
                            by_cases c16 : (9223372036854775808 - (((rd l0 x4_3) - 48) % 256)) < (IntKind.u64.wrap (x7_3 * 10))
                            · rw [if_pos c16] at H
                              have c16b0 : decide ((9223372036854775808 - (((rd l0 x4_3) - 48) % 256)) < (IntKind.u64.wrap (x7_3 * 10))) = true := decide_eq_true c16
                              clear c16
                              simp only [Option.some.injEq, Prod.mk.injEq] at H
                              obtain ⟨rfl, rfl⟩ := H
                              go_wp2
                              go_ret2
                              exact ⟨by first | rfl | (simp; done) | (simp [*]; done), by repeat (first | exact Drawn0.refl _ | apply Drawn0.step)⟩
                            · rw [if_neg c16] at H
                              have c16b0 : decide ((9223372036854775808 - (((rd l0 x4_3) - 48) % 256)) < (IntKind.u64.wrap (x7_3 * 10))) = false := decide_eq_false c16
                              clear c16
                              have H' := Aside0.mk H
                              clear H
                              go_wp2
                              go_roundg kj11
                              case measure => have := HJ1.out; have := HJ5.out; have := HK3.out; have := HJ11.out; omega
                              case rel => exact ⟨(wrap64 (x4_3 + 1)), (IntKind.u64.wrap ((IntKind.u64.wrap (x7_3 * 10)) + (((rd l0 x4_3) - 48) % 256))), (by first | rfl | (simp; done) | (simp [*]; done)), (by first | rfl | (simp; done) | (simp [*]; done)), H', ⟨by have := HJ1.out; have := HJ5.out; have := HK3.out; have := HJ11.out; omega⟩, by repeat (first | exact Drawn0.refl _ | apply Drawn0.step)⟩
                        · replace c14 := Bool.eq_false_iff.mpr c14
                          subst c14
                          have H1 : (tdstrconv_ParseInt.j4 kj11 x4_3 x5_5 x4_5 x7_3) = some (r1, r2) := by rw [if_neg (show ¬ (false = true) by decide)] at H; exact H
                          clear H
                          have H := H1
                          clear H1
                          have H' := Aside0.mk H
                          clear H
                          go_wp2
                          go_meet
                          case rel => exact ⟨_, (x4_3), (x7_3), (by first | rfl | (simp; done) | (simp [*]; done)), (by first | rfl | (simp; done) | (simp [*]; done)), H', ⟨by have := HJ1.out; have := HJ5.out; have := HK3.out; have := HJ11.out; first | omega | exact Nat.le_refl _⟩, by repeat (first | exact Drawn0.refl _ | apply Drawn0.step)⟩
                  · rw [if_neg c11] at H
                    exact absurd H (by simp)
                · rw [if_neg c10] at H
                  have c10b0 : decide (x4_3 < (l0.length : Int)) = false := decide_eq_false c10
                  clear c10
                  (first | rw [c10b0] | (simp only [i64_w, i32_w]; rw [c10b0]) | skip)
                  have H' := Aside0.mk H
                  clear H
                  go_wp2
                  go_meet
                  case rel => exact ⟨_, (x4_3), (x7_3), (by first | rfl | (simp; done) | (simp [*]; done)), (by first | rfl | (simp; done) | (simp [*]; done)), H', ⟨by have := HJ1.out; have := HJ5.out; have := HK3.out; first | omega | exact Nat.le_refl _⟩, by repeat (first | exact Drawn0.refl _ | apply Drawn0.step)⟩
          case rest =>
            clear HC9
            try clear c1
            try clear p1
            try clear q1
            try clear hx1
            try clear qi1
            try clear c2
            try clear p2
            try clear c3
            try clear c3b0
            try clear c3b1
            try clear c4
            try clear c4b0
            try clear c4b1
            try clear c5
            try clear c5b0
            try clear c5b1
            try clear p6
            try clear c7
            try clear c8
            try clear c8b0
            try clear c8b1
            try clear c10
            try clear c10b0
            try clear c11
            try clear c11b0
            try clear p11
            try clear q11
            try clear hx11
            try clear qi11
            try clear p12
            try clear q12
            try clear hx12
            try clear qi12
            try clear c13
            try clear c13b0
            try clear c14
            try clear c15
            try clear c15b0
            try clear c16
            try clear c16b0
            try clear hx118_0
            try clear hx119_0
            try clear hx120_0
            try clear hx121_0
            try clear p1
            try clear p11
            try clear p118
            try clear p119
            try clear p12
            try clear p120
            try clear p121
            try clear p2
            try clear p6
            try clear q1
            try clear q11
            try clear q118
            try clear q119
            try clear q12
            try clear q120
            try clear q121
            obtain ⟨kq, x4_8, x7_8, rfl, rfl, HA, HJ8, ⟨mc8, rfl⟩⟩ := hcut
            cases kq with
            | zero => exact absurd HA.out (by simp [tdstrconv_ParseInt.j4])
            | succ kj8 =>
              have H := HA.out
              clear HA
              simp only [tdstrconv_ParseInt.j4] at H
              by_cases c17 : x4_8 = x4_5
              · rw [if_pos c17] at H
                have c17b0 : (x4_8 == x4_5) = true := beq_iff_eq.mpr c17
                have c17b1 : (x4_8 != x4_5) = false := bne_eq_false_iff_eq.mpr c17
                clear c17
                simp only [Option.some.injEq, Prod.mk.injEq] at H
                obtain ⟨rfl, rfl⟩ := H
                go_wp2
                go_ret2
                exact ⟨by first | rfl | (simp; done) | (simp [*]; done), by repeat (first | exact Drawn0.refl _ | apply Drawn0.step)⟩
              · rw [if_neg c17] at H
                have c17b0 : (x4_8 == x4_5) = false := beq_eq_false_iff_ne.mpr c17
                have c17b1 : (x4_8 != x4_5) = true := bne_iff_ne.mpr c17
                have HC18 := Aside0.mk H
                clear H
                go_upto_region 18 with (fail)
                go_cut [73] (fun v73 wc => ∃ (kq : Nat) (x73_17 : Bool), v73 = .bool x73_17 ∧ Aside0 (tdstrconv_ParseInt.j5 kq x4_8 x5_5 x7_8 x73_17 = some (r1, r2)) ∧ Aside0 (kq ≤ kj8) ∧ Drawn0 w wc)
                case first =>
                  have H := HC18.out
                  clear HC18
                  by_cases c19 : x5_5 = true
                  · subst c19
                    have H1 : (tdstrconv_ParseInt.j5 kj8 x4_8 true x7_8 false) = some (r1, r2) := by rw [if_pos rfl] at H; exact H
                    clear H
                    have H := H1
                    clear H1
                    have H' := Aside0.mk H
                    clear H
                    go_wp2
                    go_meet
                    case rel => exact ⟨_, (false), (by first | rfl | (simp; done) | (simp [*]; done)), H', ⟨by have := HJ1.out; have := HJ5.out; have := HJ8.out; first | omega | exact Nat.le_refl _⟩, by repeat (first | exact Drawn0.refl _ | apply Drawn0.step)⟩
                  · replace c19 := Bool.eq_false_iff.mpr c19
                    subst c19
                    have H1 : (tdstrconv_ParseInt.j5 kj8 x4_8 false x7_8 (decide (9223372036854775807 < x7_8))) = some (r1, r2) := by rw [if_neg (show ¬ (false = true) by decide)] at H; exact H
                    clear H
                    have H := H1
                    clear H1
                    have H' := Aside0.mk H
                    clear H
                    go_wp2
                    go_meet
                    case rel => exact ⟨_, (decide (9223372036854775807 < x7_8)), (by first | rfl | (simp; done) | (simp [*]; done)), H', ⟨by have := HJ1.out; have := HJ5.out; have := HJ8.out; first | omega | exact Nat.le_refl _⟩, by repeat (first | exact Drawn0.refl _ | apply Drawn0.step)⟩
                case rest =>
                  clear HC18
                  try clear c1
                  try clear p1
                  try clear q1
                  try clear hx1
                  try clear qi1
                  try clear c2
                  try clear p2
                  try clear c3
                  try clear c3b0
                  try clear c3b1
                  try clear c4
                  try clear c4b0
                  try clear c4b1
                  try clear c5
                  try clear c5b0
                  try clear c5b1
                  try clear p6
                  try clear c7
                  try clear c8
                  try clear c8b0
                  try clear c8b1
                  try clear c10
                  try clear c10b0
                  try clear c11
                  try clear c11b0
                  try clear p11
                  try clear q11
                  try clear hx11
                  try clear qi11
                  try clear p12
                  try clear q12
                  try clear hx12
                  try clear qi12
                  try clear c13
                  try clear c13b0
                  try clear c14
                  try clear c15
                  try clear c15b0
                  try clear c16
                  try clear c16b0
                  try clear c17
                  try clear c17b0
                  try clear c17b1
                  try clear c19
                  try clear hx118_0
                  try clear hx119_0
                  try clear hx120_0
                  try clear hx121_0
                  try clear p1
                  try clear p11
                  try clear p118
                  try clear p119
                  try clear p12
                  try clear p120
                  try clear p121
                  try clear p2
                  try clear p6
                  try clear q1
                  try clear q11
                  try clear q118
                  try clear q119
                  try clear q12
                  try clear q120
                  try clear q121
                  obtain ⟨kq, x73_17, rfl, HA, HJ17, ⟨mc17, rfl⟩⟩ := hcut
                  cases kq with
                  | zero => exact absurd HA.out (by simp [tdstrconv_ParseInt.j5])
                  | succ kj17 =>
                    have H := HA.out
                    clear HA
                    simp only [tdstrconv_ParseInt.j5] at H
                    by_cases c20 : x73_17 = true
                    · subst c20
                      have H1 : (some (0, 0)) = some (r1, r2) := by rw [if_pos rfl] at H; exact H
                      clear H
                      have H := H1
                      clear H1
                      simp only [Option.some.injEq, Prod.mk.injEq] at H
                      obtain ⟨rfl, rfl⟩ := H
                      go_wp2
                      go_ret2
                      exact ⟨by first | rfl | (simp; done) | (simp [*]; done), by repeat (first | exact Drawn0.refl _ | apply Drawn0.step)⟩
                    · replace c20 := Bool.eq_false_iff.mpr c20
                      subst c20
                      have H1 : (if x5_5 = true then (some (wrap64 (-(wrap64 (x7_8))), x4_8)) else (some (wrap64 (x7_8), x4_8))) = some (r1, r2) := by rw [if_neg (show ¬ (false = true) by decide)] at H; exact H
                      clear H
                      have H := H1
                      clear H1
                      by_cases c21 : x5_5 = true
                      · subst c21
                        have H1 : (some (wrap64 (-(wrap64 (x7_8))), x4_8)) = some (r1, r2) := by rw [if_pos rfl] at H; exact H
                        clear H
                        have H := H1
                        clear H1
                        simp only [Option.some.injEq, Prod.mk.injEq] at H
                        obtain ⟨rfl, rfl⟩ := H
                        go_wp2
                        go_ret2
                        exact ⟨by first | rfl | (simp; done) | (simp [*]; done), by repeat (first | exact Drawn0.refl _ | apply Drawn0.step)⟩
                      · replace c21 := Bool.eq_false_iff.mpr c21
                        subst c21
                        have H1 : (some (wrap64 (x7_8), x4_8)) = some (r1, r2) := by rw [if_neg (show ¬ (false = true) by decide)] at H; exact H
                        clear H
                        have H := H1
                        clear H1
                        simp only [Option.some.injEq, Prod.mk.injEq] at H
                        obtain ⟨rfl, rfl⟩ := H
                        go_wp2
                        go_ret2
                        exact ⟨by first | rfl | (simp; done) | (simp [*]; done), by repeat (first | exact Drawn0.refl _ | apply Drawn0.step)⟩
end Go.Proofs.YtmpgbakkpbmpiaaDoor.PFnNumberFloatLength
