-- PRINTED BY print.sh 35421559b90ae4d0a3588c463048766b98c2df88dd9212a6774a882060cdf62d: not written by this session
import Derived.Test.YtmpgbakkpbmpiaaDoorPFnNumberFloatLengthx0
namespace Go.Proofs.YtmpgbakkpbmpiaaDoor.PFnNumberFloatLength
open Go.RowKit Go.Proofs.YtmpgbakkpbmpiaaDoorW.PrintWords Go.Proofs.YtmpgbakkpbmpiaaDoorW.PrintLast Go.Proofs.YtmpgbakkpbmpiaaDoorW.PrintMore
attribute [local go_sem] max2_int min2_int max_two min_two max_three min_three max_four min_four   -- for this text's walks alone
set_option linter.unusedVariables false
set_option linter.unusedSimpArgs false

/-! ### spec_signFrom: function 15 -/
def spec_signFrom.f (l0 : List Int) (a1 : Int) : Option (Int) := if a1 < (l0.length : Int) then (if 0 ≤ a1 then (if (rd l0 a1) = 43 then (some (wrap64 (a1 + 1))) else (if (rd l0 a1) = 45 then (some (wrap64 (a1 + 1))) else (some a1))) else (none)) else (some a1)
set_option maxHeartbeats 8000000 in
set_option maxRecDepth 100000 in
theorem spec_signFrom.calls (A0 : Option Addr) (c0 : Nat) (l0 : List Int) (a1 : Int) (r : Int) (w : World) (hr0 : Kd.C (Kd.int .u8) w A0 l0.length l0) (hc0 : l0.length ≤ c0) (h : spec_signFrom.f l0 a1 = some r) :
    Calls Tryd.prog 15 #[.slice A0 l0.length c0, .int .i64 a1] w fun e w' => e = .returned (.int .i64 r) ∧ Drawn0 w w' := by
  have HR0 := Aside0.mk hr0
  have HC0 := Aside0.mk hc0
  clear hr0 hc0
  have H : (if a1 < (l0.length : Int) then (if 0 ≤ a1 then (if (rd l0 a1) = 43 then (some (wrap64 (a1 + 1))) else (if (rd l0 a1) = 45 then (some (wrap64 (a1 + 1))) else (some a1))) else (none)) else (some a1)) = some r := h
  clear h
  by_cases c3 : a1 < (l0.length : Int)
  · rw [if_pos c3] at H
    have c3b0 : decide (a1 < (l0.length : Int)) = true := decide_eq_true c3
    clear c3
    by_cases c4 : 0 ≤ a1
    · rw [if_pos c4] at H
      have c4b0 : decide (0 ≤ a1) = true := decide_eq_true c4
      clear c4
      by_cases c5 : (rd l0 a1) = 43
      · rw [if_pos c5] at H
        have c5b0 : ((rd l0 a1) == 43) = true := beq_iff_eq.mpr c5
        have c5b1 : ((rd l0 a1) != 43) = false := bne_eq_false_iff_eq.mpr c5
        clear c5
        obtain rfl := Option.some.inj H
        have p101 : 0 ≤ (a1 : Int) := of_decide_eq_true (by first | (with_reducible assumption) | assumption)
        have q101 : a1 < (l0.length : Int) := of_decide_eq_true (by first | (with_reducible assumption) | assumption)
        obtain ⟨ad101, e101, hx101_0⟩ := Kd.at_int HR0.out a1 p101 q101
        cases e101
        replace p101 := eq_true p101
        replace q101 := eq_true q101
        go_enter Tryd.func15, Tryd.ntmps15
        go_wp2
        go_ret
        exact ⟨by first | rfl | (simp; done) | (simp [*]; done), by repeat (first | exact Drawn0.refl _ | apply Drawn0.step)⟩
      · rw [if_neg c5] at H
        have c5b0 : ((rd l0 a1) == 43) = false := beq_eq_false_iff_ne.mpr c5
        have c5b1 : ((rd l0 a1) != 43) = true := bne_iff_ne.mpr c5
        by_cases c6 : (rd l0 a1) = 45
        · rw [if_pos c6] at H
          have c6b0 : ((rd l0 a1) == 45) = true := beq_iff_eq.mpr c6
          have c6b1 : ((rd l0 a1) != 45) = false := bne_eq_false_iff_eq.mpr c6
          clear c6
          obtain rfl := Option.some.inj H
          have p101 : 0 ≤ (a1 : Int) := of_decide_eq_true (by first | (with_reducible assumption) | assumption)
          have q101 : a1 < (l0.length : Int) := of_decide_eq_true (by first | (with_reducible assumption) | assumption)
          obtain ⟨ad101, e101, hx101_0⟩ := Kd.at_int HR0.out a1 p101 q101
          cases e101
          replace p101 := eq_true p101
          replace q101 := eq_true q101
          have p102 : 0 ≤ (a1 : Int) := of_decide_eq_true (by first | (with_reducible assumption) | assumption)
          have q102 : a1 < (l0.length : Int) := of_decide_eq_true (by first | (with_reducible assumption) | assumption)
          obtain ⟨ad102, e102, hx102_0⟩ := Kd.at_int HR0.out a1 p102 q102
          obtain rfl : ad101 = ad102 := (by injection e102)
          replace p102 := eq_true p102
          replace q102 := eq_true q102
          go_enter Tryd.func15, Tryd.ntmps15
          go_wp2
          go_ret
          exact ⟨by first | rfl | (simp; done) | (simp [*]; done), by repeat (first | exact Drawn0.refl _ | apply Drawn0.step)⟩
        · rw [if_neg c6] at H
          have c6b0 : ((rd l0 a1) == 45) = false := beq_eq_false_iff_ne.mpr c6
          have c6b1 : ((rd l0 a1) != 45) = true := bne_iff_ne.mpr c6
          obtain rfl := Option.some.inj H
          have p101 : 0 ≤ (a1 : Int) := of_decide_eq_true (by first | (with_reducible assumption) | assumption)
          have q101 : a1 < (l0.length : Int) := of_decide_eq_true (by first | (with_reducible assumption) | assumption)
          obtain ⟨ad101, e101, hx101_0⟩ := Kd.at_int HR0.out a1 p101 q101
          cases e101
          replace p101 := eq_true p101
          replace q101 := eq_true q101
          have p102 : 0 ≤ (a1 : Int) := of_decide_eq_true (by first | (with_reducible assumption) | assumption)
          have q102 : a1 < (l0.length : Int) := of_decide_eq_true (by first | (with_reducible assumption) | assumption)
          obtain ⟨ad102, e102, hx102_0⟩ := Kd.at_int HR0.out a1 p102 q102
          obtain rfl : ad101 = ad102 := (by injection e102)
          replace p102 := eq_true p102
          replace q102 := eq_true q102
          go_enter Tryd.func15, Tryd.ntmps15
          go_wp2
          go_ret
          exact ⟨by first | rfl | (simp; done) | (simp [*]; done), by repeat (first | exact Drawn0.refl _ | apply Drawn0.step)⟩
    · rw [if_neg c4] at H
      exact absurd H (by simp)
  · rw [if_neg c3] at H
    have c3b0 : decide (a1 < (l0.length : Int)) = false := decide_eq_false c3
    clear c3
    obtain rfl := Option.some.inj H
    go_enter Tryd.func15, Tryd.ntmps15
    go_wp2
    go_ret
    exact ⟨by first | rfl | (simp; done) | (simp [*]; done), by repeat (first | exact Drawn0.refl _ | apply Drawn0.step)⟩

/-! ### spec_digitAt: function 16 -/
def spec_digitAt.f (l0 : List Int) (a1 : Int) : Option (Bool) := if a1 < (l0.length : Int) then (if 0 ≤ a1 then (if (rd l0 a1) ≥ 48 then (some (decide ((rd l0 a1) ≤ 57))) else (some false)) else (none)) else (some false)
set_option maxHeartbeats 8000000 in
set_option maxRecDepth 100000 in
theorem spec_digitAt.calls (A0 : Option Addr) (c0 : Nat) (l0 : List Int) (a1 : Int) (r : Bool) (w : World) (hr0 : Kd.C (Kd.int .u8) w A0 l0.length l0) (hc0 : l0.length ≤ c0) (h : spec_digitAt.f l0 a1 = some r) :
    Calls Tryd.prog 16 #[.slice A0 l0.length c0, .int .i64 a1] w fun e w' => e = .returned (.bool r) ∧ Drawn0 w w' := by
  have HR0 := Aside0.mk hr0
  have HC0 := Aside0.mk hc0
  clear hr0 hc0
  have H : (if a1 < (l0.length : Int) then (if 0 ≤ a1 then (if (rd l0 a1) ≥ 48 then (some (decide ((rd l0 a1) ≤ 57))) else (some false)) else (none)) else (some false)) = some r := h
  clear h
  by_cases c3 : a1 < (l0.length : Int)
  · rw [if_pos c3] at H
    have c3b0 : decide (a1 < (l0.length : Int)) = true := decide_eq_true c3
    clear c3
    by_cases c4 : 0 ≤ a1
    · rw [if_pos c4] at H
      have c4b0 : decide (0 ≤ a1) = true := decide_eq_true c4
      clear c4
      by_cases c5 : (rd l0 a1) ≥ 48
      · rw [if_pos c5] at H
        have c5b0 : decide (48 ≤ (rd l0 a1)) = true := decide_eq_true c5
        clear c5
        obtain rfl := Option.some.inj H
        have p103 : 0 ≤ (a1 : Int) := of_decide_eq_true (by first | (with_reducible assumption) | assumption)
        have q103 : a1 < (l0.length : Int) := of_decide_eq_true (by first | (with_reducible assumption) | assumption)
        obtain ⟨ad103, e103, hx103_0⟩ := Kd.at_int HR0.out a1 p103 q103
        cases e103
        replace p103 := eq_true p103
        replace q103 := eq_true q103
        have p104 : 0 ≤ (a1 : Int) := of_decide_eq_true (by first | (with_reducible assumption) | assumption)
        have q104 : a1 < (l0.length : Int) := of_decide_eq_true (by first | (with_reducible assumption) | assumption)
        obtain ⟨ad104, e104, hx104_0⟩ := Kd.at_int HR0.out a1 p104 q104
        obtain rfl : ad103 = ad104 := (by injection e104)
        replace p104 := eq_true p104
        replace q104 := eq_true q104
        go_enter Tryd.func16, Tryd.ntmps16
        go_wp2
        go_ret
        exact ⟨by first | rfl | (simp; done) | (simp [*]; done), by repeat (first | exact Drawn0.refl _ | apply Drawn0.step)⟩
      · rw [if_neg c5] at H
        have c5b0 : decide (48 ≤ (rd l0 a1)) = false := decide_eq_false c5
        clear c5
        obtain rfl := Option.some.inj H
        have p103 : 0 ≤ (a1 : Int) := of_decide_eq_true (by first | (with_reducible assumption) | assumption)
        have q103 : a1 < (l0.length : Int) := of_decide_eq_true (by first | (with_reducible assumption) | assumption)
        obtain ⟨ad103, e103, hx103_0⟩ := Kd.at_int HR0.out a1 p103 q103
        cases e103
        replace p103 := eq_true p103
        replace q103 := eq_true q103
        go_enter Tryd.func16, Tryd.ntmps16
        go_wp2
        go_ret
        exact ⟨by first | rfl | (simp; done) | (simp [*]; done), by repeat (first | exact Drawn0.refl _ | apply Drawn0.step)⟩
    · rw [if_neg c4] at H
      exact absurd H (by simp)
  · rw [if_neg c3] at H
    have c3b0 : decide (a1 < (l0.length : Int)) = false := decide_eq_false c3
    clear c3
    obtain rfl := Option.some.inj H
    go_enter Tryd.func16, Tryd.ntmps16
    go_wp2
    go_ret
    exact ⟨by first | rfl | (simp; done) | (simp [*]; done), by repeat (first | exact Drawn0.refl _ | apply Drawn0.step)⟩

/-! ### spec_digitsFrom: function 17 -/
def spec_digitsFrom.l0 : Nat → List Int → Int → Option (Int)
  | 0, _, _ => none
  | k + 1, x0, x1 => (spec_digitAt.f x0 x1).bind fun t105 => (if t105 = true then (spec_digitsFrom.l0 k x0 (wrap64 (x1 + 1))) else (some x1))
def spec_digitsFrom.f (k : Nat) (l0 : List Int) (a1 : Int) : Option (Int) := spec_digitsFrom.l0 k l0 a1
theorem spec_digitsFrom.mono_l : ∀ k, (∀ y0 y1, LeO (spec_digitsFrom.l0 k y0 y1) (spec_digitsFrom.l0 (k + 1) y0 y1))
  | 0 => fun _ _ r h => by simp [spec_digitsFrom.l0] at h
  | k + 1 => by
    have ih0 := spec_digitsFrom.mono_l k
    · intro y0 y1
      unfold spec_digitsFrom.l0
      repeat' first
      | (with_reducible exact ih0 _ _)
      | (with_reducible exact LeO.refl _)
      | (with_reducible exact LeO.none _)
      | (with_reducible refine LeO.ite ?_ ?_)
      | (with_reducible refine LeO.bind ?_ (fun _ => ?_))
      | exact ih0 _ _
      | exact LeO.none _
      | refine LeO.ite ?_ ?_
      | refine LeO.bind ?_ (fun _ => ?_)
theorem spec_digitsFrom.mono : ∀ a0 a1 k, LeO (spec_digitsFrom.f k a0 a1) (spec_digitsFrom.f (k + 1) a0 a1) := by
  intro a0 a1 k
  have ih0 := spec_digitsFrom.mono_l k
  unfold spec_digitsFrom.f
  repeat' first
      | (with_reducible exact ih0 _ _)
      | (with_reducible exact LeO.refl _)
      | (with_reducible exact LeO.none _)
      | (with_reducible refine LeO.ite ?_ ?_)
      | (with_reducible refine LeO.bind ?_ (fun _ => ?_))
      | exact ih0 _ _
      | exact LeO.none _
      | refine LeO.ite ?_ ?_
      | refine LeO.bind ?_ (fun _ => ?_)
set_option maxHeartbeats 8000000 in
set_option maxRecDepth 100000 in
theorem spec_digitsFrom.calls (k : Nat) (A0 : Option Addr) (c0 : Nat) (l0 : List Int) (a1 : Int) (r : Int) (w : World) (hr0 : Kd.C (Kd.int .u8) w A0 l0.length l0) (hc0 : l0.length ≤ c0) (h : spec_digitsFrom.f k l0 a1 = some r) :
    Calls Tryd.prog 17 #[.slice A0 l0.length c0, .int .i64 a1] w fun e w' => e = .returned (.int .i64 r) ∧ Drawn0 w w' := by
  have HR0 := Aside0.mk hr0
  have HC0 := Aside0.mk hc0
  clear hr0 hc0
  have H : (spec_digitsFrom.l0 k l0 a1) = some r := h
  clear h
  have H' := Aside0.mk H
  clear H
  go_enter Tryd.func17, Tryd.ntmps17
  go_wp2
  go_loopg [1] k (fun kq v1 w' => ∃ (x1_1 : Int), v1 = .int .i64 x1_1 ∧ Aside0 (spec_digitsFrom.l0 kq l0 x1_1 = some r) ∧ Aside0 (kq ≤ k) ∧ Drawn0 w w')
  case atStart => exact ⟨(a1), (by first | rfl | (simp; done) | (simp [*]; done)), H', ⟨Nat.le_refl _⟩, by repeat (first | exact Drawn0.refl _ | apply Drawn0.step)⟩
  case round =>
    clear H'
    try clear c1
    try clear p2
    obtain ⟨x1_1, rfl, HA, HK1, ⟨m1, rfl⟩⟩ := hrel
    cases gk with
    | zero => exact absurd HA.out (by simp [spec_digitsFrom.l0])
    | succ k1 =>
      have H := HA.out
      clear HA
      simp only [spec_digitsFrom.l0] at H
      replace H := Option.bind_eq_some_iff.mp H
      obtain ⟨t105, A30, H⟩ := H
      replace H : (if t105 = true then (spec_digitsFrom.l0 k1 l0 (wrap64 (x1_1 + 1))) else (some x1_1)) = some r := H
      have A3 := Aside0.mk A30
      clear A30
      by_cases c4 : t105 = true
      · subst c4
        have H1 : (spec_digitsFrom.l0 k1 l0 (wrap64 (x1_1 + 1))) = some r := by rw [if_pos rfl] at H; exact H
        clear H
        have H := H1
        clear H1
        have H' := Aside0.mk H
        clear H
        go_wp2_with (first | ((with_reducible refine gate_callee (f := 16) rfl ?_); refine goesL_ (some 7) rfl rfl Tryd.func16 (by kernel_rfl) rfl #[.slice A0 l0.length c0, .int .i64 x1_1] rfl (by (try simp only [List.map_toArray, List.map_cons, List.map_nil]); first | done | rfl | (simp only [List.length_drop, List.length_take]; rfl)) ?_; (with_reducible refine (spec_digitAt.calls _ _ l0 x1_1 true _ ?side1 ?side2 A3.out).mono ?_); (case side1 => repeat (first | exact HR0.out | (with_reducible refine Kd.C_alloc ?_ _) | (with_reducible refine Kd.C_drewN ?_ _) | (with_reducible refine Kd.C_drew ?_))); (case side2 => exact HC0.out); rintro e w' ⟨rfl, ⟨nd, rfl⟩⟩; refine ⟨_, rfl, ?_⟩))
        go_roundg k1
        case measure => have := HK1.out; omega
        case rel => exact ⟨(wrap64 (x1_1 + 1)), (by first | rfl | (simp; done) | (simp [*]; done)), H', ⟨by have := HK1.out; omega⟩, by repeat (first | exact Drawn0.refl _ | apply Drawn0.step)⟩
      · replace c4 := Bool.eq_false_iff.mpr c4
        subst c4
        have H1 : (some x1_1) = some r := by rw [if_neg (show ¬ (false = true) by decide)] at H; exact H
        clear H
        have H := H1
        clear H1
        obtain rfl := Option.some.inj H
        go_wp2_with (first | ((with_reducible refine gate_callee (f := 16) rfl ?_); refine goesL_ (some 7) rfl rfl Tryd.func16 (by kernel_rfl) rfl #[.slice A0 l0.length c0, .int .i64 x1_1] rfl (by (try simp only [List.map_toArray, List.map_cons, List.map_nil]); first | done | rfl | (simp only [List.length_drop, List.length_take]; rfl)) ?_; (with_reducible refine (spec_digitAt.calls _ _ l0 x1_1 false _ ?side1 ?side2 A3.out).mono ?_); (case side1 => repeat (first | exact HR0.out | (with_reducible refine Kd.C_alloc ?_ _) | (with_reducible refine Kd.C_drewN ?_ _) | (with_reducible refine Kd.C_drew ?_))); (case side2 => exact HC0.out); rintro e w' ⟨rfl, ⟨nd, rfl⟩⟩; refine ⟨_, rfl, ?_⟩))
        go_ret
        exact ⟨by first | rfl | (simp; done) | (simp [*]; done), by repeat (first | exact Drawn0.refl _ | apply Drawn0.step)⟩

/-! ### spec_DecimalLength: function 14 -/
def spec_DecimalLength.j0 : Nat → List Int → Int → Int → Bool → Option (Int)
  | 0, _, _, _, _ => none
  | k + 1, x0, x3, x4, x26 => if x26 = true then ((spec_digitsFrom.f k x0 (wrap64 (x4 + 1))).bind fun t110 => (some t110)) else (if x4 = x3 then (some 0) else (some x4))
def spec_DecimalLength.f (k : Nat) (l0 : List Int) : Option (Int) := (spec_signFrom.f l0 0).bind fun t106 => ((spec_digitsFrom.f k l0 t106).bind fun t107 => (if t107 < (l0.length : Int) then (if 0 ≤ t107 then (if (rd l0 t107) = 46 then ((spec_digitAt.f l0 (wrap64 (t107 + 1))).bind fun t109 => (spec_DecimalLength.j0 k l0 t106 t107 t109)) else (spec_DecimalLength.j0 k l0 t106 t107 false)) else (none)) else (spec_DecimalLength.j0 k l0 t106 t107 false)))
theorem spec_DecimalLength.mono_l : ∀ k, (∀ y0 y1 y2 y3, LeO (spec_DecimalLength.j0 k y0 y1 y2 y3) (spec_DecimalLength.j0 (k + 1) y0 y1 y2 y3))
  | 0 => fun _ _ _ _ r h => by simp [spec_DecimalLength.j0] at h
  | k + 1 => by
    have ih0 := spec_DecimalLength.mono_l k
    · intro y0 y1 y2 y3
      unfold spec_DecimalLength.j0
      repeat' first
      | (with_reducible exact ih0 _ _ _ _)
      | (with_reducible exact spec_digitsFrom.mono _ _ _)
      | (with_reducible exact LeO.refl _)
      | (with_reducible exact LeO.none _)
      | (with_reducible refine LeO.ite ?_ ?_)
      | (with_reducible refine LeO.bind ?_ (fun _ => ?_))
      | exact ih0 _ _ _ _
      | exact spec_digitsFrom.mono _ _ _
      | exact LeO.none _
      | refine LeO.ite ?_ ?_
      | refine LeO.bind ?_ (fun _ => ?_)
theorem spec_DecimalLength.mono : ∀ a0 k, LeO (spec_DecimalLength.f k a0) (spec_DecimalLength.f (k + 1) a0) := by
  intro a0 k
  have ih0 := spec_DecimalLength.mono_l k
  unfold spec_DecimalLength.f
  repeat' first
      | (with_reducible exact ih0 _ _ _ _)
      | (with_reducible exact spec_digitsFrom.mono _ _ _)
      | (with_reducible exact LeO.refl _)
      | (with_reducible exact LeO.none _)
      | (with_reducible refine LeO.ite ?_ ?_)
      | (with_reducible refine LeO.bind ?_ (fun _ => ?_))
      | exact ih0 _ _ _ _
      | exact spec_digitsFrom.mono _ _ _
      | exact LeO.none _
      | refine LeO.ite ?_ ?_
      | refine LeO.bind ?_ (fun _ => ?_)
set_option maxHeartbeats 8000000 in
set_option maxRecDepth 100000 in
theorem spec_DecimalLength.calls (k : Nat) (A0 : Option Addr) (c0 : Nat) (l0 : List Int) (r : Int) (w : World) (hr0 : Kd.C (Kd.int .u8) w A0 l0.length l0) (hc0 : l0.length ≤ c0) (h : spec_DecimalLength.f k l0 = some r) :
    Calls Tryd.prog 14 #[.slice A0 l0.length c0] w fun e w' => e = .returned (.int .i64 r) ∧ Drawn0 w w' := by
  have HR0 := Aside0.mk hr0
  have HC0 := Aside0.mk hc0
  clear hr0 hc0
  have H : ((spec_signFrom.f l0 0).bind fun t106 => ((spec_digitsFrom.f k l0 t106).bind fun t107 => (if t107 < (l0.length : Int) then (if 0 ≤ t107 then (if (rd l0 t107) = 46 then ((spec_digitAt.f l0 (wrap64 (t107 + 1))).bind fun t109 => (spec_DecimalLength.j0 k l0 t106 t107 t109)) else (spec_DecimalLength.j0 k l0 t106 t107 false)) else (none)) else (spec_DecimalLength.j0 k l0 t106 t107 false)))) = some r := h
  clear h
  replace H := Option.bind_eq_some_iff.mp H
  obtain ⟨t106, A20, H⟩ := H
  replace H : ((spec_digitsFrom.f k l0 t106).bind fun t107 => (if t107 < (l0.length : Int) then (if 0 ≤ t107 then (if (rd l0 t107) = 46 then ((spec_digitAt.f l0 (wrap64 (t107 + 1))).bind fun t109 => (spec_DecimalLength.j0 k l0 t106 t107 t109)) else (spec_DecimalLength.j0 k l0 t106 t107 false)) else (none)) else (spec_DecimalLength.j0 k l0 t106 t107 false))) = some r := H
  have A2 := Aside0.mk A20
  clear A20
  replace H := Option.bind_eq_some_iff.mp H
  obtain ⟨t107, A30, H⟩ := H
  replace H : (if t107 < (l0.length : Int) then (if 0 ≤ t107 then (if (rd l0 t107) = 46 then ((spec_digitAt.f l0 (wrap64 (t107 + 1))).bind fun t109 => (spec_DecimalLength.j0 k l0 t106 t107 t109)) else (spec_DecimalLength.j0 k l0 t106 t107 false)) else (none)) else (spec_DecimalLength.j0 k l0 t106 t107 false)) = some r := H
  have A3 := Aside0.mk A30
  clear A30
  have HC4 := Aside0.mk H
  clear H
  go_enter Tryd.func14, Tryd.ntmps14
  go_upto_region 3 with (first | ((with_reducible refine gate_callee (f := 15) rfl ?_); refine goesL_ (some 6) rfl rfl Tryd.func15 (by kernel_rfl) rfl #[.slice A0 l0.length c0, .int .i64 0] rfl (by (try simp only [List.map_toArray, List.map_cons, List.map_nil]); first | done | rfl | (simp only [List.length_drop, List.length_take]; rfl)) ?_; (with_reducible refine (spec_signFrom.calls _ _ l0 0 t106 _ ?side1 ?side2 A2.out).mono ?_); (case side1 => repeat (first | exact HR0.out | (with_reducible refine Kd.C_alloc ?_ _) | (with_reducible refine Kd.C_drewN ?_ _) | (with_reducible refine Kd.C_drew ?_))); (case side2 => exact HC0.out); rintro e w' ⟨rfl, ⟨nd, rfl⟩⟩; refine ⟨_, rfl, ?_⟩) | ((with_reducible refine gate_callee (f := 17) rfl ?_); refine goesL_ (some 9) rfl rfl Tryd.func17 (by kernel_rfl) rfl #[.slice A0 l0.length c0, .int .i64 t106] rfl (by (try simp only [List.map_toArray, List.map_cons, List.map_nil]); first | done | rfl | (simp only [List.length_drop, List.length_take]; rfl)) ?_; (with_reducible refine (spec_digitsFrom.calls k _ _ l0 t106 t107 _ ?side1 ?side2 A3.out).mono ?_); (case side1 => repeat (first | exact HR0.out | (with_reducible refine Kd.C_alloc ?_ _) | (with_reducible refine Kd.C_drewN ?_ _) | (with_reducible refine Kd.C_drew ?_))); (case side2 => exact HC0.out); rintro e w' ⟨rfl, ⟨nd, rfl⟩⟩; refine ⟨_, rfl, ?_⟩))
  (try simp only [Act.put, List.setIfInBounds_toArray, List.set_cons_zero, List.set_cons_succ])
  go_cut [26] (fun v26 wc => ∃ (kq : Nat) (x26_3 : Bool), v26 = .bool x26_3 ∧ Aside0 (spec_DecimalLength.j0 kq l0 t106 t107 x26_3 = some r) ∧ Aside0 (kq ≤ k) ∧ Drawn0 w wc)
  case first =>
    have H := HC4.out
    clear HC4
    by_cases c5 : t107 < (l0.length : Int)
    · rw [if_pos c5] at H
      have c5b0 : decide (t107 < (l0.length : Int)) = true := decide_eq_true c5
      clear c5
      (first | rw [c5b0] | (simp only [i64_w, i32_w]; rw [c5b0]) | skip)
      by_cases c6 : 0 ≤ t107
      · rw [if_pos c6] at H
        have c6b0 : decide (0 ≤ t107) = true := decide_eq_true c6
        clear c6
        by_cases c7 : (rd l0 t107) = 46
        · rw [if_pos c7] at H
          have c7b0 : ((rd l0 t107) == 46) = true := beq_iff_eq.mpr c7
          have c7b1 : ((rd l0 t107) != 46) = false := bne_eq_false_iff_eq.mpr c7
          clear c7
          replace H := Option.bind_eq_some_iff.mp H
          obtain ⟨t109, A80, H⟩ := H
          replace H : (spec_DecimalLength.j0 k l0 t106 t107 t109) = some r := H
          have A8 := Aside0.mk A80
          clear A80
          have H' := Aside0.mk H
          clear H
          have p108 : 0 ≤ (t107 : Int) := of_decide_eq_true (by first | (with_reducible assumption) | assumption)
          have q108 : t107 < (l0.length : Int) := of_decide_eq_true (by first | (with_reducible assumption) | assumption)
          obtain ⟨ad108, e108, hx108_0⟩ := Kd.at_int HR0.out t107 p108 q108
          cases e108
          replace p108 := eq_true p108
          replace q108 := eq_true q108
          go_wp2_with (first | (go_at_call 16; (with_reducible refine (spec_digitAt.calls _ _ l0 (wrap64 (t107 + 1)) t109 _ ?side1 ?side2 A8.out).mono ?_); (case side1 => repeat (first | exact HR0.out | (with_reducible refine Kd.C_alloc ?_ _) | (with_reducible refine Kd.C_drewN ?_ _) | (with_reducible refine Kd.C_drew ?_))); (case side2 => exact HC0.out); rintro e w' ⟨rfl, ⟨nd, rfl⟩⟩))
          go_meet
          case rel => exact ⟨_, (t109), (by first | rfl | (simp; done) | (simp [*]; done)), H', ⟨by first | omega | exact Nat.le_refl _⟩, by repeat (first | exact Drawn0.refl _ | apply Drawn0.step)⟩
        · rw [if_neg c7] at H
          have c7b0 : ((rd l0 t107) == 46) = false := beq_eq_false_iff_ne.mpr c7
          have c7b1 : ((rd l0 t107) != 46) = true := bne_iff_ne.mpr c7
          have H' := Aside0.mk H
          clear H
          have p108 : 0 ≤ (t107 : Int) := of_decide_eq_true (by first | (with_reducible assumption) | assumption)
          have q108 : t107 < (l0.length : Int) := of_decide_eq_true (by first | (with_reducible assumption) | assumption)
          obtain ⟨ad108, e108, hx108_0⟩ := Kd.at_int HR0.out t107 p108 q108
          cases e108
          replace p108 := eq_true p108
          replace q108 := eq_true q108
          go_wp2
          go_meet
          case rel => exact ⟨_, (false), (by first | rfl | (simp; done) | (simp [*]; done)), H', ⟨by first | omega | exact Nat.le_refl _⟩, by repeat (first | exact Drawn0.refl _ | apply Drawn0.step)⟩
      · rw [if_neg c6] at H
        exact absurd H (by simp)
    · rw [if_neg c5] at H
      have c5b0 : decide (t107 < (l0.length : Int)) = false := decide_eq_false c5
      clear c5
      (first | rw [c5b0] | (simp only [i64_w, i32_w]; rw [c5b0]) | skip)
      have H' := Aside0.mk H
      clear H
      go_wp2
      go_meet
      case rel => exact ⟨_, (false), (by first | rfl | (simp; done) | (simp [*]; done)), H', ⟨by first | omega | exact Nat.le_refl _⟩, by repeat (first | exact Drawn0.refl _ | apply Drawn0.step)⟩
  case rest =>
    clear HC4
    try clear c1
    try clear p1
    try clear q1
    try clear hx1
    try clear p2
    try clear c5
    try clear c5b0
    try clear c6
    try clear c6b0
    try clear p6
    try clear c7
    try clear c7b0
    try clear c7b1
    try clear hx108_0
    try clear p108
    try clear q108
    obtain ⟨kq, x26_3, rfl, HA, HJ3, ⟨mc3, rfl⟩⟩ := hcut
    cases kq with
    | zero => exact absurd HA.out (by simp [spec_DecimalLength.j0])
    | succ kj3 =>
      have H := HA.out
      clear HA
      simp only [spec_DecimalLength.j0] at H
      by_cases c9 : x26_3 = true
      · subst c9
        have H1 : ((spec_digitsFrom.f kj3 l0 (wrap64 (t107 + 1))).bind fun t110 => (some t110)) = some r := by rw [if_pos rfl] at H; exact H
        clear H
        have H := H1
        clear H1
        replace H := Option.bind_eq_some_iff.mp H
        obtain ⟨t110, A100, H⟩ := H
        replace H : (some t110) = some r := H
        have A10 := Aside0.mk A100
        clear A100
        obtain rfl := Option.some.inj H
        go_wp2_with (first | ((with_reducible refine gate_callee (f := 17) rfl ?_); refine goesL_ (some 30) rfl rfl Tryd.func17 (by kernel_rfl) rfl #[.slice A0 l0.length c0, .int .i64 (wrap64 (t107 + 1))] rfl (by (try simp only [List.map_toArray, List.map_cons, List.map_nil]); first | done | rfl | (simp only [List.length_drop, List.length_take]; rfl)) ?_; (with_reducible refine (spec_digitsFrom.calls kj3 _ _ l0 (wrap64 (t107 + 1)) t110 _ ?side1 ?side2 A10.out).mono ?_); (case side1 => repeat (first | exact HR0.out | (with_reducible refine Kd.C_alloc ?_ _) | (with_reducible refine Kd.C_drewN ?_ _) | (with_reducible refine Kd.C_drew ?_))); (case side2 => exact HC0.out); rintro e w' ⟨rfl, ⟨nd, rfl⟩⟩; refine ⟨_, rfl, ?_⟩))
        go_ret
        exact ⟨by first | rfl | (simp; done) | (simp [*]; done), by repeat (first | exact Drawn0.refl _ | apply Drawn0.step)⟩
      · replace c9 := Bool.eq_false_iff.mpr c9
        subst c9
        have H1 : (if t107 = t106 then (some 0) else (some t107)) = some r := by rw [if_neg (show ¬ (false = true) by decide)] at H; exact H
        clear H
        have H := H1
        clear H1
        by_cases c11 : t107 = t106
        · rw [if_pos c11] at H
          have c11b0 : (t107 == t106) = true := beq_iff_eq.mpr c11
          have c11b1 : (t107 != t106) = false := bne_eq_false_iff_eq.mpr c11
          clear c11
          obtain rfl := Option.some.inj H
          go_wp2
          go_ret
          exact ⟨by first | rfl | (simp; done) | (simp [*]; done), by repeat (first | exact Drawn0.refl _ | apply Drawn0.step)⟩
        · rw [if_neg c11] at H
          have c11b0 : (t107 == t106) = false := beq_eq_false_iff_ne.mpr c11
          have c11b1 : (t107 != t106) = true := bne_iff_ne.mpr c11
          obtain rfl := Option.some.inj H
          go_wp2
          go_ret
          exact ⟨by first | rfl | (simp; done) | (simp [*]; done), by repeat (first | exact Drawn0.refl _ | apply Drawn0.step)⟩

/-! ### spec_NumberLength: function 6 -/
def spec_NumberLength.j0 : Nat → List Int → Int → Bool → Option (Int)
  | 0, _, _, _ => none
  | k + 1, x0, x3, x28 => if x28 = true then (some x3) else ((spec_signFrom.f x0 (wrap64 (x3 + 1))).bind fun t114 => ((spec_digitAt.f x0 t114).bind fun t115 => (if t115 = true then ((spec_digitsFrom.f k x0 t114).bind fun t116 => (some t116)) else (some x3))))
def spec_NumberLength.f (k : Nat) (l0 : List Int) : Option (Int) := (spec_DecimalLength.f k l0).bind fun t111 => (if t111 = 0 then (spec_NumberLength.j0 k l0 t111 true) else (if t111 = (l0.length : Int) then (spec_NumberLength.j0 k l0 t111 true) else (if 0 ≤ t111 then (if t111 < (l0.length : Int) then (if (rd l0 t111) = 101 then (spec_NumberLength.j0 k l0 t111 false) else (spec_NumberLength.j0 k l0 t111 ((rd l0 t111) != 69))) else (none)) else (none))))
theorem spec_NumberLength.mono_l : ∀ k, (∀ y0 y1 y2, LeO (spec_NumberLength.j0 k y0 y1 y2) (spec_NumberLength.j0 (k + 1) y0 y1 y2))
  | 0 => fun _ _ _ r h => by simp [spec_NumberLength.j0] at h
  | k + 1 => by
    have ih0 := spec_NumberLength.mono_l k
    · intro y0 y1 y2
      unfold spec_NumberLength.j0
      repeat' first
      | (with_reducible exact ih0 _ _ _)
      | (with_reducible exact spec_DecimalLength.mono _ _)
      | (with_reducible exact spec_digitsFrom.mono _ _ _)
      | (with_reducible exact LeO.refl _)
      | (with_reducible exact LeO.none _)
      | (with_reducible refine LeO.ite ?_ ?_)
      | (with_reducible refine LeO.bind ?_ (fun _ => ?_))
      | exact ih0 _ _ _
      | exact spec_DecimalLength.mono _ _
      | exact spec_digitsFrom.mono _ _ _
      | exact LeO.none _
      | refine LeO.ite ?_ ?_
      | refine LeO.bind ?_ (fun _ => ?_)
theorem spec_NumberLength.mono : ∀ a0 k, LeO (spec_NumberLength.f k a0) (spec_NumberLength.f (k + 1) a0) := by
  intro a0 k
  have ih0 := spec_NumberLength.mono_l k
  unfold spec_NumberLength.f
  repeat' first
      | (with_reducible exact ih0 _ _ _)
      | (with_reducible exact spec_DecimalLength.mono _ _)
      | (with_reducible exact spec_digitsFrom.mono _ _ _)
      | (with_reducible exact LeO.refl _)
      | (with_reducible exact LeO.none _)
      | (with_reducible refine LeO.ite ?_ ?_)
      | (with_reducible refine LeO.bind ?_ (fun _ => ?_))
      | exact ih0 _ _ _
      | exact spec_DecimalLength.mono _ _
      | exact spec_digitsFrom.mono _ _ _
      | exact LeO.none _
      | refine LeO.ite ?_ ?_
      | refine LeO.bind ?_ (fun _ => ?_)
set_option maxHeartbeats 8000000 in
set_option maxRecDepth 100000 in
theorem spec_NumberLength.calls (k : Nat) (A0 : Option Addr) (c0 : Nat) (l0 : List Int) (r : Int) (w : World) (hr0 : Kd.C (Kd.int .u8) w A0 l0.length l0) (hc0 : l0.length ≤ c0) (h : spec_NumberLength.f k l0 = some r) :
    Calls Tryd.prog 6 #[.slice A0 l0.length c0] w fun e w' => e = .returned (.int .i64 r) ∧ Drawn0 w w' := by
  have HR0 := Aside0.mk hr0
  have HC0 := Aside0.mk hc0
  clear hr0 hc0
  have H : ((spec_DecimalLength.f k l0).bind fun t111 => (if t111 = 0 then (spec_NumberLength.j0 k l0 t111 true) else (if t111 = (l0.length : Int) then (spec_NumberLength.j0 k l0 t111 true) else (if 0 ≤ t111 then (if t111 < (l0.length : Int) then (if (rd l0 t111) = 101 then (spec_NumberLength.j0 k l0 t111 false) else (spec_NumberLength.j0 k l0 t111 ((rd l0 t111) != 69))) else (none)) else (none))))) = some r := h
  clear h
  replace H := Option.bind_eq_some_iff.mp H
  obtain ⟨t111, A20, H⟩ := H
  replace H : (if t111 = 0 then (spec_NumberLength.j0 k l0 t111 true) else (if t111 = (l0.length : Int) then (spec_NumberLength.j0 k l0 t111 true) else (if 0 ≤ t111 then (if t111 < (l0.length : Int) then (if (rd l0 t111) = 101 then (spec_NumberLength.j0 k l0 t111 false) else (spec_NumberLength.j0 k l0 t111 ((rd l0 t111) != 69))) else (none)) else (none)))) = some r := H
  have A2 := Aside0.mk A20
  clear A20
  have HC3 := Aside0.mk H
  clear H
  go_enter Tryd.func6, Tryd.ntmps6
  go_upto_region 2 with (first | ((with_reducible refine gate_callee (f := 14) rfl ?_); refine goesL_ (some 6) rfl rfl Tryd.func14 (by kernel_rfl) rfl #[.slice A0 l0.length c0] rfl (by (try simp only [List.map_toArray, List.map_cons, List.map_nil]); first | done | rfl | (simp only [List.length_drop, List.length_take]; rfl)) ?_; (with_reducible refine (spec_DecimalLength.calls k _ _ l0 t111 _ ?side1 ?side2 A2.out).mono ?_); (case side1 => repeat (first | exact HR0.out | (with_reducible refine Kd.C_alloc ?_ _) | (with_reducible refine Kd.C_drewN ?_ _) | (with_reducible refine Kd.C_drew ?_))); (case side2 => exact HC0.out); rintro e w' ⟨rfl, ⟨nd, rfl⟩⟩; refine ⟨_, rfl, ?_⟩))
  (try simp only [Act.put, List.setIfInBounds_toArray, List.set_cons_zero, List.set_cons_succ])
  go_cut [28] (fun v28 wc => ∃ (kq : Nat) (x28_2 : Bool), v28 = .bool x28_2 ∧ Aside0 (spec_NumberLength.j0 kq l0 t111 x28_2 = some r) ∧ Aside0 (kq ≤ k) ∧ Drawn0 w wc)
  case first =>
    have H := HC3.out
    clear HC3
    by_cases c4 : t111 = 0
    · rw [if_pos c4] at H
      have c4b0 : (t111 == 0) = true := beq_iff_eq.mpr c4
      have c4b1 : (t111 != 0) = false := bne_eq_false_iff_eq.mpr c4
      clear c4
      (first | rw [c4b0] | (simp only [i64_w, i32_w]; rw [c4b0]) | skip)
      have H' := Aside0.mk H
      clear H
      go_wp2
      go_meet
      case rel => exact ⟨_, (true), (by first | rfl | (simp; done) | (simp [*]; done)), H', ⟨by first | omega | exact Nat.le_refl _⟩, by repeat (first | exact Drawn0.refl _ | apply Drawn0.step)⟩
    · rw [if_neg c4] at H
      have c4b0 : (t111 == 0) = false := beq_eq_false_iff_ne.mpr c4
      have c4b1 : (t111 != 0) = true := bne_iff_ne.mpr c4
      (first | rw [c4b0] | (simp only [i64_w, i32_w]; rw [c4b0]) | skip)
      by_cases c5 : t111 = (l0.length : Int)
      · rw [if_pos c5] at H
        have c5b0 : (t111 == (l0.length : Int)) = true := beq_iff_eq.mpr c5
        have c5b1 : (t111 != (l0.length : Int)) = false := bne_eq_false_iff_eq.mpr c5
        clear c5
        have H' := Aside0.mk H
        clear H
        go_wp2
        go_meet
        case rel => exact ⟨_, (true), (by first | rfl | (simp; done) | (simp [*]; done)), H', ⟨by first | omega | exact Nat.le_refl _⟩, by repeat (first | exact Drawn0.refl _ | apply Drawn0.step)⟩
      · rw [if_neg c5] at H
        have c5b0 : (t111 == (l0.length : Int)) = false := beq_eq_false_iff_ne.mpr c5
        have c5b1 : (t111 != (l0.length : Int)) = true := bne_iff_ne.mpr c5
        by_cases c6 : 0 ≤ t111
        · rw [if_pos c6] at H
          have c6b0 : decide (0 ≤ t111) = true := decide_eq_true c6
          clear c6
          by_cases c7 : t111 < (l0.length : Int)
          · rw [if_pos c7] at H
            have c7b0 : decide (t111 < (l0.length : Int)) = true := decide_eq_true c7
            clear c7
            by_cases c8 : (rd l0 t111) = 101
            · rw [if_pos c8] at H
              have c8b0 : ((rd l0 t111) == 101) = true := beq_iff_eq.mpr c8
              have c8b1 : ((rd l0 t111) != 101) = false := bne_eq_false_iff_eq.mpr c8
              clear c8
              have H' := Aside0.mk H
              clear H
              have p112 : 0 ≤ (t111 : Int) := of_decide_eq_true (by first | (with_reducible assumption) | assumption)
              have q112 : t111 < (l0.length : Int) := of_decide_eq_true (by first | (with_reducible assumption) | assumption)
              obtain ⟨ad112, e112, hx112_0⟩ := Kd.at_int HR0.out t111 p112 q112
              cases e112
              replace p112 := eq_true p112
              replace q112 := eq_true q112
              go_wp2
              go_meet
              case rel => exact ⟨_, (false), (by first | rfl | (simp; done) | (simp [*]; done)), H', ⟨by first | omega | exact Nat.le_refl _⟩, by repeat (first | exact Drawn0.refl _ | apply Drawn0.step)⟩
            · rw [if_neg c8] at H
              have c8b0 : ((rd l0 t111) == 101) = false := beq_eq_false_iff_ne.mpr c8
              have c8b1 : ((rd l0 t111) != 101) = true := bne_iff_ne.mpr c8
              have H' := Aside0.mk H
              clear H
              have p112 : 0 ≤ (t111 : Int) := of_decide_eq_true (by first | (with_reducible assumption) | assumption)
              have q112 : t111 < (l0.length : Int) := of_decide_eq_true (by first | (with_reducible assumption) | assumption)
              obtain ⟨ad112, e112, hx112_0⟩ := Kd.at_int HR0.out t111 p112 q112
              cases e112
              replace p112 := eq_true p112
              replace q112 := eq_true q112
              have p113 : 0 ≤ (t111 : Int) := of_decide_eq_true (by first | (with_reducible assumption) | assumption)
              have q113 : t111 < (l0.length : Int) := of_decide_eq_true (by first | (with_reducible assumption) | assumption)
              obtain ⟨ad113, e113, hx113_0⟩ := Kd.at_int HR0.out t111 p113 q113
              obtain rfl : ad112 = ad113 := (by injection e113)
              replace p113 := eq_true p113
              replace q113 := eq_true q113
              go_wp2
              go_meet
              case rel => exact ⟨_, (((rd l0 t111) != 69)), (by first | rfl | (simp; done) | (simp [*]; done)), H', ⟨by first | omega | exact Nat.le_refl _⟩, by repeat (first | exact Drawn0.refl _ | apply Drawn0.step)⟩
          · rw [if_neg c7] at H
            exact absurd H (by simp)
        · rw [if_neg c6] at H
          exact absurd H (by simp)
  case rest =>
    clear HC3
    try clear c1
    try clear p1
    try clear q1
    try clear hx1
    try clear p2
    try clear c4
    try clear c4b0
    try clear c4b1
    try clear c5
    try clear c5b0
    try clear c5b1
    try clear c6
    try clear c6b0
    try clear c7
    try clear c7b0
    try clear c8
    try clear c8b0
    try clear c8b1
    try clear hx112_0
    try clear hx113_0
    try clear p112
    try clear p113
    try clear q112
    try clear q113
    obtain ⟨kq, x28_2, rfl, HA, HJ2, ⟨mc2, rfl⟩⟩ := hcut
    cases kq with
    | zero => exact absurd HA.out (by simp [spec_NumberLength.j0])
    | succ kj2 =>
      have H := HA.out
      clear HA
      simp only [spec_NumberLength.j0] at H
      by_cases c9 : x28_2 = true
      · subst c9
        have H1 : (some t111) = some r := by rw [if_pos rfl] at H; exact H
        clear H
        have H := H1
        clear H1
        obtain rfl := Option.some.inj H
        go_wp2
        go_ret
        exact ⟨by first | rfl | (simp; done) | (simp [*]; done), by repeat (first | exact Drawn0.refl _ | apply Drawn0.step)⟩
      · replace c9 := Bool.eq_false_iff.mpr c9
        subst c9
        have H1 : ((spec_signFrom.f l0 (wrap64 (t111 + 1))).bind fun t114 => ((spec_digitAt.f l0 t114).bind fun t115 => (if t115 = true then ((spec_digitsFrom.f kj2 l0 t114).bind fun t116 => (some t116)) else (some t111)))) = some r := by rw [if_neg (show ¬ (false = true) by decide)] at H; exact H
        clear H
        have H := H1
        clear H1
        replace H := Option.bind_eq_some_iff.mp H
        obtain ⟨t114, A100, H⟩ := H
        replace H : ((spec_digitAt.f l0 t114).bind fun t115 => (if t115 = true then ((spec_digitsFrom.f kj2 l0 t114).bind fun t116 => (some t116)) else (some t111))) = some r := H
        have A10 := Aside0.mk A100
        clear A100
        replace H := Option.bind_eq_some_iff.mp H
        obtain ⟨t115, A110, H⟩ := H
        replace H : (if t115 = true then ((spec_digitsFrom.f kj2 l0 t114).bind fun t116 => (some t116)) else (some t111)) = some r := H
        have A11 := Aside0.mk A110
        clear A110
        by_cases c12 : t115 = true
        · subst c12
          have H1 : ((spec_digitsFrom.f kj2 l0 t114).bind fun t116 => (some t116)) = some r := by rw [if_pos rfl] at H; exact H
          clear H
          have H := H1
          clear H1
          replace H := Option.bind_eq_some_iff.mp H
          obtain ⟨t116, A130, H⟩ := H
          replace H : (some t116) = some r := H
          have A13 := Aside0.mk A130
          clear A130
          obtain rfl := Option.some.inj H
          go_wp2_with (first | ((with_reducible refine gate_callee (f := 15) rfl ?_); refine goesL_ (some 33) rfl rfl Tryd.func15 (by kernel_rfl) rfl #[.slice A0 l0.length c0, .int .i64 (wrap64 (t111 + 1))] rfl (by (try simp only [List.map_toArray, List.map_cons, List.map_nil]); first | done | rfl | (simp only [List.length_drop, List.length_take]; rfl)) ?_; (with_reducible refine (spec_signFrom.calls _ _ l0 (wrap64 (t111 + 1)) t114 _ ?side1 ?side2 A10.out).mono ?_); (case side1 => repeat (first | exact HR0.out | (with_reducible refine Kd.C_alloc ?_ _) | (with_reducible refine Kd.C_drewN ?_ _) | (with_reducible refine Kd.C_drew ?_))); (case side2 => exact HC0.out); rintro e w' ⟨rfl, ⟨nd, rfl⟩⟩; refine ⟨_, rfl, ?_⟩) | ((with_reducible refine gate_callee (f := 16) rfl ?_); refine goesL_ (some 36) rfl rfl Tryd.func16 (by kernel_rfl) rfl #[.slice A0 l0.length c0, .int .i64 t114] rfl (by (try simp only [List.map_toArray, List.map_cons, List.map_nil]); first | done | rfl | (simp only [List.length_drop, List.length_take]; rfl)) ?_; (with_reducible refine (spec_digitAt.calls _ _ l0 t114 true _ ?side1 ?side2 A11.out).mono ?_); (case side1 => repeat (first | exact HR0.out | (with_reducible refine Kd.C_alloc ?_ _) | (with_reducible refine Kd.C_drewN ?_ _) | (with_reducible refine Kd.C_drew ?_))); (case side2 => exact HC0.out); rintro e w' ⟨rfl, ⟨nd, rfl⟩⟩; refine ⟨_, rfl, ?_⟩) | ((with_reducible refine gate_callee (f := 17) rfl ?_); refine goesL_ (some 41) rfl rfl Tryd.func17 (by kernel_rfl) rfl #[.slice A0 l0.length c0, .int .i64 t114] rfl (by (try simp only [List.map_toArray, List.map_cons, List.map_nil]); first | done | rfl | (simp only [List.length_drop, List.length_take]; rfl)) ?_; (with_reducible refine (spec_digitsFrom.calls kj2 _ _ l0 t114 t116 _ ?side1 ?side2 A13.out).mono ?_); (case side1 => repeat (first | exact HR0.out | (with_reducible refine Kd.C_alloc ?_ _) | (with_reducible refine Kd.C_drewN ?_ _) | (with_reducible refine Kd.C_drew ?_))); (case side2 => exact HC0.out); rintro e w' ⟨rfl, ⟨nd, rfl⟩⟩; refine ⟨_, rfl, ?_⟩))
          go_ret
          exact ⟨by first | rfl | (simp; done) | (simp [*]; done), by repeat (first | exact Drawn0.refl _ | apply Drawn0.step)⟩
        · replace c12 := Bool.eq_false_iff.mpr c12
          subst c12
          have H1 : (some t111) = some r := by rw [if_neg (show ¬ (false = true) by decide)] at H; exact H
          clear H
          have H := H1
          clear H1
          obtain rfl := Option.some.inj H
          go_wp2_with (first | ((with_reducible refine gate_callee (f := 15) rfl ?_); refine goesL_ (some 33) rfl rfl Tryd.func15 (by kernel_rfl) rfl #[.slice A0 l0.length c0, .int .i64 (wrap64 (t111 + 1))] rfl (by (try simp only [List.map_toArray, List.map_cons, List.map_nil]); first | done | rfl | (simp only [List.length_drop, List.length_take]; rfl)) ?_; (with_reducible refine (spec_signFrom.calls _ _ l0 (wrap64 (t111 + 1)) t114 _ ?side1 ?side2 A10.out).mono ?_); (case side1 => repeat (first | exact HR0.out | (with_reducible refine Kd.C_alloc ?_ _) | (with_reducible refine Kd.C_drewN ?_ _) | (with_reducible refine Kd.C_drew ?_))); (case side2 => exact HC0.out); rintro e w' ⟨rfl, ⟨nd, rfl⟩⟩; refine ⟨_, rfl, ?_⟩) | ((with_reducible refine gate_callee (f := 16) rfl ?_); refine goesL_ (some 36) rfl rfl Tryd.func16 (by kernel_rfl) rfl #[.slice A0 l0.length c0, .int .i64 t114] rfl (by (try simp only [List.map_toArray, List.map_cons, List.map_nil]); first | done | rfl | (simp only [List.length_drop, List.length_take]; rfl)) ?_; (with_reducible refine (spec_digitAt.calls _ _ l0 t114 false _ ?side1 ?side2 A11.out).mono ?_); (case side1 => repeat (first | exact HR0.out | (with_reducible refine Kd.C_alloc ?_ _) | (with_reducible refine Kd.C_drewN ?_ _) | (with_reducible refine Kd.C_drew ?_))); (case side2 => exact HC0.out); rintro e w' ⟨rfl, ⟨nd, rfl⟩⟩; refine ⟨_, rfl, ?_⟩))
          go_ret
          exact ⟨by first | rfl | (simp; done) | (simp [*]; done), by repeat (first | exact Drawn0.refl _ | apply Drawn0.step)⟩

/-! ### laws_fewBytes: function 7 -/
def laws_fewBytes.l0 : Nat → List (List Int) → Int → Int → Option (Bool)
  | 0, _, _, _ => none
  | k + 1, x5, x6, x7 => if x7 < x6 then (if 0 ≤ x7 then (if x7 < (x5.length : Int) then (if ((rd_L1 x5 x7).length : Int) > 300 then (some false) else (laws_fewBytes.l0 k x5 x6 (wrap64 (x7 + 1)))) else (none)) else (none)) else (some true)
def laws_fewBytes.f (k : Nat) (l0 : List (List Int)) : Option (Bool) := laws_fewBytes.l0 k l0 (l0.length : Int) 0
theorem laws_fewBytes.mono_l : ∀ k, (∀ y0 y1 y2, LeO (laws_fewBytes.l0 k y0 y1 y2) (laws_fewBytes.l0 (k + 1) y0 y1 y2))
  | 0 => fun _ _ _ r h => by simp [laws_fewBytes.l0] at h
  | k + 1 => by
    have ih0 := laws_fewBytes.mono_l k
    · intro y0 y1 y2
      unfold laws_fewBytes.l0
      repeat' first
      | (with_reducible exact ih0 _ _ _)
      | (with_reducible exact LeO.refl _)
      | (with_reducible exact LeO.none _)
      | (with_reducible refine LeO.ite ?_ ?_)
      | (with_reducible refine LeO.bind ?_ (fun _ => ?_))
      | exact ih0 _ _ _
      | exact LeO.none _
      | refine LeO.ite ?_ ?_
      | refine LeO.bind ?_ (fun _ => ?_)
theorem laws_fewBytes.mono : ∀ a0 k, LeO (laws_fewBytes.f k a0) (laws_fewBytes.f (k + 1) a0) := by
  intro a0 k
  have ih0 := laws_fewBytes.mono_l k
  unfold laws_fewBytes.f
  repeat' first
      | (with_reducible exact ih0 _ _ _)
      | (with_reducible exact LeO.refl _)
      | (with_reducible exact LeO.none _)
      | (with_reducible refine LeO.ite ?_ ?_)
      | (with_reducible refine LeO.bind ?_ (fun _ => ?_))
      | exact ih0 _ _ _
      | exact LeO.none _
      | refine LeO.ite ?_ ?_
      | refine LeO.bind ?_ (fun _ => ?_)
set_option maxHeartbeats 8000000 in
set_option maxRecDepth 100000 in
theorem laws_fewBytes.calls (k : Nat) (A0 : Option Addr) (c0 : Nat) (l0 : List (List Int)) (r : Bool) (w : World) (hr0 : Kd.C (Kd.slice 5 (Kd.int .u8)) w A0 l0.length l0) (hc0 : l0.length ≤ c0) (h : laws_fewBytes.f k l0 = some r) :
    Calls Tryd.prog 7 #[.slice A0 l0.length c0] w fun e w' => e = .returned (.bool r) ∧ Drawn0 w w' := by
  have HR0 := Aside0.mk hr0
  have HC0 := Aside0.mk hc0
  clear hr0 hc0
  have H : (laws_fewBytes.l0 k l0 (l0.length : Int) 0) = some r := h
  clear h
  have H' := Aside0.mk H
  clear H
  go_enter Tryd.func7, Tryd.ntmps7
  go_wp2
  go_loopg [7] k (fun kq v7 w' => ∃ (x7_1 : Int), v7 = .int .i64 x7_1 ∧ Aside0 (laws_fewBytes.l0 kq l0 (l0.length : Int) x7_1 = some r) ∧ Aside0 (kq ≤ k) ∧ Drawn0 w w')
  case atStart => exact ⟨(0), (by first | rfl | (simp; done) | (simp [*]; done)), H', ⟨Nat.le_refl _⟩, by repeat (first | exact Drawn0.refl _ | apply Drawn0.step)⟩
  case round =>
    clear H'
    obtain ⟨x7_1, rfl, HA, HK1, ⟨m1, rfl⟩⟩ := hrel
    cases gk with
    | zero => exact absurd HA.out (by simp [laws_fewBytes.l0])
    | succ k1 =>
      have H := HA.out
      clear HA
      simp only [laws_fewBytes.l0] at H
      by_cases c2 : x7_1 < (l0.length : Int)
      · rw [if_pos c2] at H
        have c2b0 : decide (x7_1 < (l0.length : Int)) = true := decide_eq_true c2
        clear c2
        by_cases c3 : 0 ≤ x7_1
        · rw [if_pos c3] at H
          have c3b0 : decide (0 ≤ x7_1) = true := decide_eq_true c3
          clear c3
          by_cases c4 : x7_1 < (l0.length : Int)
          · rw [if_pos c4] at H
            have c4b0 : decide (x7_1 < (l0.length : Int)) = true := decide_eq_true c4
            clear c4
            by_cases c5 : ((rd_L1 l0 x7_1).length : Int) > 300
            · rw [if_pos c5] at H
              have c5b0 : decide (300 < ((rd_L1 l0 x7_1).length : Int)) = true := decide_eq_true c5
              have c5b1 : decide (300 < (rd_L1 l0 x7_1).length) = true := decide_eq_true (by omega)
              clear c5
              obtain rfl := Option.some.inj H
              have p117 : 0 ≤ (x7_1 : Int) := of_decide_eq_true (by first | (with_reducible assumption) | assumption)
              have q117 : x7_1 < (l0.length : Int) := of_decide_eq_true (by first | (with_reducible assumption) | assumption)
              obtain ⟨ad117, A117_0, c117_0, e117, hx117_0, hl117_0, hi117_0⟩ := at_L1 HR0.out x7_1 p117 q117
              cases e117
              have HR117_0 := Aside0.mk hi117_0
              have HC117_0 := Aside0.mk hl117_0
              clear hi117_0 hl117_0
              replace p117 := eq_true p117
              replace q117 := eq_true q117
              go_wp2
              go_ret
              exact ⟨by first | rfl | (simp; done) | (simp [*]; done), by repeat (first | exact Drawn0.refl _ | apply Drawn0.step)⟩
            · rw [if_neg c5] at H
              have c5b0 : decide (300 < ((rd_L1 l0 x7_1).length : Int)) = false := decide_eq_false c5
              have c5b1 : decide (300 < (rd_L1 l0 x7_1).length) = false := decide_eq_false (by omega)
              clear c5
              have H' := Aside0.mk H
              clear H
              have p117 : 0 ≤ (x7_1 : Int) := of_decide_eq_true (by first | (with_reducible assumption) | assumption)
              have q117 : x7_1 < (l0.length : Int) := of_decide_eq_true (by first | (with_reducible assumption) | assumption)
              obtain ⟨ad117, A117_0, c117_0, e117, hx117_0, hl117_0, hi117_0⟩ := at_L1 HR0.out x7_1 p117 q117
              cases e117
              have HR117_0 := Aside0.mk hi117_0
              have HC117_0 := Aside0.mk hl117_0
              clear hi117_0 hl117_0
              replace p117 := eq_true p117
              replace q117 := eq_true q117
              go_wp2
              go_roundg k1
              case measure => have := HK1.out; omega
              case rel => exact ⟨(wrap64 (x7_1 + 1)), (by first | rfl | (simp; done) | (simp [*]; done)), H', ⟨by have := HK1.out; omega⟩, by repeat (first | exact Drawn0.refl _ | apply Drawn0.step)⟩
          · rw [if_neg c4] at H
            exact absurd H (by simp)
        · rw [if_neg c3] at H
          exact absurd H (by simp)
      · rw [if_neg c2] at H
        have c2b0 : decide (x7_1 < (l0.length : Int)) = false := decide_eq_false c2
        clear c2
        obtain rfl := Option.some.inj H
        go_wp2
        go_ret
        exact ⟨by first | rfl | (simp; done) | (simp [*]; done), by repeat (first | exact Drawn0.refl _ | apply Drawn0.step)⟩

end Go.Proofs.YtmpgbakkpbmpiaaDoor.PFnNumberFloatLength
