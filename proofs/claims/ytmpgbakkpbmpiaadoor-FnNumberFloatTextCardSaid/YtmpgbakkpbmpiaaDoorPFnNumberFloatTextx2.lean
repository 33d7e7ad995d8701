-- PRINTED BY print.sh 35421559b90ae4d0a3588c463048766b98c2df88dd9212a6774a882060cdf62d: not written by this session
import Derived.Test.YtmpgbakkpbmpiaaDoorPFnNumberFloatTextx0
namespace Go.Proofs.YtmpgbakkpbmpiaaDoor.PFnNumberFloatText
open Go.RowKit Go.Proofs.YtmpgbakkpbmpiaaDoorW.PrintWords Go.Proofs.YtmpgbakkpbmpiaaDoorW.PrintLast Go.Proofs.YtmpgbakkpbmpiaaDoorW.PrintMore
attribute [local go_sem] max2_int min2_int max_two min_two max_three min_three max_four min_four   -- for this text's walks alone
set_option linter.unusedVariables false
set_option linter.unusedSimpArgs false

/-! ### tdstrconv_LenUint: function 26 -/
def tdstrconv_LenUint.f (a0 : Int) : Option (Int) := if a0 < 10 then (some 1) else (if a0 < 100 then (some 2) else (if a0 < 1000 then (some 3) else (if a0 < 10000 then (some 4) else (if a0 < 100000 then (some 5) else (if a0 < 1000000 then (some 6) else (if a0 < 10000000 then (some 7) else (if a0 < 100000000 then (some 8) else (if a0 < 1000000000 then (some 9) else (if a0 < 10000000000 then (some 10) else (if a0 < 100000000000 then (some 11) else (if a0 < 1000000000000 then (some 12) else (if a0 < 10000000000000 then (some 13) else (if a0 < 100000000000000 then (some 14) else (if a0 < 1000000000000000 then (some 15) else (if a0 < 10000000000000000 then (some 16) else (if a0 < 100000000000000000 then (some 17) else (if a0 < 1000000000000000000 then (some 18) else (if a0 < 10000000000000000000 then (some 19) else (some 20)))))))))))))))))))
set_option maxHeartbeats 8000000 in
set_option maxRecDepth 100000 in
theorem tdstrconv_LenUint.calls (a0 : Int) (r : Int) (w : World) (h : tdstrconv_LenUint.f a0 = some r) :
    Calls Tryd.prog 26 #[.int .u64 a0] w fun e w' => e = .returned (.int .i64 r) ∧ Drawn0 w w' := by
  have H : (if a0 < 10 then (some 1) else (if a0 < 100 then (some 2) else (if a0 < 1000 then (some 3) else (if a0 < 10000 then (some 4) else (if a0 < 100000 then (some 5) else (if a0 < 1000000 then (some 6) else (if a0 < 10000000 then (some 7) else (if a0 < 100000000 then (some 8) else (if a0 < 1000000000 then (some 9) else (if a0 < 10000000000 then (some 10) else (if a0 < 100000000000 then (some 11) else (if a0 < 1000000000000 then (some 12) else (if a0 < 10000000000000 then (some 13) else (if a0 < 100000000000000 then (some 14) else (if a0 < 1000000000000000 then (some 15) else (if a0 < 10000000000000000 then (some 16) else (if a0 < 100000000000000000 then (some 17) else (if a0 < 1000000000000000000 then (some 18) else (if a0 < 10000000000000000000 then (some 19) else (some 20)))))))))))))))))))) = some r := h
  clear h
  by_cases c2 : a0 < 10
  · rw [if_pos c2] at H
    have c2b0 : decide (a0 < 10) = true := decide_eq_true c2
    clear c2
    obtain rfl := Option.some.inj H
    go_enter Tryd.func26, Tryd.ntmps26
    go_wp2
    go_ret
    exact ⟨by first | rfl | (simp; done) | (simp [*]; done), by repeat (first | exact Drawn0.refl _ | apply Drawn0.step)⟩
  · rw [if_neg c2] at H
    have c2b0 : decide (a0 < 10) = false := decide_eq_false c2
    clear c2
    by_cases c3 : a0 < 100
    · rw [if_pos c3] at H
      have c3b0 : decide (a0 < 100) = true := decide_eq_true c3
      clear c3
      obtain rfl := Option.some.inj H
      go_enter Tryd.func26, Tryd.ntmps26
      go_wp2
      go_ret
      exact ⟨by first | rfl | (simp; done) | (simp [*]; done), by repeat (first | exact Drawn0.refl _ | apply Drawn0.step)⟩
    · rw [if_neg c3] at H
      have c3b0 : decide (a0 < 100) = false := decide_eq_false c3
      clear c3
      by_cases c4 : a0 < 1000
      · rw [if_pos c4] at H
        have c4b0 : decide (a0 < 1000) = true := decide_eq_true c4
        clear c4
        obtain rfl := Option.some.inj H
        go_enter Tryd.func26, Tryd.ntmps26
        go_wp2
        go_ret
        exact ⟨by first | rfl | (simp; done) | (simp [*]; done), by repeat (first | exact Drawn0.refl _ | apply Drawn0.step)⟩
      · rw [if_neg c4] at H
        have c4b0 : decide (a0 < 1000) = false := decide_eq_false c4
        clear c4
        by_cases c5 : a0 < 10000
        · rw [if_pos c5] at H
          have c5b0 : decide (a0 < 10000) = true := decide_eq_true c5
          clear c5
          obtain rfl := Option.some.inj H
          go_enter Tryd.func26, Tryd.ntmps26
          go_wp2
          go_ret
          exact ⟨by first | rfl | (simp; done) | (simp [*]; done), by repeat (first | exact Drawn0.refl _ | apply Drawn0.step)⟩
        · rw [if_neg c5] at H
          have c5b0 : decide (a0 < 10000) = false := decide_eq_false c5
          clear c5
          by_cases c6 : a0 < 100000
          · rw [if_pos c6] at H
            have c6b0 : decide (a0 < 100000) = true := decide_eq_true c6
            clear c6
            obtain rfl := Option.some.inj H
            go_enter Tryd.func26, Tryd.ntmps26
            go_wp2
            go_ret
            exact ⟨by first | rfl | (simp; done) | (simp [*]; done), by repeat (first | exact Drawn0.refl _ | apply Drawn0.step)⟩
          · rw [if_neg c6] at H
            have c6b0 : decide (a0 < 100000) = false := decide_eq_false c6
            clear c6
            by_cases c7 : a0 < 1000000
            · rw [if_pos c7] at H
              have c7b0 : decide (a0 < 1000000) = true := decide_eq_true c7
              clear c7
              obtain rfl := Option.some.inj H
              go_enter Tryd.func26, Tryd.ntmps26
              go_wp2
              go_ret
              exact ⟨by first | rfl | (simp; done) | (simp [*]; done), by repeat (first | exact Drawn0.refl _ | apply Drawn0.step)⟩
            · rw [if_neg c7] at H
              have c7b0 : decide (a0 < 1000000) = false := decide_eq_false c7
              clear c7
              by_cases c8 : a0 < 10000000
              · rw [if_pos c8] at H
                have c8b0 : decide (a0 < 10000000) = true := decide_eq_true c8
                clear c8
                obtain rfl := Option.some.inj H
                go_enter Tryd.func26, Tryd.ntmps26
                go_wp2
                go_ret
                exact ⟨by first | rfl | (simp; done) | (simp [*]; done), by repeat (first | exact Drawn0.refl _ | apply Drawn0.step)⟩
              · rw [if_neg c8] at H
                have c8b0 : decide (a0 < 10000000) = false := decide_eq_false c8
                clear c8
                by_cases c9 : a0 < 100000000
                · rw [if_pos c9] at H
                  have c9b0 : decide (a0 < 100000000) = true := decide_eq_true c9
                  clear c9
                  obtain rfl := Option.some.inj H
                  go_enter Tryd.func26, Tryd.ntmps26
                  go_wp2
                  go_ret
                  exact ⟨by first | rfl | (simp; done) | (simp [*]; done), by repeat (first | exact Drawn0.refl _ | apply Drawn0.step)⟩
                · rw [if_neg c9] at H
                  have c9b0 : decide (a0 < 100000000) = false := decide_eq_false c9
                  clear c9
                  by_cases c10 : a0 < 1000000000
                  · rw [if_pos c10] at H
                    have c10b0 : decide (a0 < 1000000000) = true := decide_eq_true c10
                    clear c10
                    obtain rfl := Option.some.inj H
                    go_enter Tryd.func26, Tryd.ntmps26
                    go_wp2
                    go_ret
                    exact ⟨by first | rfl | (simp; done) | (simp [*]; done), by repeat (first | exact Drawn0.refl _ | apply Drawn0.step)⟩
                  · rw [if_neg c10] at H
                    have c10b0 : decide (a0 < 1000000000) = false := decide_eq_false c10
                    clear c10
                    by_cases c11 : a0 < 10000000000
                    · rw [if_pos c11] at H
                      have c11b0 : decide (a0 < 10000000000) = true := decide_eq_true c11
                      clear c11
                      obtain rfl := Option.some.inj H
                      go_enter Tryd.func26, Tryd.ntmps26
                      go_wp2
                      go_ret
                      exact ⟨by first | rfl | (simp; done) | (simp [*]; done), by repeat (first | exact Drawn0.refl _ | apply Drawn0.step)⟩
                    · rw [if_neg c11] at H
                      have c11b0 : decide (a0 < 10000000000) = false := decide_eq_false c11
                      clear c11
                      by_cases c12 : a0 < 100000000000
                      · rw [if_pos c12] at H
                        have c12b0 : decide (a0 < 100000000000) = true := decide_eq_true c12
                        clear c12
                        obtain rfl := Option.some.inj H
                        go_enter Tryd.func26, Tryd.ntmps26
                        go_wp2
                        go_ret
                        exact ⟨by first | rfl | (simp; done) | (simp [*]; done), by repeat (first | exact Drawn0.refl _ | apply Drawn0.step)⟩
                      · rw [if_neg c12] at H
                        have c12b0 : decide (a0 < 100000000000) = false := decide_eq_false c12
                        clear c12
                        by_cases c13 : a0 < 1000000000000
                        · rw [if_pos c13] at H
                          have c13b0 : decide (a0 < 1000000000000) = true := decide_eq_true c13
                          clear c13
                          obtain rfl := Option.some.inj H
                          go_enter Tryd.func26, Tryd.ntmps26
                          go_wp2
                          go_ret
                          exact ⟨by first | rfl | (simp; done) | (simp [*]; done), by repeat (first | exact Drawn0.refl _ | apply Drawn0.step)⟩
                        · rw [if_neg c13] at H
                          have c13b0 : decide (a0 < 1000000000000) = false := decide_eq_false c13
                          clear c13
                          by_cases c14 : a0 < 10000000000000
                          · rw [if_pos c14] at H
                            have c14b0 : decide (a0 < 10000000000000) = true := decide_eq_true c14
                            clear c14
                            obtain rfl := Option.some.inj H
                            go_enter Tryd.func26, Tryd.ntmps26
                            go_wp2
                            go_ret
                            exact ⟨by first | rfl | (simp; done) | (simp [*]; done), by repeat (first | exact Drawn0.refl _ | apply Drawn0.step)⟩
                          · rw [if_neg c14] at H
                            have c14b0 : decide (a0 < 10000000000000) = false := decide_eq_false c14
                            clear c14
                            by_cases c15 : a0 < 100000000000000
                            · rw [if_pos c15] at H
                              have c15b0 : decide (a0 < 100000000000000) = true := decide_eq_true c15
                              clear c15
                              obtain rfl := Option.some.inj H
                              go_enter Tryd.func26, Tryd.ntmps26
                              go_wp2
                              go_ret
                              exact ⟨by first | rfl | (simp; done) | (simp [*]; done), by repeat (first | exact Drawn0.refl _ | apply Drawn0.step)⟩
                            · rw [if_neg c15] at H
                              have c15b0 : decide (a0 < 100000000000000) = false := decide_eq_false c15
                              clear c15
                              by_cases c16 : a0 < 1000000000000000
                              · rw [if_pos c16] at H
                                have c16b0 : decide (a0 < 1000000000000000) = true := decide_eq_true c16
                                clear c16
                                obtain rfl := Option.some.inj H
                                go_enter Tryd.func26, Tryd.ntmps26
                                go_wp2
                                go_ret
                                exact ⟨by first | rfl | (simp; done) | (simp [*]; done), by repeat (first | exact Drawn0.refl _ | apply Drawn0.step)⟩
                              · rw [if_neg c16] at H
                                have c16b0 : decide (a0 < 1000000000000000) = false := decide_eq_false c16
                                clear c16
                                by_cases c17 : a0 < 10000000000000000
                                · rw [if_pos c17] at H
                                  have c17b0 : decide (a0 < 10000000000000000) = true := decide_eq_true c17
                                  clear c17
                                  obtain rfl := Option.some.inj H
                                  go_enter Tryd.func26, Tryd.ntmps26
                                  go_wp2
                                  go_ret
                                  exact ⟨by first | rfl | (simp; done) | (simp [*]; done), by repeat (first | exact Drawn0.refl _ | apply Drawn0.step)⟩
                                · rw [if_neg c17] at H
                                  have c17b0 : decide (a0 < 10000000000000000) = false := decide_eq_false c17
                                  clear c17
                                  by_cases c18 : a0 < 100000000000000000
                                  · rw [if_pos c18] at H
                                    have c18b0 : decide (a0 < 100000000000000000) = true := decide_eq_true c18
                                    clear c18
                                    obtain rfl := Option.some.inj H
                                    go_enter Tryd.func26, Tryd.ntmps26
                                    go_wp2
                                    go_ret
                                    exact ⟨by first | rfl | (simp; done) | (simp [*]; done), by repeat (first | exact Drawn0.refl _ | apply Drawn0.step)⟩
                                  · rw [if_neg c18] at H
                                    have c18b0 : decide (a0 < 100000000000000000) = false := decide_eq_false c18
                                    clear c18
                                    by_cases c19 : a0 < 1000000000000000000
                                    · rw [if_pos c19] at H
                                      have c19b0 : decide (a0 < 1000000000000000000) = true := decide_eq_true c19
                                      clear c19
                                      obtain rfl := Option.some.inj H
                                      go_enter Tryd.func26, Tryd.ntmps26
                                      go_wp2
                                      go_ret
                                      exact ⟨by first | rfl | (simp; done) | (simp [*]; done), by repeat (first | exact Drawn0.refl _ | apply Drawn0.step)⟩
                                    · rw [if_neg c19] at H
                                      have c19b0 : decide (a0 < 1000000000000000000) = false := decide_eq_false c19
                                      clear c19
                                      by_cases c20 : a0 < 10000000000000000000
                                      · rw [if_pos c20] at H
                                        have c20b0 : decide (a0 < 10000000000000000000) = true := decide_eq_true c20
                                        clear c20
                                        obtain rfl := Option.some.inj H
                                        go_enter Tryd.func26, Tryd.ntmps26
                                        go_wp2
                                        go_ret
                                        exact ⟨by first | rfl | (simp; done) | (simp [*]; done), by repeat (first | exact Drawn0.refl _ | apply Drawn0.step)⟩
                                      · rw [if_neg c20] at H
                                        have c20b0 : decide (a0 < 10000000000000000000) = false := decide_eq_false c20
                                        clear c20
                                        obtain rfl := Option.some.inj H
                                        go_enter Tryd.func26, Tryd.ntmps26
                                        go_wp2
                                        go_ret
                                        exact ⟨by first | rfl | (simp; done) | (simp [*]; done), by repeat (first | exact Drawn0.refl _ | apply Drawn0.step)⟩

/-! ### tdstrconv_LenInt: function 29 -/
def tdstrconv_LenInt.f (a0 : Int) : Option (Int) := if a0 < 0 then (if a0 = (-9223372036854775808) then (some 20) else ((tdstrconv_LenUint.f (IntKind.u64.wrap (wrap64 (-a0)))).bind fun t124 => (some (wrap64 (1 + t124))))) else ((tdstrconv_LenUint.f (IntKind.u64.wrap (a0))).bind fun t125 => (some t125))
set_option maxHeartbeats 8000000 in
set_option maxRecDepth 100000 in
theorem tdstrconv_LenInt.calls (a0 : Int) (r : Int) (w : World) (h : tdstrconv_LenInt.f a0 = some r) :
    Calls Tryd.prog 29 #[.int .i64 a0] w fun e w' => e = .returned (.int .i64 r) ∧ Drawn0 w w' := by
  have H : (if a0 < 0 then (if a0 = (-9223372036854775808) then (some 20) else ((tdstrconv_LenUint.f (IntKind.u64.wrap (wrap64 (-a0)))).bind fun t124 => (some (wrap64 (1 + t124))))) else ((tdstrconv_LenUint.f (IntKind.u64.wrap (a0))).bind fun t125 => (some t125))) = some r := h
  clear h
  by_cases c2 : a0 < 0
  · rw [if_pos c2] at H
    have c2b0 : decide (a0 < 0) = true := decide_eq_true c2
    clear c2
    by_cases c3 : a0 = (-9223372036854775808)
    · rw [if_pos c3] at H
      have c3b0 : (a0 == (-9223372036854775808)) = true := beq_iff_eq.mpr c3
      have c3b1 : (a0 != (-9223372036854775808)) = false := bne_eq_false_iff_eq.mpr c3
      clear c3
      obtain rfl := Option.some.inj H
      go_enter Tryd.func29, Tryd.ntmps29
      go_wp2
      go_ret
      exact ⟨by first | rfl | (simp; done) | (simp [*]; done), by repeat (first | exact Drawn0.refl _ | apply Drawn0.step)⟩
    · rw [if_neg c3] at H
      have c3b0 : (a0 == (-9223372036854775808)) = false := beq_eq_false_iff_ne.mpr c3
      have c3b1 : (a0 != (-9223372036854775808)) = true := bne_iff_ne.mpr c3
      replace H := Option.bind_eq_some_iff.mp H
      obtain ⟨t124, A40, H⟩ := H
      replace H : (some (wrap64 (1 + t124))) = some r := H
      have A4 := Aside0.mk A40
      clear A40
      obtain rfl := Option.some.inj H
      go_enter Tryd.func29, Tryd.ntmps29
      go_wp2_with (first | ((with_reducible refine gate_callee (f := 26) rfl ?_); refine goesL_ (some 10) rfl rfl Tryd.func26 (by kernel_rfl) rfl #[.int .u64 (IntKind.u64.wrap (wrap64 (-a0)))] rfl (by (try simp only [List.map_toArray, List.map_cons, List.map_nil]); first | done | rfl | (simp only [List.length_drop, List.length_take]; rfl)) ?_; (with_reducible refine (tdstrconv_LenUint.calls (IntKind.u64.wrap (wrap64 (-a0))) t124 _ A4.out).mono ?_); rintro e w' ⟨rfl, ⟨nd, rfl⟩⟩; refine ⟨_, rfl, ?_⟩))
      go_ret
      exact ⟨by first | rfl | (simp; done) | (simp [*]; done), by repeat (first | exact Drawn0.refl _ | apply Drawn0.step)⟩
  · rw [if_neg c2] at H
    have c2b0 : decide (a0 < 0) = false := decide_eq_false c2
    clear c2
    replace H := Option.bind_eq_some_iff.mp H
    obtain ⟨t125, A50, H⟩ := H
    replace H : (some t125) = some r := H
    have A5 := Aside0.mk A50
    clear A50
    obtain rfl := Option.some.inj H
    go_enter Tryd.func29, Tryd.ntmps29
    go_wp2_with (first | ((with_reducible refine gate_callee (f := 26) rfl ?_); refine goesL_ (some 14) rfl rfl Tryd.func26 (by kernel_rfl) rfl #[.int .u64 (IntKind.u64.wrap (a0))] rfl (by (try simp only [List.map_toArray, List.map_cons, List.map_nil]); first | done | rfl | (simp only [List.length_drop, List.length_take]; rfl)) ?_; (with_reducible refine (tdstrconv_LenUint.calls (IntKind.u64.wrap (a0)) t125 _ A5.out).mono ?_); rintro e w' ⟨rfl, ⟨nd, rfl⟩⟩; refine ⟨_, rfl, ?_⟩))
    go_ret
    exact ⟨by first | rfl | (simp; done) | (simp [*]; done), by repeat (first | exact Drawn0.refl _ | apply Drawn0.step)⟩

-- NOT PRINTED: function 21 (tdstrconv_AppendDecimal)

-- NOT PRINTED: function 11 (impl_WriteDecimal)

-- NOT PRINTED: function 30 (tdstrconv_float64exp)

-- NOT PRINTED: function 22 (tdstrconv_AppendFloat)

-- NOT PRINTED: function 12 (impl_WriteFloat)

/-! ### spec_SameBytes: function 13 -/
def spec_SameBytes.l0 : Nat → List Int → List Int → Int → Int → Option (Bool)
  | 0, _, _, _, _ => none
  | k + 1, x1, x12, x13, x14 => if x14 < x13 then (if 0 ≤ x14 then (if x14 < (x12.length : Int) then (if x14 < (x1.length : Int) then (if (rd x12 x14) = (rd x1 x14) then (spec_SameBytes.l0 k x1 x12 x13 (wrap64 (x14 + 1))) else (some false)) else (none)) else (none)) else (none)) else (some true)
def spec_SameBytes.f (k : Nat) (l0 : List Int) (l1 : List Int) : Option (Bool) := if (l0.length : Int) = (l1.length : Int) then (spec_SameBytes.l0 k l1 l0 (l0.length : Int) 0) else (some false)
theorem spec_SameBytes.mono_l : ∀ k, (∀ y0 y1 y2 y3, LeO (spec_SameBytes.l0 k y0 y1 y2 y3) (spec_SameBytes.l0 (k + 1) y0 y1 y2 y3))
  | 0 => fun _ _ _ _ r h => by simp [spec_SameBytes.l0] at h
  | k + 1 => by
    have ih0 := spec_SameBytes.mono_l k
    · intro y0 y1 y2 y3
      unfold spec_SameBytes.l0
      repeat' first
      | (with_reducible exact ih0 _ _ _ _)
      | (with_reducible exact LeO.refl _)
      | (with_reducible exact LeO.none _)
      | (with_reducible refine LeO.ite ?_ ?_)
      | (with_reducible refine LeO.bind ?_ (fun _ => ?_))
      | exact ih0 _ _ _ _
      | exact LeO.none _
      | refine LeO.ite ?_ ?_
      | refine LeO.bind ?_ (fun _ => ?_)
theorem spec_SameBytes.mono : ∀ a0 a1 k, LeO (spec_SameBytes.f k a0 a1) (spec_SameBytes.f (k + 1) a0 a1) := by
  intro a0 a1 k
  have ih0 := spec_SameBytes.mono_l k
  unfold spec_SameBytes.f
  repeat' first
      | (with_reducible exact ih0 _ _ _ _)
      | (with_reducible exact LeO.refl _)
      | (with_reducible exact LeO.none _)
      | (with_reducible refine LeO.ite ?_ ?_)
      | (with_reducible refine LeO.bind ?_ (fun _ => ?_))
      | exact ih0 _ _ _ _
      | exact LeO.none _
      | refine LeO.ite ?_ ?_
      | refine LeO.bind ?_ (fun _ => ?_)
set_option maxHeartbeats 8000000 in
set_option maxRecDepth 100000 in
theorem spec_SameBytes.calls (k : Nat) (A0 : Option Addr) (c0 : Nat) (l0 : List Int) (A1 : Option Addr) (c1 : Nat) (l1 : List Int) (r : Bool) (w : World) (hr0 : Kd.C (Kd.int .u8) w A0 l0.length l0) (hc0 : l0.length ≤ c0) (hr1 : Kd.C (Kd.int .u8) w A1 l1.length l1) (hc1 : l1.length ≤ c1) (h : spec_SameBytes.f k l0 l1 = some r) :
    Calls Tryd.prog 13 #[.slice A0 l0.length c0, .slice A1 l1.length c1] w fun e w' => e = .returned (.bool r) ∧ Drawn0 w w' := by
  have HR0 := Aside0.mk hr0
  have HC0 := Aside0.mk hc0
  clear hr0 hc0
  have HR1 := Aside0.mk hr1
  have HC1 := Aside0.mk hc1
  clear hr1 hc1
  have H : (if (l0.length : Int) = (l1.length : Int) then (spec_SameBytes.l0 k l1 l0 (l0.length : Int) 0) else (some false)) = some r := h
  clear h
  by_cases c3 : (l0.length : Int) = (l1.length : Int)
  · rw [if_pos c3] at H
    have c3b0 : ((l0.length : Int) == (l1.length : Int)) = true := beq_iff_eq.mpr c3
    have c3b1 : ((l0.length : Int) != (l1.length : Int)) = false := bne_eq_false_iff_eq.mpr c3
    have c3b2 : (l0.length == l1.length) = true := by first | simpa using c3 | (simp at c3 ⊢; omega)
    clear c3
    have H' := Aside0.mk H
    clear H
    go_enter Tryd.func13, Tryd.ntmps13
    go_wp2
    go_loopg [14] k (fun kq v14 w' => ∃ (x14_1 : Int), v14 = .int .i64 x14_1 ∧ Aside0 (spec_SameBytes.l0 kq l1 l0 (l0.length : Int) x14_1 = some r) ∧ Aside0 (kq ≤ k) ∧ Drawn0 w w')
    case atStart => exact ⟨(0), (by first | rfl | (simp; done) | (simp [*]; done)), H', ⟨Nat.le_refl _⟩, by repeat (first | exact Drawn0.refl _ | apply Drawn0.step)⟩
    case round =>
      clear H'
      try clear c1
      try clear p2
      try clear c3
      try clear c3b0
      try clear c3b1
      try clear c3b2
      obtain ⟨x14_1, rfl, HA, HK1, ⟨m1, rfl⟩⟩ := hrel
      cases gk with
      | zero => exact absurd HA.out (by simp [spec_SameBytes.l0])
      | succ k1 =>
        have H := HA.out
        clear HA
        simp only [spec_SameBytes.l0] at H
        by_cases c4 : x14_1 < (l0.length : Int)
        · rw [if_pos c4] at H
          have c4b0 : decide (x14_1 < (l0.length : Int)) = true := decide_eq_true c4
          clear c4
          by_cases c5 : 0 ≤ x14_1
          · rw [if_pos c5] at H
            have c5b0 : decide (0 ≤ x14_1) = true := decide_eq_true c5
            clear c5
            by_cases c6 : x14_1 < (l0.length : Int)
            · rw [if_pos c6] at H
              have c6b0 : decide (x14_1 < (l0.length : Int)) = true := decide_eq_true c6
              clear c6
              by_cases c7 : x14_1 < (l1.length : Int)
              · rw [if_pos c7] at H
                have c7b0 : decide (x14_1 < (l1.length : Int)) = true := decide_eq_true c7
                clear c7
                by_cases c8 : (rd l0 x14_1) = (rd l1 x14_1)
                · rw [if_pos c8] at H
                  have c8b0 : ((rd l0 x14_1) == (rd l1 x14_1)) = true := beq_iff_eq.mpr c8
                  have c8b1 : ((rd l0 x14_1) != (rd l1 x14_1)) = false := bne_eq_false_iff_eq.mpr c8
                  clear c8
                  have H' := Aside0.mk H
                  clear H
                  have p126 : 0 ≤ (x14_1 : Int) := of_decide_eq_true (by first | (with_reducible assumption) | assumption)
                  have q126 : x14_1 < (l0.length : Int) := of_decide_eq_true (by first | (with_reducible assumption) | assumption)
                  obtain ⟨ad126, e126, hx126_0⟩ := Kd.at_int HR0.out x14_1 p126 q126
                  cases e126
                  replace p126 := eq_true p126
                  replace q126 := eq_true q126
                  have p127 : 0 ≤ (x14_1 : Int) := of_decide_eq_true (by first | (with_reducible assumption) | assumption)
                  have q127 : x14_1 < (l1.length : Int) := of_decide_eq_true (by first | (with_reducible assumption) | assumption)
                  obtain ⟨ad127, e127, hx127_0⟩ := Kd.at_int HR1.out x14_1 p127 q127
                  cases e127
                  replace p127 := eq_true p127
                  replace q127 := eq_true q127
                  go_wp2
                  go_roundg k1
                  case measure => have := HK1.out; omega
                  case rel => exact ⟨(wrap64 (x14_1 + 1)), (by first | rfl | (simp; done) | (simp [*]; done)), H', ⟨by have := HK1.out; omega⟩, by repeat (first | exact Drawn0.refl _ | apply Drawn0.step)⟩
                · rw [if_neg c8] at H
                  have c8b0 : ((rd l0 x14_1) == (rd l1 x14_1)) = false := beq_eq_false_iff_ne.mpr c8
                  have c8b1 : ((rd l0 x14_1) != (rd l1 x14_1)) = true := bne_iff_ne.mpr c8
                  obtain rfl := Option.some.inj H
                  have p126 : 0 ≤ (x14_1 : Int) := of_decide_eq_true (by first | (with_reducible assumption) | assumption)
                  have q126 : x14_1 < (l0.length : Int) := of_decide_eq_true (by first | (with_reducible assumption) | assumption)
                  obtain ⟨ad126, e126, hx126_0⟩ := Kd.at_int HR0.out x14_1 p126 q126
                  cases e126
                  replace p126 := eq_true p126
                  replace q126 := eq_true q126
                  have p127 : 0 ≤ (x14_1 : Int) := of_decide_eq_true (by first | (with_reducible assumption) | assumption)
                  have q127 : x14_1 < (l1.length : Int) := of_decide_eq_true (by first | (with_reducible assumption) | assumption)
                  obtain ⟨ad127, e127, hx127_0⟩ := Kd.at_int HR1.out x14_1 p127 q127
                  cases e127
                  replace p127 := eq_true p127
                  replace q127 := eq_true q127
                  go_wp2
                  go_ret
                  exact ⟨by first | rfl | (simp; done) | (simp [*]; done), by repeat (first | exact Drawn0.refl _ | apply Drawn0.step)⟩
              · rw [if_neg c7] at H
                exact absurd H (by simp)
            · rw [if_neg c6] at H
              exact absurd H (by simp)
          · rw [if_neg c5] at H
            exact absurd H (by simp)
        · rw [if_neg c4] at H
          have c4b0 : decide (x14_1 < (l0.length : Int)) = false := decide_eq_false c4
          clear c4
          obtain rfl := Option.some.inj H
          go_wp2
          go_ret
          exact ⟨by first | rfl | (simp; done) | (simp [*]; done), by repeat (first | exact Drawn0.refl _ | apply Drawn0.step)⟩
  · rw [if_neg c3] at H
    have c3b0 : ((l0.length : Int) == (l1.length : Int)) = false := beq_eq_false_iff_ne.mpr c3
    have c3b1 : ((l0.length : Int) != (l1.length : Int)) = true := bne_iff_ne.mpr c3
    have c3b2 : (l0.length == l1.length) = false := by first | simpa using c3 | (simp at c3 ⊢; omega)
    obtain rfl := Option.some.inj H
    go_enter Tryd.func13, Tryd.ntmps13
    go_wp2
    go_ret
    exact ⟨by first | rfl | (simp; done) | (simp [*]; done), by repeat (first | exact Drawn0.refl _ | apply Drawn0.step)⟩

-- NOT PRINTED: function 5 (laws_FnNumberFloatText)

end Go.Proofs.YtmpgbakkpbmpiaaDoor.PFnNumberFloatText
