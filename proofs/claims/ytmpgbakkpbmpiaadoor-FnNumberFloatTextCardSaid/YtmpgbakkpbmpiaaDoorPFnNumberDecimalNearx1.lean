-- PRINTED BY print.sh 35421559b90ae4d0a3588c463048766b98c2df88dd9212a6774a882060cdf62d: not written by this session
import Derived.Test.YtmpgbakkpbmpiaaDoorPFnNumberDecimalNearx0
namespace Go.Proofs.YtmpgbakkpbmpiaaDoor.PFnNumberDecimalNear
open Go.RowKit Go.Proofs.YtmpgbakkpbmpiaaDoorW.PrintWords Go.Proofs.YtmpgbakkpbmpiaaDoorW.PrintLast Go.Proofs.YtmpgbakkpbmpiaaDoorW.PrintMore
attribute [local go_sem] max2_int min2_int max_two min_two max_three min_three max_four min_four   -- for this text's walks alone
set_option linter.unusedVariables false
set_option linter.unusedSimpArgs false

-- NOT PRINTED: function 9 (laws_mixed)

/-! ### impl_own: function 19 -/
def impl_own.f (l0 : List Int) : Option (List Int) := (some (([] : List Int) : List Int)).bind fun y101 => (if y101.length + l0.length < 140737488355328 then (some (y101 ++ l0)) else (none))
set_option maxHeartbeats 8000000 in
set_option maxRecDepth 100000 in
theorem impl_own.calls (A0 : Option Addr) (c0 : Nat) (l0 : List Int) (r : List Int) (w : World) (hr0 : Kd.C (Kd.int .u8) w A0 l0.length l0) (hc0 : l0.length ≤ c0) (h : impl_own.f l0 = some r) :
    Calls Tryd.prog 19 #[.slice A0 l0.length c0] w fun e w' => ∃ v0_ : Value, e = .returned (v0_) ∧ Kd.R (Kd.int .u8) 5 w' w.heap.size (fun _ => True) v0_ r ∧ Below w.heap.size w w' := by
  have HR0 := Aside0.mk hr0
  have HC0 := Aside0.mk hc0
  clear hr0 hc0
  have HB := Aside0.mk (Below.refl w.heap.size w)
  have H : ((some (([] : List Int) : List Int)).bind fun y101 => (if y101.length + l0.length < 140737488355328 then (some (y101 ++ l0)) else (none))) = some r := h
  clear h
  obtain ⟨y101, hy101⟩ : ∃ y_ : List Int, y_ = (([] : List Int)) := ⟨_, rfl⟩
  replace H : (if y101.length + l0.length < 140737488355328 then (some (y101 ++ l0)) else (none)) = some r := by first | (rw [hy101]; with_reducible exact H) | (have H2_ := (Option.bind_some _ _).symm.trans H; rw [hy101]; with_reducible exact H2_) | (have H2_ := (Option.bind_some _ _).symm.trans H; with_reducible exact H2_) | with_reducible exact H | (rw [hy101]; exact H) | exact H
  have Ny101 := Aside0.mk hy101
  clear hy101
  by_cases c2 : y101.length + l0.length < 140737488355328
  · rw [if_pos c2] at H
    have LMc2 := Aside0.mk c2
    clear c2
    obtain ⟨y104, hy104⟩ : ∃ y_ : List Int, y_ = (y101 ++ l0) := ⟨_, rfl⟩
    replace H : (some y104) = some r := by first | (rw [hy104]; with_reducible exact H) | (have H2_ := (Option.bind_some _ _).symm.trans H; rw [hy104]; with_reducible exact H2_) | (have H2_ := (Option.bind_some _ _).symm.trans H; with_reducible exact H2_) | with_reducible exact H | (rw [hy104]; exact H) | exact H
    have Ny104 := Aside0.mk hy104
    clear hy104
    obtain rfl := Option.some.inj H
    go_enter Tryd.func19, Tryd.ntmps19
    go_wp2_with (first | ((with_reducible refine gate_dst (N := 3) rfl ?_); refine Kd.R_lit (Kd.int .u8) _ 5 ?hg (N := 3) ?hd (xs := ([] : List Int)) (inner := []) (ok := fun _ => True) (okp := fun _ => True) ?hr ?hp (fun _ hk => hk) trivial (Below.refl _ _) (Nat.le_refl _) (by simp) ?_; (case hd => rfl); (case hg => rfl); (case hr => first | (go_simp; done) | (go_simp; rfl)); (case hp => exact (Reps.none _ _)); intro v102 w3 ho4 hb hg_ hnew_; clear hg_ hnew_; (first | rw [← Ny101.out] at ho4 | (simp only [Int.reduceToNat] at ho4; rw [← Ny101.out] at ho4)); have n0_ := Aside0.mk (Kd.R_lower ho4 (below_size (by repeat (first | (with_reducible first | exact HB.out | apply below_alloc | apply pw_below_drewN | apply below_drew1) | exact HB.out)))); have n1_ := Aside0.mk (below_step (by repeat (first | (with_reducible first | exact HB.out | apply below_alloc | apply pw_below_drewN | apply below_drew1) | exact HB.out)) hb); clear HB; have HO103 := n0_; have HB := n1_; clear n0_ n1_; clear hb ho4) | ((with_reducible refine gate_builtin (b := .append) (xs := #[.tmp 3, .tmp 4]) rfl ?_); at_builtin; refine Kd.R_append_rows (Kd.int .u8) (w0 := w) w.heap.size rfl (.tmp 3) (.tmp 4) 22 5 (.int .u8 0) 1 rfl Tryd.underlying22 info5 rfl (by decide) (by omega) v102 y101 l0 _ _ _ (fun _ => True) (fun _ => False) rfl rfl ?aO ?aR (fun _ _ h => h) (fun _ h => h.elim) ?aF ?aB ?aS ?aL ?_; (case aR => repeat (first | exact (Kd.C_below HR0.out HB.out) | (with_reducible refine Kd.C_alloc ?_ _) | (with_reducible refine Kd.C_drewN ?_ _) | (with_reducible refine Kd.C_drew ?_))); (case aB => exact (by repeat (first | (with_reducible first | exact HB.out | apply below_alloc | apply pw_below_drewN | apply below_drew1) | exact HB.out))); (case aF => exact (fun _ _ => trivial)); (case aO => exact (by (with_reducible repeat (first | apply Kd.R_alloc | apply Kd.R_drewN | apply Kd.R_drew)); exact HO103.out)); (case aS => exact (below_size (by repeat (first | (with_reducible first | exact HB.out | apply below_alloc | apply pw_below_drewN | apply below_drew1) | exact HB.out)))); (case aL => have := LMc2.out; omega); intro v105 w5 ho hb hg hat; rw [← Ny104.out] at ho; have n0_ := Aside0.mk (hb); have n1_ := Aside0.mk (ho); clear HB; clear HO103; have HB := n0_; have HO106 := n1_; clear n0_ n1_; clear ho hb hg hat))
    go_ret
    exact ⟨_, by first | rfl | (simp [errW_none, errW_some] <;> rfl) | (simp [*, errW_none, errW_some] <;> rfl), by (with_reducible repeat (first | apply Kd.R_alloc | apply Kd.R_drewN | apply Kd.R_drew)); exact HO106.out, by repeat (first | (with_reducible first | exact HB.out | apply below_alloc | apply pw_below_drewN | apply below_drew1) | exact HB.out)⟩
  · rw [if_neg c2] at H
    exact absurd H (by simp)

-- NOT PRINTED: function 32 (math_Float64frombits)

-- NOT PRINTED: function 27 (math_Inf)

-- NOT PRINTED: function 24 (math_Pow10)

/-! ### tdstrconv_LenUint: function 26 -/
def tdstrconv_LenUint.f (a0 : Int) : Option (Int) := if a0 < 10 then (some 1) else (if a0 < 100 then (some 2) else (if a0 < 1000 then (some 3) else (if a0 < 10000 then (some 4) else (if a0 < 100000 then (some 5) else (if a0 < 1000000 then (some 6) else (if a0 < 10000000 then (some 7) else (if a0 < 100000000 then (some 8) else (if a0 < 1000000000 then (some 9) else (if a0 < 10000000000 then (some 10) else (if a0 < 100000000000 then (some 11) else (if a0 < 1000000000000 then (some 12) else (if a0 < 10000000000000 then (some 13) else (if a0 < 100000000000000 then (some 14) else (if a0 < 1000000000000000 then (some 15) else (if a0 < 10000000000000000 then (some 16) else (if a0 < 100000000000000000 then (some 17) else (if a0 < 1000000000000000000 then (some 18) else (if a0 < 10000000000000000000 then (some 19) else (some 20)))))))))))))))))))
set_option maxHeartbeats 8000000 in
set_option maxRecDepth 100000 in
theorem tdstrconv_LenUint.calls (a0 : Int) (r : Int) (w : World) (h : tdstrconv_LenUint.f a0 = some r) :
    Calls Tryd.prog 26 #[.int .u64 a0] w fun e w' => e = .returned (.int .i64 r) ∧ Drawn0 w w' := by
  have H : (if a0 < 10 then (some 1) else (if a0 < 100 then (some 2) else (if a0 < 1000 then (some 3) else (if a0 < 10000 then (some 4) else (if a0 < 100000 then (some 5) else (if a0 < 1000000 then (some 6) else (if a0 < 10000000 then (some 7) else (if a0 < 100000000 then (some 8) else (if a0 < 1000000000 then (some 9) else (if a0 < 10000000000 then (some 10) else (if a0 < 100000000000 then (some 11) else (if a0 < 1000000000000 then (some 12) else (if a0 < 10000000000000 then (some 13) else (if a0 < 100000000000000 then (some 14) else (if a0 < 1000000000000000 then (some 15) else (if a0 < 10000000000000000 then (some 16) else (if a0 < 100000000000000000 then (some 17) else (if a0 < 1000000000000000000 then (some 18) else (if a0 < 10000000000000000000 then (some 19) else (some 20)))))))))))))))))))) = some r := h
  clear h
  by_cases c2 : a0 < 10
  · rw [if_pos c2] at H
    have c2b0 : decide (a0 < 10) = true := decide_eq_true c2
    clear c2
    obtain rfl := Option.some.inj H
    go_enter Tryd.func26, Tryd.ntmps26
    go_wp2
    go_ret
    exact ⟨by first | rfl | (simp; done) | (simp [*]; done), by repeat (first | exact Drawn0.refl _ | apply Drawn0.step)⟩
  · rw [if_neg c2] at H
    have c2b0 : decide (a0 < 10) = false := decide_eq_false c2
    clear c2
    by_cases c3 : a0 < 100
    · rw [if_pos c3] at H
      have c3b0 : decide (a0 < 100) = true := decide_eq_true c3
      clear c3
      obtain rfl := Option.some.inj H
      go_enter Tryd.func26, Tryd.ntmps26
      go_wp2
      go_ret
      exact ⟨by first | rfl | (simp; done) | (simp [*]; done), by repeat (first | exact Drawn0.refl _ | apply Drawn0.step)⟩
    · rw [if_neg c3] at H
      have c3b0 : decide (a0 < 100) = false := decide_eq_false c3
      clear c3
      by_cases c4 : a0 < 1000
      · rw [if_pos c4] at H
        have c4b0 : decide (a0 < 1000) = true := decide_eq_true c4
        clear c4
        obtain rfl := Option.some.inj H
        go_enter Tryd.func26, Tryd.ntmps26
        go_wp2
        go_ret
        exact ⟨by first | rfl | (simp; done) | (simp [*]; done), by repeat (first | exact Drawn0.refl _ | apply Drawn0.step)⟩
      · rw [if_neg c4] at H
        have c4b0 : decide (a0 < 1000) = false := decide_eq_false c4
        clear c4
        by_cases c5 : a0 < 10000
        · rw [if_pos c5] at H
          have c5b0 : decide (a0 < 10000) = true := decide_eq_true c5
          clear c5
          obtain rfl := Option.some.inj H
          go_enter Tryd.func26, Tryd.ntmps26
          go_wp2
          go_ret
          exact ⟨by first | rfl | (simp; done) | (simp [*]; done), by repeat (first | exact Drawn0.refl _ | apply Drawn0.step)⟩
        · rw [if_neg c5] at H
          have c5b0 : decide (a0 < 10000) = false := decide_eq_false c5
          clear c5
          by_cases c6 : a0 < 100000
          · rw [if_pos c6] at H
            have c6b0 : decide (a0 < 100000) = true := decide_eq_true c6
            clear c6
            obtain rfl := Option.some.inj H
            go_enter Tryd.func26, Tryd.ntmps26
            go_wp2
            go_ret
            exact ⟨by first | rfl | (simp; done) | (simp [*]; done), by repeat (first | exact Drawn0.refl _ | apply Drawn0.step)⟩
          · rw [if_neg c6] at H
            have c6b0 : decide (a0 < 100000) = false := decide_eq_false c6
            clear c6
            by_cases c7 : a0 < 1000000
            · rw [if_pos c7] at H
              have c7b0 : decide (a0 < 1000000) = true := decide_eq_true c7
              clear c7
              obtain rfl := Option.some.inj H
              go_enter Tryd.func26, Tryd.ntmps26
              go_wp2
              go_ret
              exact ⟨by first | rfl | (simp; done) | (simp [*]; done), by repeat (first | exact Drawn0.refl _ | apply Drawn0.step)⟩
            · rw [if_neg c7] at H
              have c7b0 : decide (a0 < 1000000) = false := decide_eq_false c7
              clear c7
              by_cases c8 : a0 < 10000000
              · rw [if_pos c8] at H
                have c8b0 : decide (a0 < 10000000) = true := decide_eq_true c8
                clear c8
                obtain rfl := Option.some.inj H
                go_enter Tryd.func26, Tryd.ntmps26
                go_wp2
                go_ret
                exact ⟨by first | rfl | (simp; done) | (simp [*]; done), by repeat (first | exact Drawn0.refl _ | apply Drawn0.step)⟩
              · rw [if_neg c8] at H
                have c8b0 : decide (a0 < 10000000) = false := decide_eq_false c8
                clear c8
                by_cases c9 : a0 < 100000000
                · rw [if_pos c9] at H
                  have c9b0 : decide (a0 < 100000000) = true := decide_eq_true c9
                  clear c9
                  obtain rfl := Option.some.inj H
                  go_enter Tryd.func26, Tryd.ntmps26
                  go_wp2
                  go_ret
                  exact ⟨by first | rfl | (simp; done) | (simp [*]; done), by repeat (first | exact Drawn0.refl _ | apply Drawn0.step)⟩
                · rw [if_neg c9] at H
                  have c9b0 : decide (a0 < 100000000) = false := decide_eq_false c9
                  clear c9
                  by_cases c10 : a0 < 1000000000
                  · rw [if_pos c10] at H
                    have c10b0 : decide (a0 < 1000000000) = true := decide_eq_true c10
                    clear c10
                    obtain rfl := Option.some.inj H
                    go_enter Tryd.func26, Tryd.ntmps26
                    go_wp2
                    go_ret
                    exact ⟨by first | rfl | (simp; done) | (simp [*]; done), by repeat (first | exact Drawn0.refl _ | apply Drawn0.step)⟩
                  · rw [if_neg c10] at H
                    have c10b0 : decide (a0 < 1000000000) = false := decide_eq_false c10
                    clear c10
                    by_cases c11 : a0 < 10000000000
                    · rw [if_pos c11] at H
                      have c11b0 : decide (a0 < 10000000000) = true := decide_eq_true c11
                      clear c11
                      obtain rfl := Option.some.inj H
                      go_enter Tryd.func26, Tryd.ntmps26
                      go_wp2
                      go_ret
                      exact ⟨by first | rfl | (simp; done) | (simp [*]; done), by repeat (first | exact Drawn0.refl _ | apply Drawn0.step)⟩
                    · rw [if_neg c11] at H
                      have c11b0 : decide (a0 < 10000000000) = false := decide_eq_false c11
                      clear c11
                      by_cases c12 : a0 < 100000000000
                      · rw [if_pos c12] at H
                        have c12b0 : decide (a0 < 100000000000) = true := decide_eq_true c12
                        clear c12
                        obtain rfl := Option.some.inj H
                        go_enter Tryd.func26, Tryd.ntmps26
                        go_wp2
                        go_ret
                        exact ⟨by first | rfl | (simp; done) | (simp [*]; done), by repeat (first | exact Drawn0.refl _ | apply Drawn0.step)⟩
                      · rw [if_neg c12] at H
                        have c12b0 : decide (a0 < 100000000000) = false := decide_eq_false c12
                        clear c12
                        by_cases c13 : a0 < 1000000000000
                        · rw [if_pos c13] at H
                          have c13b0 : decide (a0 < 1000000000000) = true := decide_eq_true c13
                          clear c13
                          obtain rfl := Option.some.inj H
                          go_enter Tryd.func26, Tryd.ntmps26
                          go_wp2
                          go_ret
                          exact ⟨by first | rfl | (simp; done) | (simp [*]; done), by repeat (first | exact Drawn0.refl _ | apply Drawn0.step)⟩
                        · rw [if_neg c13] at H
                          have c13b0 : decide (a0 < 1000000000000) = false := decide_eq_false c13
                          clear c13
                          by_cases c14 : a0 < 10000000000000
                          · rw [if_pos c14] at H
                            have c14b0 : decide (a0 < 10000000000000) = true := decide_eq_true c14
                            clear c14
                            obtain rfl := Option.some.inj H
                            go_enter Tryd.func26, Tryd.ntmps26
                            go_wp2
                            go_ret
                            exact ⟨by first | rfl | (simp; done) | (simp [*]; done), by repeat (first | exact Drawn0.refl _ | apply Drawn0.step)⟩
                          · rw [if_neg c14] at H
                            have c14b0 : decide (a0 < 10000000000000) = false := decide_eq_false c14
                            clear c14
                            by_cases c15 : a0 < 100000000000000
                            · rw [if_pos c15] at H
                              have c15b0 : decide (a0 < 100000000000000) = true := decide_eq_true c15
                              clear c15
                              obtain rfl := Option.some.inj H
                              go_enter Tryd.func26, Tryd.ntmps26
                              go_wp2
                              go_ret
                              exact ⟨by first | rfl | (simp; done) | (simp [*]; done), by repeat (first | exact Drawn0.refl _ | apply Drawn0.step)⟩
                            · rw [if_neg c15] at H
                              have c15b0 : decide (a0 < 100000000000000) = false := decide_eq_false c15
                              clear c15
                              by_cases c16 : a0 < 1000000000000000
                              · rw [if_pos c16] at H
                                have c16b0 : decide (a0 < 1000000000000000) = true := decide_eq_true c16
                                clear c16
                                obtain rfl := Option.some.inj H
                                go_enter Tryd.func26, Tryd.ntmps26
                                go_wp2
                                go_ret
                                exact ⟨by first | rfl | (simp; done) | (simp [*]; done), by repeat (first | exact Drawn0.refl _ | apply Drawn0.step)⟩
                              · rw [if_neg c16] at H
                                have c16b0 : decide (a0 < 1000000000000000) = false := decide_eq_false c16
                                clear c16
                                by_cases c17 : a0 < 10000000000000000
                                · rw [if_pos c17] at H
                                  have c17b0 : decide (a0 < 10000000000000000) = true := decide_eq_true c17
                                  clear c17
                                  obtain rfl := Option.some.inj H
                                  go_enter Tryd.func26, Tryd.ntmps26
                                  go_wp2
                                  go_ret
                                  exact ⟨by first | rfl | (simp; done) | (simp [*]; done), by repeat (first | exact Drawn0.refl _ | apply Drawn0.step)⟩
                                · rw [if_neg c17] at H
                                  have c17b0 : decide (a0 < 10000000000000000) = false := decide_eq_false c17
                                  clear c17
                                  by_cases c18 : a0 < 100000000000000000
                                  · rw [if_pos c18] at H
                                    have c18b0 : decide (a0 < 100000000000000000) = true := decide_eq_true c18
                                    clear c18
                                    obtain rfl := Option.some.inj H
                                    go_enter Tryd.func26, Tryd.ntmps26
                                    go_wp2
                                    go_ret
                                    exact ⟨by first | rfl | (simp; done) | (simp [*]; done), by repeat (first | exact Drawn0.refl _ | apply Drawn0.step)⟩
                                  · rw [if_neg c18] at H
                                    have c18b0 : decide (a0 < 100000000000000000) = false := decide_eq_false c18
                                    clear c18
                                    by_cases c19 : a0 < 1000000000000000000
                                    · rw [if_pos c19] at H
                                      have c19b0 : decide (a0 < 1000000000000000000) = true := decide_eq_true c19
                                      clear c19
                                      obtain rfl := Option.some.inj H
                                      go_enter Tryd.func26, Tryd.ntmps26
                                      go_wp2
                                      go_ret
                                      exact ⟨by first | rfl | (simp; done) | (simp [*]; done), by repeat (first | exact Drawn0.refl _ | apply Drawn0.step)⟩
                                    · rw [if_neg c19] at H
                                      have c19b0 : decide (a0 < 1000000000000000000) = false := decide_eq_false c19
                                      clear c19
                                      by_cases c20 : a0 < 10000000000000000000
                                      · rw [if_pos c20] at H
                                        have c20b0 : decide (a0 < 10000000000000000000) = true := decide_eq_true c20
                                        clear c20
                                        obtain rfl := Option.some.inj H
                                        go_enter Tryd.func26, Tryd.ntmps26
                                        go_wp2
                                        go_ret
                                        exact ⟨by first | rfl | (simp; done) | (simp [*]; done), by repeat (first | exact Drawn0.refl _ | apply Drawn0.step)⟩
                                      · rw [if_neg c20] at H
                                        have c20b0 : decide (a0 < 10000000000000000000) = false := decide_eq_false c20
                                        clear c20
                                        obtain rfl := Option.some.inj H
                                        go_enter Tryd.func26, Tryd.ntmps26
                                        go_wp2
                                        go_ret
                                        exact ⟨by first | rfl | (simp; done) | (simp [*]; done), by repeat (first | exact Drawn0.refl _ | apply Drawn0.step)⟩

-- NOT PRINTED: function 20 (tdstrconv_ParseDecimal)

-- NOT PRINTED: function 10 (impl_ReadDecimal)

-- NOT PRINTED: function 33 (math_Float64bits)

-- NOT PRINTED: function 31 (math_Abs)

-- NOT PRINTED: function 25 (math_IsInf)

-- NOT PRINTED: function 28 (math_IsNaN)

/-! ### tdstrconv_LenInt: function 29 -/
def tdstrconv_LenInt.f (a0 : Int) : Option (Int) := if a0 < 0 then (if a0 = (-9223372036854775808) then (some 20) else ((tdstrconv_LenUint.f (IntKind.u64.wrap (wrap64 (-a0)))).bind fun t107 => (some (wrap64 (1 + t107))))) else ((tdstrconv_LenUint.f (IntKind.u64.wrap (a0))).bind fun t108 => (some t108))
set_option maxHeartbeats 8000000 in
set_option maxRecDepth 100000 in
theorem tdstrconv_LenInt.calls (a0 : Int) (r : Int) (w : World) (h : tdstrconv_LenInt.f a0 = some r) :
    Calls Tryd.prog 29 #[.int .i64 a0] w fun e w' => e = .returned (.int .i64 r) ∧ Drawn0 w w' := by
  have H : (if a0 < 0 then (if a0 = (-9223372036854775808) then (some 20) else ((tdstrconv_LenUint.f (IntKind.u64.wrap (wrap64 (-a0)))).bind fun t107 => (some (wrap64 (1 + t107))))) else ((tdstrconv_LenUint.f (IntKind.u64.wrap (a0))).bind fun t108 => (some t108))) = some r := h
  clear h
  by_cases c2 : a0 < 0
  · rw [if_pos c2] at H
    have c2b0 : decide (a0 < 0) = true := decide_eq_true c2
    clear c2
    by_cases c3 : a0 = (-9223372036854775808)
    · rw [if_pos c3] at H
      have c3b0 : (a0 == (-9223372036854775808)) = true := beq_iff_eq.mpr c3
      have c3b1 : (a0 != (-9223372036854775808)) = false := bne_eq_false_iff_eq.mpr c3
      clear c3
      obtain rfl := Option.some.inj H
      go_enter Tryd.func29, Tryd.ntmps29
      go_wp2
      go_ret
      exact ⟨by first | rfl | (simp; done) | (simp [*]; done), by repeat (first | exact Drawn0.refl _ | apply Drawn0.step)⟩
    · rw [if_neg c3] at H
      have c3b0 : (a0 == (-9223372036854775808)) = false := beq_eq_false_iff_ne.mpr c3
      have c3b1 : (a0 != (-9223372036854775808)) = true := bne_iff_ne.mpr c3
      replace H := Option.bind_eq_some_iff.mp H
      obtain ⟨t107, A40, H⟩ := H
      replace H : (some (wrap64 (1 + t107))) = some r := H
      have A4 := Aside0.mk A40
      clear A40
      obtain rfl := Option.some.inj H
      go_enter Tryd.func29, Tryd.ntmps29
      go_wp2_with (first | ((with_reducible refine gate_callee (f := 26) rfl ?_); refine goesL_ (some 10) rfl rfl Tryd.func26 (by kernel_rfl) rfl #[.int .u64 (IntKind.u64.wrap (wrap64 (-a0)))] rfl (by (try simp only [List.map_toArray, List.map_cons, List.map_nil]); first | done | rfl | (simp only [List.length_drop, List.length_take]; rfl)) ?_; (with_reducible refine (tdstrconv_LenUint.calls (IntKind.u64.wrap (wrap64 (-a0))) t107 _ A4.out).mono ?_); rintro e w' ⟨rfl, ⟨nd, rfl⟩⟩; refine ⟨_, rfl, ?_⟩))
      go_ret
      exact ⟨by first | rfl | (simp; done) | (simp [*]; done), by repeat (first | exact Drawn0.refl _ | apply Drawn0.step)⟩
  · rw [if_neg c2] at H
    have c2b0 : decide (a0 < 0) = false := decide_eq_false c2
    clear c2
    replace H := Option.bind_eq_some_iff.mp H
    obtain ⟨t108, A50, H⟩ := H
    replace H : (some t108) = some r := H
    have A5 := Aside0.mk A50
    clear A50
    obtain rfl := Option.some.inj H
    go_enter Tryd.func29, Tryd.ntmps29
    go_wp2_with (first | ((with_reducible refine gate_callee (f := 26) rfl ?_); refine goesL_ (some 14) rfl rfl Tryd.func26 (by kernel_rfl) rfl #[.int .u64 (IntKind.u64.wrap (a0))] rfl (by (try simp only [List.map_toArray, List.map_cons, List.map_nil]); first | done | rfl | (simp only [List.length_drop, List.length_take]; rfl)) ?_; (with_reducible refine (tdstrconv_LenUint.calls (IntKind.u64.wrap (a0)) t108 _ A5.out).mono ?_); rintro e w' ⟨rfl, ⟨nd, rfl⟩⟩; refine ⟨_, rfl, ?_⟩))
    go_ret
    exact ⟨by first | rfl | (simp; done) | (simp [*]; done), by repeat (first | exact Drawn0.refl _ | apply Drawn0.step)⟩

-- NOT PRINTED: function 21 (tdstrconv_AppendDecimal)

-- NOT PRINTED: function 11 (impl_WriteDecimal)

-- NOT PRINTED: function 4 (laws_FnNumberDecimalNear)

end Go.Proofs.YtmpgbakkpbmpiaaDoor.PFnNumberDecimalNear
