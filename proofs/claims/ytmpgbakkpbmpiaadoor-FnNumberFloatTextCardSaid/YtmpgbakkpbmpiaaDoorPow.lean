/- math.Pow10: what it gives, out of its three tables; math.IsInf. -/
import Derived.Test.YtmpgbakkpbmpiaaDoorPFnNumberFloatTextx0
import Derived.Test.YtmpgbakkpbmpiaaDoorFlt
import Derived.Laws.Externs
import Derived.Test.YtmpgbakkpbmpiaaDoorTab
namespace Go.Proofs.YtmpgbakkpbmpiaaDoor.Pow
open Go.RowKit Go.Proofs.YtmpgbakkpbmpiaaDoorW.PrintWords Go.Proofs.YtmpgbakkpbmpiaaDoorW.PrintLast Go.Proofs.YtmpgbakkpbmpiaaDoorW.PrintMore
set_option linter.unusedVariables false
set_option linter.unusedSimpArgs false

section
variable (w : World) (a b r : Nat)
set_option maxHeartbeats 400000
theorem pow_pos (m : Nat) (hm : m ≤ 308) (h3 : w.cell? ⟨3, m / 32, none⟩ = some (.float .f64 a)) (h4 : w.cell? ⟨4, m % 32, none⟩ = some (.float .f64 b)) (hr : FloatKind.f64.format.mul a b = some r) :
    Calls Tryd.prog 24 #[.int .i64 m] w fun e w' => e = .returned (.float .f64 r) ∧ Drawn0 w w' := by
  have hmul : ∀ W : World, (binOp .mul 25 (.float .f64 a) (.float .f64 b)).run Tryd.prog W = .ok (.float .f64 r) W := fun W => run_float_arith W .mul 25 .f64 a b r hr
  clear hr
  go_enter Tryd.func24, Tryd.ntmps24
  go_wp2
  go_quiet (fail)
  go_wp2
  go_ret
  exact ⟨rfl, by repeat (first | exact Drawn0.refl _ | apply Drawn0.step)⟩
theorem pow_neg (m : Nat) (h0 : 1 ≤ m) (hm : m ≤ 323) (h5 : w.cell? ⟨5, m / 32, none⟩ = some (.float .f64 a)) (h4 : w.cell? ⟨4, m % 32, none⟩ = some (.float .f64 b)) (hr : FloatKind.f64.format.div a b = some r) :
    Calls Tryd.prog 24 #[.int .i64 (-(m : Int))] w fun e w' => e = .returned (.float .f64 r) ∧ Drawn0 w w' := by
  have hdiv : ∀ W : World, (binOp .quo 25 (.float .f64 a) (.float .f64 b)).run Tryd.prog W = .ok (.float .f64 r) W := fun W => run_float_arith W .quo 25 .f64 a b r hr
  have hd : decide (0 ≤ -(m : Int)) = false := decide_eq_false (by omega)
  have hd2 : decide (-323 ≤ -(m : Int)) = true := decide_eq_true (by omega)
  have hd3 : decide (-(m : Int) < 0) = true := decide_eq_true (by omega)
  clear hr
  go_enter Tryd.func24, Tryd.ntmps24
  go_wp2
  go_quiet (fail)
  go_wp2
  go_ret
  exact ⟨rfl, by repeat (first | exact Drawn0.refl _ | apply Drawn0.step)⟩
theorem pow_zero (n : Int) (hn : n < -323) :
    Calls Tryd.prog 24 #[.int .i64 n] w fun e w' => e = .returned (.float .f64 0) ∧ Drawn0 w w' := by
  have hd : decide (0 ≤ n) = false := decide_eq_false (by omega)
  have hd2 : decide (-323 ≤ n) = false := decide_eq_false (by omega)
  have hd3 : decide (0 < n) = false := decide_eq_false (by omega)
  go_enter Tryd.func24, Tryd.ntmps24
  go_wp2
  go_ret
  exact ⟨rfl, by repeat (first | exact Drawn0.refl _ | apply Drawn0.step)⟩
theorem frombits (W : World) (n : Int) : (callFunc 32 #[.int .u64 n]).run Tryd.prog W = .ok (.value (.float .f64 n.toNat)) W := by
  rw [run_callFunc_extern (P := Tryd.prog) (f := 32) (fn := Tryd.f32) (e := Extern.MathFloatBits.float64frombits) (by kernel_rfl) (by kernel_rfl) (by kernel_rfl) (by kernel_rfl) (by kernel_rfl)]
  rfl
theorem tobits (W : World) (n : Nat) : (callFunc 33 #[.float .f64 n]).run Tryd.prog W = .ok (.value (.int .u64 n)) W := by
  rw [run_callFunc_extern (P := Tryd.prog) (f := 33) (fn := Tryd.f33) (e := Extern.MathFloatBits.float64bits) (by kernel_rfl) (by kernel_rfl) (by kernel_rfl) (by kernel_rfl) (by kernel_rfl)]
  rfl
theorem inf_pos (n : Int) (hn : 0 ≤ n) : Calls Tryd.prog 27 #[.int .i64 n] w fun e w' => e = .returned (.float .f64 9218868437227405312) ∧ Drawn0 w w' := by
  have hb := fun W => frombits W 9218868437227405312
  have hd : decide (0 ≤ n) = true := decide_eq_true (by omega)
  go_enter Tryd.func27, Tryd.ntmps27
  go_wp2
  go_ret
  exact ⟨rfl, by repeat (first | exact Drawn0.refl _ | apply Drawn0.step)⟩
theorem inf_neg (n : Int) (hn : n < 0) : Calls Tryd.prog 27 #[.int .i64 n] w fun e w' => e = .returned (.float .f64 18442240474082181120) ∧ Drawn0 w w' := by
  have hb := fun W => frombits W 18442240474082181120
  have hd : decide (0 ≤ n) = false := decide_eq_false (by omega)
  go_enter Tryd.func27, Tryd.ntmps27
  go_wp2
  go_ret
  exact ⟨rfl, by repeat (first | exact Drawn0.refl _ | apply Drawn0.step)⟩
theorem pow_inf (n : Int) (hn : 308 < n) :
    Calls Tryd.prog 24 #[.int .i64 n] w fun e w' => e = .returned (.float .f64 9218868437227405312) ∧ Drawn0 w w' := by
  have hd : decide (0 ≤ n) = true := decide_eq_true (by omega)
  have hd1 : decide (n ≤ 308) = false := decide_eq_false (by omega)
  have hd2 : decide (-323 ≤ n) = true := decide_eq_true (by omega)
  have hd4 : decide (n < 0) = false := decide_eq_false (by omega)
  have hd3 : decide (0 < n) = true := decide_eq_true (by omega)
  go_enter Tryd.func24, Tryd.ntmps24
  go_wp2_with (go_at_call 27; refine (inf_pos _ 1 (by decide)).mono ?_; rintro e w' ⟨rfl, hdr⟩)
  go_ret
  exact ⟨rfl, by first | exact hdr | (refine Drawn0.trans ?_ hdr; repeat (first | exact Drawn0.refl _ | apply Drawn0.step)) | skip⟩
theorem abs_any (x : Nat) : Calls Tryd.prog 31 #[.float .f64 x] w fun e w' => (∃ y, e = .returned (.float .f64 y)) ∧ Drawn0 w w' := by
  have hb := fun W n => frombits W n
  have hc := fun W n => tobits W n
  go_enter Tryd.func31, Tryd.ntmps31
  go_wp2
  go_ret
  exact ⟨⟨_, rfl⟩, by repeat (first | exact Drawn0.refl _ | apply Drawn0.step)⟩
theorem isInf_any (x : Nat) : Calls Tryd.prog 25 #[.float .f64 x, .int .i64 0] w fun e w' => (∃ y, e = .returned (.bool y)) ∧ Drawn0 w w' := by
  go_enter Tryd.func25, Tryd.ntmps25
  go_wp2_with (go_at_call 31; refine (abs_any _ _).mono ?_; rintro e w' ⟨⟨y, rfl⟩, hdr⟩)
  go_ret
  exact ⟨⟨_, rfl⟩, by first | exact hdr | (refine Drawn0.trans ?_ hdr; repeat (first | exact Drawn0.refl _ | apply Drawn0.step)) | skip⟩
/-- math.Pow10, whatever the number: some float. -/
theorem pow_any (n : Int) (ht : Tab.Tabs w) : Calls Tryd.prog 24 #[.int .i64 n] w fun e w' => (∃ y, e = .returned (.float .f64 y)) ∧ Drawn0 w w' := by
  by_cases h1 : n < -323
  · exact (pow_zero w n h1).mono fun e w' h => ⟨⟨_, h.1⟩, h.2⟩
  by_cases h2 : 308 < n
  · exact (pow_inf w n h2).mono fun e w' h => ⟨⟨_, h.1⟩, h.2⟩
  by_cases h3 : 0 ≤ n
  · obtain ⟨m, rfl⟩ := Int.eq_ofNat_of_zero_le h3
    obtain ⟨r, hr⟩ := Tab.mul_some (m / 32) (m % 32) (by omega) (by omega)
    exact (pow_pos w _ _ r m (by omega) (ht.t3 _ (by omega)) (ht.t4 _ (by omega)) hr).mono fun e w' h => ⟨⟨_, h.1⟩, h.2⟩
  · obtain ⟨m, rfl⟩ : ∃ m : Nat, n = -(m : Int) := ⟨n.natAbs, by omega⟩
    obtain ⟨r, hr⟩ := Tab.div_some (m / 32) (m % 32) (by omega) (by omega)
    exact (pow_neg w _ _ r m (by omega) (by omega) (ht.t5 _ (by omega)) (ht.t4 _ (by omega)) hr).mono fun e w' h => ⟨⟨_, h.1⟩, h.2⟩
end
end Go.Proofs.YtmpgbakkpbmpiaaDoor.Pow
