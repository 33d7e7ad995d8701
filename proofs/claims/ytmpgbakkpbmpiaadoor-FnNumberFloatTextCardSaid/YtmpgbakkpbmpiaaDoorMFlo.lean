/- Floats of either sign; what laws.mixed gives; float64exp. -/
import Derived.Test.YtmpgbakkpbmpiaaDoorMRea
import Derived.Test.YtmpgbakkpbmpiaaDoorMNear
import Derived.Test.YtmpgbakkpbmpiaaDoorPow
/- Floats below nought: their words are those of the numbers above nought, with the sign's bit. -/
namespace Go.Proofs.YtmpgbakkpbmpiaaDoor.Real
open Ieee

/-- The sign's bit. -/
def SB : Nat := 9223372036854775808
theorem read_neg {x : Nat} (h : x < 9223372036854775808) : double.read (SB + x) = (double.read x).opposite := by
  have e3 : double.signWeight = 9223372036854775808 := by decide
  unfold Format.read
  simp only [e3]
  have h1 : ((SB + x) / 9223372036854775808 % 2 == 1) = true := by unfold SB; exact beq_iff_eq.mpr (by omega)
  have h2 : (x / 9223372036854775808 % 2 == 1) = false := by exact beq_eq_false_iff_ne.mpr (by omega)
  have h3 : (SB + x) % 9223372036854775808 = x % 9223372036854775808 := by unfold SB; omega
  rw [h1, h2, h3]
  split
  · rfl
  · split
    · rfl
    · split <;> rfl
theorem nearest_neg {mag : Nat} (h : mag ≠ 0) (p : Int) : double.nearest true mag p = SB + double.nearest false mag p := by
  have e3 : double.signWeight = 9223372036854775808 := by decide
  unfold Format.nearest
  rw [if_neg h, if_neg h]
  simp only [Format.word, if_true, e3, SB, Bool.false_eq_true, if_false]
  rfl
theorem nearest_lt {mag : Nat} (p : Int) : double.nearest false mag p < 9223372036854775808 := by
  have e3 : double.signWeight = 9223372036854775808 := by decide
  have e4 : double.infRung = 9218868437227405312 := by decide
  unfold Format.nearest
  split
  · simp [Format.word]
  · simp only [Format.word, Bool.false_eq_true, if_false, e4]
    exact Nat.lt_of_le_of_lt (Nat.min_le_right _ _) (by decide)
section
variable {x y vx vy : Nat}
theorem read_negV {m j : Nat} (hr : double.read x = .number false m (-((200 : Nat) : Int) + (j : Nat))) (hl : x < 9223372036854775808) : double.read (SB + x) = .number true m (-((200 : Nat) : Int) + (j : Nat)) := by
  rw [read_neg hl, hr]; rfl
theorem mul_neg (hx : Val x vx) (hl : x < 9223372036854775808) (hy : Val y vy) (h0 : 0 < vx * vy) {r : Nat} (h : double.mul x y = some r) : double.mul (SB + x) y = some (SB + r) := by
  obtain ⟨m1, j1, r1, rfl, b1⟩ := hx
  obtain ⟨m2, j2, r2, rfl, b2⟩ := hy
  unfold Format.mul at h ⊢
  rw [read_negV r1 hl, r2]
  rw [r1, r2] at h
  have h2 : double.nearest false (m1 * m2) (-((200 : Nat) : Int) + (j1 : Nat) + (-((200 : Nat) : Int) + (j2 : Nat))) = r := by
    have h3 : some (double.nearest (false ^^ false) (m1 * m2) (-((200 : Nat) : Int) + (j1 : Nat) + (-((200 : Nat) : Int) + (j2 : Nat)))) = some r := h
    exact Option.some.inj h3
  show some (double.nearest (true ^^ false) (m1 * m2) _) = _
  congr 1
  rw [show (true ^^ false) = true from rfl, nearest_neg, h2]
  intro hz
  rcases Nat.mul_eq_zero.1 hz with hz | hz <;> rw [hz] at h0 <;> simp at h0
theorem sub_neg (hx : Val x vx) (hl : x < 9223372036854775808) (hy : Val y vy) (h0 : 0 < vx) {r : Nat} (h : double.add x y = some r) : double.sub (SB + x) y = some (SB + r) := by
  obtain ⟨m1, j1, r1, rfl, b1⟩ := hx
  obtain ⟨m2, j2, r2, rfl, b2⟩ := hy
  obtain ⟨μ, hμ⟩ : ∃ μ, μ = min j1 j2 := ⟨_, rfl⟩
  obtain ⟨d1, hd1⟩ : ∃ d, j1 = μ + d := ⟨j1 - μ, by omega⟩
  obtain ⟨d2, hd2⟩ : ∃ d, j2 = μ + d := ⟨j2 - μ, by omega⟩
  have hb : min (-((200 : Nat) : Int) + (j1 : Nat)) (-((200 : Nat) : Int) + (j2 : Nat)) = -((200 : Nat) : Int) + (μ : Nat) := by omega
  have hm1 : 0 < m1 * 2 ^ d1 := by
    refine Nat.mul_pos ?_ (Nat.two_pow_pos _)
    rcases Nat.eq_zero_or_pos m1 with hz | hz
    · rw [hz] at h0; simp at h0
    · exact hz
  unfold Format.add at h
  unfold Format.sub
  rw [r1, r2] at h
  rw [read_negV r1 hl, r2]
  have ht : signed false m1 (-((200 : Nat) : Int) + (j1 : Nat) - (-((200 : Nat) : Int) + (μ : Nat))).toNat + signed false m2 (-((200 : Nat) : Int) + (j2 : Nat) - (-((200 : Nat) : Int) + (μ : Nat))).toNat = ((m1 * 2 ^ d1 + m2 * 2 ^ d2 : Nat) : Int) := by
    rw [show (-((200 : Nat) : Int) + (j1 : Nat) - (-((200 : Nat) : Int) + (μ : Nat))).toNat = d1 by omega, show (-((200 : Nat) : Int) + (j2 : Nat) - (-((200 : Nat) : Int) + (μ : Nat))).toNat = d2 by omega]
    simp only [signed, Bool.false_eq_true, if_false, Nat.shiftLeft_eq]
    exact (Int.natCast_add _ _).symm
  have ht2 : signed true m1 (-((200 : Nat) : Int) + (j1 : Nat) - (-((200 : Nat) : Int) + (μ : Nat))).toNat + signed true m2 (-((200 : Nat) : Int) + (j2 : Nat) - (-((200 : Nat) : Int) + (μ : Nat))).toNat = -((m1 * 2 ^ d1 + m2 * 2 ^ d2 : Nat) : Int) := by
    rw [show (-((200 : Nat) : Int) + (j1 : Nat) - (-((200 : Nat) : Int) + (μ : Nat))).toNat = d1 by omega, show (-((200 : Nat) : Int) + (j2 : Nat) - (-((200 : Nat) : Int) + (μ : Nat))).toNat = d2 by omega]
    simp only [signed, if_true, Nat.shiftLeft_eq]
    omega
  have h2 : double.nearest false (m1 * 2 ^ d1 + m2 * 2 ^ d2) (-((200 : Nat) : Int) + (μ : Nat)) = r := by
    have h3 : Option.map double.write (some (Datum.number (if signed false m1 (-((200 : Nat) : Int) + (j1 : Nat) - min (-((200 : Nat) : Int) + (j1 : Nat)) (-((200 : Nat) : Int) + (j2 : Nat))).toNat + signed false m2 (-((200 : Nat) : Int) + (j2 : Nat) - min (-((200 : Nat) : Int) + (j1 : Nat)) (-((200 : Nat) : Int) + (j2 : Nat))).toNat = 0 then false && false else decide (signed false m1 (-((200 : Nat) : Int) + (j1 : Nat) - min (-((200 : Nat) : Int) + (j1 : Nat)) (-((200 : Nat) : Int) + (j2 : Nat))).toNat + signed false m2 (-((200 : Nat) : Int) + (j2 : Nat) - min (-((200 : Nat) : Int) + (j1 : Nat)) (-((200 : Nat) : Int) + (j2 : Nat))).toNat < 0)) (signed false m1 (-((200 : Nat) : Int) + (j1 : Nat) - min (-((200 : Nat) : Int) + (j1 : Nat)) (-((200 : Nat) : Int) + (j2 : Nat))).toNat + signed false m2 (-((200 : Nat) : Int) + (j2 : Nat) - min (-((200 : Nat) : Int) + (j1 : Nat)) (-((200 : Nat) : Int) + (j2 : Nat))).toNat).natAbs (min (-((200 : Nat) : Int) + (j1 : Nat)) (-((200 : Nat) : Int) + (j2 : Nat))))) = some r := h
    rw [hb, ht, if_neg (by omega), decide_eq_false (by omega)] at h3
    exact Option.some.inj h3
  show Option.map double.write (some (Datum.number _ _ _)) = _
  simp only [hb, ht2, Bool.not_false]
  rw [if_neg (by omega), decide_eq_true (by omega), Int.natAbs_neg, Int.natAbs_natCast]
  show some (double.nearest true _ _) = _
  rw [nearest_neg (by omega), h2]
/-- A number below nought and a smaller one above it: exact where the difference has no more than 53 digits. -/
theorem add_neg (hx : Val x vx) (hl : x < 9223372036854775808) (hy : Val y vy) (hlt : vy < vx) (a t : Nat) (hd : vx = vy + a * 2 ^ t) (ha : a < 9007199254740992) (ht : 52 ≤ t) (ht2 : t ≤ 300) :
    ∃ r, double.add (SB + x) y = some (SB + r) ∧ Val r (a * 2 ^ t) ∧ r < 9223372036854775808 := by
  obtain ⟨m1, j1, r1, rfl, b1⟩ := hx
  obtain ⟨m2, j2, r2, rfl, b2⟩ := hy
  obtain ⟨μ, hμ⟩ : ∃ μ, μ = min j1 j2 := ⟨_, rfl⟩
  obtain ⟨d1, hd1⟩ : ∃ d, j1 = μ + d := ⟨j1 - μ, by omega⟩
  obtain ⟨d2, hd2⟩ : ∃ d, j2 = μ + d := ⟨j2 - μ, by omega⟩
  have hb : min (-((200 : Nat) : Int) + (j1 : Nat)) (-((200 : Nat) : Int) + (j2 : Nat)) = -((200 : Nat) : Int) + (μ : Nat) := by omega
  have e1 : m1 * 2 ^ j1 = m1 * 2 ^ d1 * 2 ^ μ := by rw [hd1, Nat.pow_add]; ac_rfl
  have e2 : m2 * 2 ^ j2 = m2 * 2 ^ d2 * 2 ^ μ := by rw [hd2, Nat.pow_add]; ac_rfl
  rw [e1, e2] at hlt hd
  have hlt2 : m2 * 2 ^ d2 < m1 * 2 ^ d1 := Nat.lt_of_mul_lt_mul_right hlt
  obtain ⟨D, hD⟩ : ∃ D, m1 * 2 ^ d1 = m2 * 2 ^ d2 + D := ⟨m1 * 2 ^ d1 - m2 * 2 ^ d2, by omega⟩
  have hDv : D * 2 ^ μ = a * 2 ^ t := by
    rw [hD, Nat.add_mul] at hd
    omega
  have hD0 : 0 < D := by omega
  have ha0 : 0 < a := by
    rcases Nat.eq_zero_or_pos a with hz | hz
    · rw [hz, Nat.zero_mul] at hDv
      have := Nat.mul_pos hD0 (Nat.two_pow_pos μ)
      omega
    · exact hz
  have hlo : 2 ^ (52 + 0) ≤ D * 2 ^ μ := by
    rw [hDv]
    have h1 : 1 * 2 ^ t ≤ a * 2 ^ t := Nat.mul_le_mul_right _ ha0
    have h2 : (2 : Nat) ^ (52 + 0) ≤ 2 ^ t := Nat.pow_le_pow_right (by decide) (by omega)
    omega
  have hhi : D * 2 ^ μ < 2 ^ (53 + t) := by
    rw [hDv, Nat.pow_add]
    exact Nat.mul_lt_mul_of_pos_right (show a < 2 ^ 53 by simpa using ha) (Nat.two_pow_pos _)
  obtain ⟨v, hv, hn⟩ := near_of D 200 0 μ (by omega) (by omega) hD0 hlo (53 + t) (by omega) hhi
  have hv2 : v = a * 2 ^ t := by
    have := hn.2.2 a t hDv ha
    rw [Nat.pow_zero, Nat.mul_one, hDv] at this
    exact this
  rw [hv2] at hv
  refine ⟨_, ?_, hv, nearest_lt _⟩
  unfold Format.add
  rw [read_negV r1 hl, r2]
  have ht3 : signed true m1 (-((200 : Nat) : Int) + (j1 : Nat) - (-((200 : Nat) : Int) + (μ : Nat))).toNat + signed false m2 (-((200 : Nat) : Int) + (j2 : Nat) - (-((200 : Nat) : Int) + (μ : Nat))).toNat = -(D : Int) := by
    rw [show (-((200 : Nat) : Int) + (j1 : Nat) - (-((200 : Nat) : Int) + (μ : Nat))).toNat = d1 by omega, show (-((200 : Nat) : Int) + (j2 : Nat) - (-((200 : Nat) : Int) + (μ : Nat))).toNat = d2 by omega]
    simp only [signed, if_true, Bool.false_eq_true, if_false, Nat.shiftLeft_eq]
    omega
  show Option.map double.write (some (Datum.number _ _ _)) = _
  simp only [hb, ht3]
  rw [if_neg (by omega), decide_eq_true (by omega), Int.natAbs_neg, Int.natAbs_natCast]
  show some (double.nearest true _ _) = _
  rw [nearest_neg (by omega)]
theorem add_neg_zero (hx : Val x vx) (hl : x < 9223372036854775808) (h0 : 0 < vx) {r : Nat} (h : double.add x 0 = some r) : double.add (SB + x) 0 = some (SB + r) := by
  obtain ⟨m, j, r1, rfl, b1⟩ := hx
  have hm : 0 < m := by
    rcases Nat.eq_zero_or_pos m with h | h
    · rw [h, Nat.zero_mul] at h0; exact absurd h0 (by decide)
    · exact h
  have hp : 0 < m * 2 ^ (874 + j) := Nat.mul_pos hm (Nat.two_pow_pos _)
  unfold Format.add at h ⊢
  rw [r1, read_zero] at h
  rw [read_negV r1 hl, read_zero]
  have hb : min (-((200 : Nat) : Int) + (j : Nat)) (-1074) = -1074 := by omega
  have ht : signed false m (-((200 : Nat) : Int) + (j : Nat) - -1074).toNat + signed false 0 (-1074 - -1074 : Int).toNat = ((m * 2 ^ (874 + j) : Nat) : Int) := by
    rw [show (-((200 : Nat) : Int) + (j : Nat) - -1074).toNat = 874 + j by omega]
    simp only [signed, Bool.false_eq_true, if_false, Nat.shiftLeft_eq, Nat.zero_mul]
    omega
  have ht2 : signed true m (-((200 : Nat) : Int) + (j : Nat) - -1074).toNat + signed false 0 (-1074 - -1074 : Int).toNat = -((m * 2 ^ (874 + j) : Nat) : Int) := by
    rw [show (-((200 : Nat) : Int) + (j : Nat) - -1074).toNat = 874 + j by omega]
    simp only [signed, Bool.false_eq_true, if_false, if_true, Nat.shiftLeft_eq, Nat.zero_mul]
    omega
  have h2 : double.nearest false (m * 2 ^ (874 + j)) (-1074) = r := by
    have h3 : Option.map double.write (some (Datum.number (if signed false m (-((200 : Nat) : Int) + (j : Nat) - min (-((200 : Nat) : Int) + (j : Nat)) (-1074)).toNat + signed false 0 (-1074 - min (-((200 : Nat) : Int) + (j : Nat)) (-1074)).toNat = 0 then false && false else decide (signed false m (-((200 : Nat) : Int) + (j : Nat) - min (-((200 : Nat) : Int) + (j : Nat)) (-1074)).toNat + signed false 0 (-1074 - min (-((200 : Nat) : Int) + (j : Nat)) (-1074)).toNat < 0)) (signed false m (-((200 : Nat) : Int) + (j : Nat) - min (-((200 : Nat) : Int) + (j : Nat)) (-1074)).toNat + signed false 0 (-1074 - min (-((200 : Nat) : Int) + (j : Nat)) (-1074)).toNat).natAbs (min (-((200 : Nat) : Int) + (j : Nat)) (-1074)))) = some r := h
    rw [hb, ht, if_neg (by omega), decide_eq_false (by omega)] at h3
    exact Option.some.inj h3
  show Option.map double.write (some (Datum.number _ _ _)) = _
  simp only [hb, ht2]
  rw [if_neg (by omega), decide_eq_true (by omega), Int.natAbs_neg, Int.natAbs_natCast]
  show some (double.nearest true _ _) = _
  rw [nearest_neg (by omega), h2]
theorem order_self (hx : Val x vx) (hl : x < 9223372036854775808) : double.order (SB + x) (SB + x) = some .eq := by
  obtain ⟨m, j, r1, rfl, b1⟩ := hx
  unfold Format.order
  rw [read_negV r1 hl]
  show some (compare _ _) = _
  simp
theorem order_neg_zero (hx : Val x vx) (hl : x < 9223372036854775808) (h0 : 0 < vx) : double.order (SB + x) 0 = some .lt ∧ double.order 0 (SB + x) = some .gt := by
  obtain ⟨m, j, r1, rfl, b1⟩ := hx
  have hm : 0 < m := by
    rcases Nat.eq_zero_or_pos m with h | h
    · rw [h, Nat.zero_mul] at h0; exact absurd h0 (by decide)
    · exact h
  have hp : ∀ k, 0 < m * 2 ^ k := fun k => Nat.mul_pos hm (Nat.two_pow_pos _)
  unfold Format.order
  rw [read_negV r1 hl, read_zero]
  constructor
  · show some (compare (signed true m _) (signed false 0 _)) = _
    congr 1
    simp only [signed, Bool.false_eq_true, if_false, if_true, Nat.shiftLeft_eq, Nat.zero_mul]
    refine Int.compare_eq_lt.mpr ?_
    have := hp (-((200 : Nat) : Int) + (j : Nat) - min (-((200 : Nat) : Int) + (j : Nat)) (-1074)).toNat
    omega
  · show some (compare (signed false 0 _) (signed true m _)) = _
    congr 1
    simp only [signed, Bool.false_eq_true, if_false, if_true, Nat.shiftLeft_eq, Nat.zero_mul]
    refine Int.compare_eq_gt.mpr ?_
    have := hp (-((200 : Nat) : Int) + (j : Nat) - min (-1074) (-((200 : Nat) : Int) + (j : Nat))).toNat
    omega
theorem toInt_neg (hx : Val x vx) (hl : x < 9223372036854775808) (hv : vx < 2 ^ 62 * 2 ^ 200) : floatToIntVal .f64 (SB + x) .i64 = some (-((vx / 2 ^ 200 : Nat) : Int)) := by
  have hp := toInt_val hx hv
  have hq : vx / 2 ^ 200 < 2 ^ 62 := by
    rw [Nat.div_lt_iff_lt_mul (Nat.two_pow_pos 200)]
    exact hv
  obtain ⟨m, j, r1, rfl, b1⟩ := hx
  have hd1 : FloatKind.decode .f64 x = .number false m (-((200 : Nat) : Int) + (j : Nat)) := r1
  have hd2 : FloatKind.decode .f64 (SB + x) = .number true m (-((200 : Nat) : Int) + (j : Nat)) := read_negV r1 hl
  have hmin : IntKind.min .i64 = -9223372036854775808 := by decide
  have hmax : IntKind.max .i64 = 9223372036854775807 := by decide
  have h62 : (2 : Nat) ^ 62 = 4611686018427387904 := by decide
  rw [h62] at hq
  unfold floatToIntVal at hp ⊢
  rw [hd1] at hp
  rw [hd2]
  obtain ⟨q, hqq⟩ : ∃ q : Nat, q = Toward.cut .zero false (m <<< (-((200 : Nat) : Int) + (j : Nat)).toNat) (-(-((200 : Nat) : Int) + (j : Nat))).toNat := ⟨_, rfl⟩
  have t1 : Datum.toInt .zero (.number false m (-((200 : Nat) : Int) + (j : Nat))) = some (q : Int) := by
    show some (signed false (Toward.cut .zero false (m <<< (-((200 : Nat) : Int) + (j : Nat)).toNat) (-(-((200 : Nat) : Int) + (j : Nat))).toNat) 0) = _
    rw [← hqq]; simp [signed]
  have t2 : Datum.toInt .zero (.number true m (-((200 : Nat) : Int) + (j : Nat))) = some (-(q : Int)) := by
    show some (signed true (Toward.cut .zero true (m <<< (-((200 : Nat) : Int) + (j : Nat)).toNat) (-(-((200 : Nat) : Int) + (j : Nat))).toNat) 0) = _
    have : Toward.cut .zero true (m <<< (-((200 : Nat) : Int) + (j : Nat)).toNat) (-(-((200 : Nat) : Int) + (j : Nat))).toNat = q := by rw [hqq]; rfl
    rw [this]; simp [signed]
  rw [t1] at hp
  rw [t2]
  simp only [hmin, hmax] at hp ⊢
  have hqv : (q : Int) = ((m * 2 ^ j / 2 ^ 200 : Nat) : Int) := by
    split at hp
    · exact Option.some.inj hp
    · cases hp
  rw [if_pos ⟨by omega, by omega⟩]
  congr 1
  omega
theorem negFloat_neg (hl : x < 9223372036854775808) : Op.negFloat .f64 (SB + x) = x := by
  have e : FloatKind.format .f64 = double := rfl
  unfold Op.negFloat
  rw [e, show double.exponentBits + double.fractionBits = 63 from rfl, show SB = 2 ^ 63 by decide]
  have hl2 : x < 2 ^ 63 := by simpa using hl
  refine Nat.eq_of_testBit_eq fun i => ?_
  rw [Nat.testBit_xor, Nat.testBit_two_pow]
  rcases Nat.lt_trichotomy i 63 with h | h | h
  · rw [Nat.testBit_two_pow_add_gt h, decide_eq_false (by omega)]
    simp
  · subst h
    rw [Nat.testBit_two_pow_add_eq, Nat.testBit_lt_two_pow hl2]
    simp
  · have h1 : x < 2 ^ i := Nat.lt_of_lt_of_le hl2 (Nat.pow_le_pow_right (by decide) (by omega))
    have h2 : 2 ^ 63 + x < 2 ^ i := by
      have : (2 : Nat) ^ 64 ≤ 2 ^ i := Nat.pow_le_pow_right (by decide) (by omega)
      omega
    rw [Nat.testBit_lt_two_pow h1, Nat.testBit_lt_two_pow h2, decide_eq_false (by omega)]
    rfl
end
end Go.Proofs.YtmpgbakkpbmpiaaDoor.Real
/- laws.mixed of either sign; math.IsNaN, math.IsInf of what it gives. -/
namespace Go.Proofs.YtmpgbakkpbmpiaaDoor.Flo
open Go.RowKit Go.Proofs.YtmpgbakkpbmpiaaDoorW.PrintWords Go.Proofs.YtmpgbakkpbmpiaaDoorW.PrintLast Go.Proofs.YtmpgbakkpbmpiaaDoorW.PrintMore
set_option linter.unusedVariables false
set_option linter.unusedSimpArgs false
open Real (SB)

/-- f is N / 1024, or minus that. -/
structure Flo (ng : Bool) (f fa N : Nat) : Prop where
  val : Real.Val fa (N * 2 ^ 190)
  lt : fa < 9223372036854775808
  pos : 0 < N
  top : N < 1099511627776
  eq : f = if ng then SB + fa else fa
theorem int_neg (n : Nat) (h : 0 < n) : floatOfInt .f64 (-(n : Int)) = SB + floatOfInt .f64 (n : Int) ∧ floatOfInt .f64 (n : Int) < 9223372036854775808 := by
  have e1 : floatOfInt .f64 (n : Int) = Ieee.double.nearest false n 0 := by
    show Ieee.double.nearest (decide ((n : Int) < 0)) _ _ = _
    rw [decide_eq_false (by omega)]
    rfl
  have e2 : floatOfInt .f64 (-(n : Int)) = Ieee.double.nearest true n 0 := by
    show Ieee.double.nearest (decide (-(n : Int) < 0)) (-(n : Int)).natAbs _ = _
    rw [decide_eq_true (by omega), Int.natAbs_neg]
    rfl
  rw [e1, e2]
  exact ⟨Real.nearest_neg (by omega) 0, Real.nearest_lt 0⟩
theorem add_lt {x y r : Nat} (h : Ieee.double.add x y = some r) : r < 18446744073709551616 := by
  have h := Ieee.Format.add_lt Ieee.double h
  rw [show 2 ^ Ieee.double.width = 18446744073709551616 by decide] at h
  exact h
theorem mixed_flo (a : Int) (p : Nat) (ha : -1000000000 ≤ a) (ha2 : a ≤ 1000000000) (hp : p < 1024) (h0 : 1024 * a + p ≠ 0) :
    ∃ q f fa N ng, Ieee.double.div (floatOfInt .f64 (p : Int)) 4652218415073722368 = some q ∧ Ieee.double.add (floatOfInt .f64 a) q = some f ∧ Flo ng f fa N := by
  rcases Int.lt_or_le a 0 with hn | hn
  · obtain ⟨W, rfl⟩ : ∃ W : Nat, a = -(W : Int) := ⟨a.natAbs, by omega⟩
    have hW : 0 < W := by omega
    obtain ⟨i1, i2⟩ := int_neg W hW
    have hv := Real.int_val W hW (by omega)
    rw [i1]
    have hvp : 0 < W * 2 ^ 200 := Nat.mul_pos hW (Nat.two_pow_pos _)
    rcases Nat.eq_zero_or_pos p with rfl | hp0
    · have hq : Ieee.double.div (floatOfInt .f64 ((0 : Nat) : Int)) 4652218415073722368 = some 0 := by decide
      obtain ⟨r, hr, hrv⟩ := Real.add_zero_val hv rfl (by omega) hW (by omega) (by omega)
      refine ⟨0, SB + r, r, 1024 * W, true, hq, Real.add_neg_zero hv i2 hvp hr, ?_, Fin.val_lt hrv (add_lt hr), by omega, by omega, rfl⟩
      rw [show 1024 * W * 2 ^ 190 = W * 2 ^ 200 by rw [show (2 : Nat) ^ 200 = 1024 * 2 ^ 190 by decide, Nat.mul_comm 1024 W, Nat.mul_assoc]]
      exact hrv
    · obtain ⟨q, hq, hqv⟩ := Real.div1024 (Real.int_val p hp0 (by omega)) hp0 (by omega)
      obtain ⟨N, hN⟩ : ∃ N, 1024 * W = N + p := ⟨1024 * W - p, by omega⟩
      have e : W * 2 ^ 200 = p * 2 ^ 190 + N * 2 ^ 190 := by
        rw [show (2 : Nat) ^ 200 = 1024 * 2 ^ 190 by decide, ← Nat.mul_assoc, Nat.mul_comm W, hN, Nat.add_mul, Nat.add_comm]
      obtain ⟨r, hr, hrv, hrl⟩ := Real.add_neg hv i2 hqv (by rw [e]; have := Nat.mul_pos (show 0 < N by omega) (Nat.two_pow_pos 190); omega) N 190 e (by omega) (by omega) (by omega)
      exact ⟨q, SB + r, r, N, true, hq, hr, hrv, hrl, by omega, by omega, rfl⟩
  · obtain ⟨W, rfl⟩ := Int.eq_ofNat_of_zero_le hn
    obtain ⟨q, f, hq, hf, hv⟩ := Real.mixed_val W p (by omega) hp (by omega)
    exact ⟨q, f, f, 1024 * W + p, false, hq, hf, hv, Fin.val_lt hv (add_lt hf), by omega, by omega, rfl⟩
section
variable (w : World)
set_option maxHeartbeats 400000
theorem mixed_int (a : Int) (p q f : Nat) (ha : -1000000000 ≤ a) (ha2 : a ≤ 1000000000) (hp : p < 1024) (hq : Ieee.double.div (floatOfInt .f64 (p : Int)) 4652218415073722368 = some q) (hf : Ieee.double.add (floatOfInt .f64 a) q = some f) :
    Calls Tryd.prog 9 #[.int .i64 a, .int .i64 p] w fun e w' => e = .returned (.tuple #[.float .f64 f, .bool true]) ∧ Drawn0 w w' := by
  have h1 : ∀ W : World, (binOp .quo 25 (.float .f64 (floatOfInt .f64 (p : Int))) (.float .f64 4652218415073722368)).run Tryd.prog W = .ok (.float .f64 q) W := fun W => run_float_arith W .quo 25 .f64 _ _ q hq
  have h2 : ∀ W : World, (binOp .add 25 (.float .f64 (floatOfInt .f64 a)) (.float .f64 q)).run Tryd.prog W = .ok (.float .f64 f) W := fun W => run_float_arith W .add 25 .f64 _ _ f hf
  have c1 : decide (-1000000000 ≤ a) = true := decide_eq_true (by omega)
  have c2 : decide (a ≤ 1000000000) = true := decide_eq_true (by omega)
  have c3 : decide ((0 : Int) ≤ (p : Int)) = true := decide_eq_true (by omega)
  have c4 : decide ((p : Int) < 1024) = true := decide_eq_true (by omega)
  have d1 := eq_true (show -1000000000 ≤ a by omega)
  have d2 := eq_true (show a ≤ 1000000000 by omega)
  have d3 := eq_true (show (0 : Int) ≤ (p : Int) by omega)
  have d4 := eq_true (show (p : Int) < 1024 by omega)
  have d6 := eq_true hp
  clear hq hf ha ha2 hp
  go_enter Tryd.func9, Tryd.ntmps9
  go_wp2
  go_ret2
  exact ⟨rfl, by repeat (first | exact Drawn0.refl _ | apply Drawn0.step)⟩
theorem isNaN_of (x : Nat) (h : Ieee.double.order x x = some .eq) : Calls Tryd.prog 28 #[.float .f64 x] w fun e w' => e = .returned (.bool false) ∧ Drawn0 w w' := by
  have h : FloatKind.f64.format.order x x = some .eq := h
  go_enter Tryd.func28, Tryd.ntmps28
  go_wp2
  go_ret
  exact ⟨by simp [h], by repeat (first | exact Drawn0.refl _ | apply Drawn0.step)⟩
theorem abs_neg (x : Nat) (hx : x < 9223372036854775808) : Calls Tryd.prog 31 #[.float .f64 (SB + x)] w fun e w' => e = .returned (.float .f64 x) ∧ Drawn0 w w' := by
  have hb := fun W n => Pow.frombits W n
  have hc := fun W n => Pow.tobits W n
  obtain ⟨y, hy⟩ : ∃ y, y = SB + x := ⟨_, rfl⟩
  rw [← hy]
  have hn : bits .andNot .u64 (y : Int) 9223372036854775808 = (x : Int) := by
    have h := u64_andNot_nat y 9223372036854775808 (by rw [hy]; unfold SB; omega) (by omega)
    rw [show (18446744073709551615 - 9223372036854775808 : Nat) = 2 ^ 63 - 1 by decide, Nat.and_two_pow_sub_one_eq_mod] at h
    have h2 : y % 2 ^ 63 = x := by rw [hy, show SB = 2 ^ 63 by decide, Nat.add_mod_left]; exact Nat.mod_eq_of_lt (by simpa using hx)
    rw [h2] at h
    exact h
  clear hx hy
  go_enter Tryd.func31, Tryd.ntmps31
  go_wp2
  go_ret
  exact ⟨by simp [hn], by repeat (first | exact Drawn0.refl _ | apply Drawn0.step)⟩
theorem isInf_neg (x v : Nat) (hx : Real.Val x v) (hlt : x < 9223372036854775808) (hv : v < 2 ^ 255) : Calls Tryd.prog 25 #[.float .f64 (SB + x), .int .i64 0] w fun e w' => e = .returned (.bool false) ∧ Drawn0 w w' := by
  have ho : FloatKind.f64.format.order x 9218868437227405311 = some .lt := by
    obtain ⟨c, hc⟩ : ∃ c, c = 1171 := ⟨_, rfl⟩
    have hm : Real.Val 9218868437227405311 (9007199254740991 * 2 ^ c) := ⟨9007199254740991, c, by rw [hc]; decide, rfl, by decide⟩
    show Ieee.double.order x _ = _
    rw [Real.order_val hx hm]
    congr 1
    refine Nat.compare_eq_lt.mpr ?_
    have h1 : (2 : Nat) ^ 255 ≤ 2 ^ c := Nat.pow_le_pow_right (by decide) (by omega)
    have h2 : 1 * 2 ^ c ≤ 9007199254740991 * 2 ^ c := Nat.mul_le_mul_right _ (by decide)
    omega
  have HA := Aside0.mk (fun W : World => abs_neg W x hlt)
  obtain ⟨y, hy⟩ : ∃ y, y = SB + x := ⟨_, rfl⟩
  rw [← hy] at HA ⊢
  clear hx hv hy hlt
  go_enter Tryd.func25, Tryd.ntmps25
  go_wp2_with (go_at_call 31; refine (HA.out _).mono ?_; rintro e w' ⟨rfl, hdr⟩)
  go_ret
  exact ⟨by simp [ho], hdr⟩
variable {ng : Bool} {f fa N : Nat}
theorem Flo.small (h : Flo ng f fa N) : N * 2 ^ 190 < 2 ^ 255 := by
  have h1 : N * 2 ^ 190 < 2 ^ 65 * 2 ^ 190 := Nat.mul_lt_mul_of_pos_right (show N < 2 ^ 65 by have h2 : (2 : Nat) ^ 65 = 36893488147419103232 := by decide
                                                                                              have := h.top
                                                                                              omega) (Nat.two_pow_pos _)
  rw [← Nat.pow_add] at h1
  exact h1
theorem Flo.v0 (h : Flo ng f fa N) : 0 < N * 2 ^ 190 := Nat.mul_pos h.pos (Nat.two_pow_pos _)
theorem isNaN_flo (h : Flo ng f fa N) : Calls Tryd.prog 28 #[.float .f64 f] w fun e w' => e = .returned (.bool false) ∧ Drawn0 w w' := by
  refine isNaN_of w f ?_
  rw [h.eq]
  cases ng with
  | false => show Ieee.double.order fa fa = _; rw [Real.order_val h.val h.val]; simp
  | true => exact Real.order_self h.val h.lt
theorem isInf_flo (h : Flo ng f fa N) : Calls Tryd.prog 25 #[.float .f64 f, .int .i64 0] w fun e w' => e = .returned (.bool false) ∧ Drawn0 w w' := by
  rw [h.eq]
  cases ng with
  | false => exact Fin.isInf_val w fa _ h.val (by have := h.lt; omega) h.small
  | true => exact isInf_neg w fa _ h.val h.lt h.small
end
end Go.Proofs.YtmpgbakkpbmpiaaDoor.Flo
/- The exponent's field of a float that stands for a number between two powers of two. -/
namespace Go.Proofs.YtmpgbakkpbmpiaaDoor.Real
open Ieee

theorem read_field (x m j : Nat) (h : double.read x = .number false m (-((200 : Nat) : Int) + (j : Nat))) (hx : x < 9223372036854775808) : x / 4503599627370496 = j + 875 ∧ 4503599627370496 ≤ m ∧ m < 9007199254740992 := by
  have e1 : double.binade = 4503599627370496 := by decide
  have e2 : double.infRung = 9218868437227405312 := by decide
  have e3 : double.signWeight = 9223372036854775808 := by decide
  have e4 : double.leastPlace = -1074 := by decide
  unfold Format.read at h
  simp only [e1, e2, e3, e4] at h
  rw [Nat.mod_eq_of_lt hx] at h
  split at h
  · simp only [Datum.number.injEq] at h
    omega
  · split at h
    · simp only [Datum.number.injEq] at h
      omega
    · split at h <;> cases h
/-- The field. -/
theorem val_field {x v e : Nat} (h : Val x v) (hx : x < 9223372036854775808) (h1 : 2 ^ e ≤ v) (h2 : v < 2 ^ (e + 1)) : x / 4503599627370496 = e + 823 := by
  obtain ⟨m, j, hr, hv, hm⟩ := h
  obtain ⟨a, b, c⟩ := read_field x m j hr hx
  have p52 : (2 : Nat) ^ 52 = 4503599627370496 := by decide
  have p53 : (2 : Nat) ^ 53 = 9007199254740992 := by decide
  have l1 : 2 ^ (52 + j) ≤ v := by
    rw [hv, Nat.pow_add, p52]
    exact Nat.mul_le_mul_right _ b
  have l2 : v < 2 ^ (53 + j) := by
    rw [hv, Nat.pow_add, p53]
    exact Nat.mul_lt_mul_of_pos_right c (Nat.two_pow_pos _)
  have e1 : e < 53 + j := (Nat.pow_lt_pow_iff_right (by decide)).1 (Nat.lt_of_le_of_lt h1 l2)
  have e2 : 52 + j < e + 1 := (Nat.pow_lt_pow_iff_right (by decide)).1 (Nat.lt_of_le_of_lt l1 h2)
  omega
/-- What float64exp makes of the binary exponent n - 9. -/
def tenTab : List Int := [-3, -3, -3, -2, -2, -2, -1, -1, -1, 0, 0, 0, 0, 1, 1, 1, 2, 2, 2, 3, 3, 3, 3, 4, 4, 4, 5, 5, 5, 6, 6, 6, 6, 7, 7, 7, 8, 8, 8, 9]
def tenOf (n : Nat) : Option Int :=
  (double.mul (floatOfInt .f64 ((n : Int) - 9)) 4599094494223104511).bind fun g =>
    if n < 9 then (if double.order g 0 == some .lt then (double.sub g 4607182418800017408).bind fun h => floatToIntVal .f64 h .i64 else none)
    else (if double.order g 0 == some .lt then none else floatToIntVal .f64 g .i64)
def tenOk : Bool := (List.range 40).all fun n => tenOf n == some (tenTab.getD n 0)
theorem ten_ok : tenOk = true := by kernel_rfl
theorem ten_of (n : Nat) (hn : n < 40) : tenOf n = some (tenTab.getD n 0) := by
  have h := ten_ok
  simp only [tenOk, List.all_eq_true, List.mem_range, beq_iff_eq] at h
  exact h n hn
end Go.Proofs.YtmpgbakkpbmpiaaDoor.Real
/- strconv.float64exp, walked. -/
namespace Go.Proofs.YtmpgbakkpbmpiaaDoor.Fexp
open Go.RowKit Go.Proofs.YtmpgbakkpbmpiaaDoorW.PrintWords Go.Proofs.YtmpgbakkpbmpiaaDoorW.PrintLast Go.Proofs.YtmpgbakkpbmpiaaDoorW.PrintMore
set_option linter.unusedVariables false
set_option linter.unusedSimpArgs false
def andOk : Bool := (List.range 40).all fun n => bits .and .i64 ((n + 1013 : Nat) : Int) 2047 == ((n + 1013 : Nat) : Int)
theorem and_ok : andOk = true := by kernel_rfl
theorem and_of (n : Nat) (hn : n < 40) : bits .and .i64 ((n + 1013 : Nat) : Int) 2047 = ((n + 1013 : Nat) : Int) := by
  have h := and_ok
  simp only [andOk, List.all_eq_true, List.mem_range, beq_iff_eq] at h
  exact h n hn
theorem field_facts {x n : Nat} (hx : x / 4503599627370496 = n + 1013) (hn : n < 40) : ∃ r y e : Int, (x : Int) / 4503599627370496 = r ∧ wrap64 r = r ∧ bits .and .i64 r 2047 = r ∧ wrap64 (r - 1023) = y ∧ wrap64 (y + 1) = e ∧ e = (n : Int) - 9 := by
  refine ⟨((n + 1013 : Nat) : Int), (n : Int) - 10, (n : Int) - 9, by omega, ?_, and_of n hn, ?_, ?_, rfl⟩
  · simp only [wrap64]; omega
  · simp only [wrap64]; omega
  · simp only [wrap64]; omega
set_option maxHeartbeats 1000000
theorem fexp_calls (w : World) (x n : Nat) (hx : x / 4503599627370496 = n + 1013) (hn : n < 40) (ho : FloatKind.f64.format.order x 0 = some .gt) :
    Calls Tryd.prog 30 #[.float .f64 x] w fun e w' => e = .returned (.int .i64 (Real.tenTab.getD n 0)) ∧ Drawn0 w w' := by
  have hb := fun W => Pow.tobits W x
  obtain ⟨r, y, e, h1, h0, h2, h3, h4, he⟩ := field_facts hx hn
  have ht := Real.ten_of n hn
  unfold Real.tenOf at ht
  rw [← he] at ht
  obtain ⟨g, hg, hr⟩ := Option.bind_eq_some_iff.1 ht
  have hmul : ∀ W : World, (binOp .mul 25 (.float .f64 (floatOfInt .f64 e)) (.float .f64 4599094494223104511)).run Tryd.prog W = .ok (.float .f64 g) W := fun W => run_float_arith W .mul 25 .f64 _ _ g hg
  obtain ⟨t, htt⟩ : ∃ t, t = Real.tenTab.getD n 0 := ⟨_, rfl⟩
  rw [← htt] at hr ⊢
  by_cases h9 : n < 9
  · rw [if_pos h9] at hr
    by_cases hlt : (Ieee.double.order g 0 == some .lt) = true
    · rw [if_pos hlt] at hr
      obtain ⟨h, hh, hi⟩ := Option.bind_eq_some_iff.1 hr
      have o1 : FloatKind.f64.format.order g 0 = some .lt := beq_iff_eq.1 hlt
      have hsub : ∀ W : World, (binOp .sub 25 (.float .f64 g) (.float .f64 4607182418800017408)).run Tryd.prog W = .ok (.float .f64 h) W := fun W => run_float_arith W .sub 25 .f64 _ _ h hh
      have hcv : ∀ W : World, (convert 25 3 (.float .f64 h)).run Tryd.prog W = .ok (.int .i64 t) W := fun W => run_convert_float_int W 25 3 .f64 .i64 h t (by rw [Tryd.underlying25]; rfl) Tryd.underlying3 hi
      clear hx hn ht hg hr h9 hlt hh hi htt he
      go_enter Tryd.func30, Tryd.ntmps30
      go_wp2
      go_ret
      exact ⟨by simp, by repeat (first | exact Drawn0.refl _ | apply Drawn0.step)⟩
    · rw [if_neg hlt] at hr
      cases hr
  · rw [if_neg h9] at hr
    by_cases hlt : (Ieee.double.order g 0 == some .lt) = true
    · rw [if_pos hlt] at hr
      cases hr
    · rw [if_neg hlt] at hr
      have o1 : (FloatKind.f64.format.order g 0 == some .lt) = false := Bool.eq_false_iff.2 hlt
      have o2 : (FloatKind.f64.format.order g 0 = some .lt) = False := eq_false (fun h => hlt (beq_iff_eq.2 h))
      have hcv : ∀ W : World, (convert 25 3 (.float .f64 g)).run Tryd.prog W = .ok (.int .i64 t) W := fun W => run_convert_float_int W 25 3 .f64 .i64 g t (by rw [Tryd.underlying25]; rfl) Tryd.underlying3 hr
      clear hx hn ht hg hr h9 hlt htt he
      go_enter Tryd.func30, Tryd.ntmps30
      go_wp2
      go_ret
      exact ⟨by simp, by repeat (first | exact Drawn0.refl _ | apply Drawn0.step)⟩
end Go.Proofs.YtmpgbakkpbmpiaaDoor.Fexp
