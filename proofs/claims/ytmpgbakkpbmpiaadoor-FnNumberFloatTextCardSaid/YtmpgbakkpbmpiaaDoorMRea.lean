/- Floats as whole numbers of small parts: sums, products, quotients, roundings. -/
import Derived.Laws.FloatArith
import Derived.Test.YtmpgbakkpbmpiaaDoorTab
/- What a float64 stands for, as a whole number of 2^-200: what rounding does to it. -/
namespace Go.Proofs.YtmpgbakkpbmpiaaDoor.Real
open Ieee

theorem log2_le {n : Nat} (h : 0 < n) : 2 ^ n.log2 ≤ n := Nat.log2_self_le (by omega)
theorem lt_log2 (n : Nat) : n < 2 ^ (n.log2 + 1) := Nat.lt_log2_self
/-- A rung in a normal binade, read. -/
theorem read_word (neg : Bool) (q k : Nat) (hk : 4503599627370496 ≤ k ∧ k ≤ 9007199254740992) (hq : q ≤ 2040) :
    ∃ m j, double.read (double.word neg (min (q * 4503599627370496 + k) double.infRung)) = .number neg m (-1074 + (j : Nat)) ∧ m * 2 ^ j = k * 2 ^ q ∧ q ≤ j ∧ j ≤ q + 1 ∧ m ≤ 9007199254740992 := by
  have e1 : double.binade = 4503599627370496 := by decide
  have e2 : double.infRung = 9218868437227405312 := by decide
  have e3 : double.signWeight = 9223372036854775808 := by decide
  have e4 : double.leastPlace = -1074 := by decide
  rw [e2, Nat.min_eq_left (by omega)]
  have hw : double.word neg (q * 4503599627370496 + k) / 9223372036854775808 % 2 = neg.toNat ∧ double.word neg (q * 4503599627370496 + k) % 9223372036854775808 = q * 4503599627370496 + k := by
    unfold Format.word
    rw [e3]
    cases neg with
    | true => simp only [if_true, Bool.toNat_true]; omega
    | false => simp only [Bool.false_eq_true, if_false, Bool.toNat_false]; omega
  have hs : (double.word neg (q * 4503599627370496 + k) / 9223372036854775808 % 2 == 1) = neg := by
    rw [hw.1]
    cases neg <;> rfl
  unfold Format.read
  simp only [e1, e2, e3, e4]
  rw [hs, hw.2, if_neg (by omega), if_pos (by omega)]
  by_cases hk2 : k = 9007199254740992
  · refine ⟨4503599627370496, q + 1, ?_, by rw [hk2, Nat.pow_succ]; omega, by omega, by omega, by omega⟩
    congr 1
    · omega
    · rw [hk2]
      congr 2
      omega
  · refine ⟨k, q, ?_, rfl, by omega, by omega, by omega⟩
    congr 1
    · omega
    · congr 2
      omega
theorem cut_even (neg : Bool) (n e : Nat) (h : e ≤ n.log2 + 2) : Toward.even.cut neg n e = n / 2 ^ e + (decide (2 ^ e < 2 * (n % 2 ^ e)) || (2 ^ e == 2 * (n % 2 ^ e) && n / 2 ^ e % 2 == 1)).toNat := by
  unfold Toward.cut
  rw [Nat.min_eq_left h, Nat.one_shiftLeft]
/-- ROUNDING: the nearest float's value: off by at most a part in 2^53; not at all where the number has no more than 53 digits. -/
theorem nearest_val (neg : Bool) (mag : Nat) (B s : Nat) (hB : B ≤ 1074) (hm : 0 < mag) (hs : 52 ≤ s + mag.log2) (hs2 : s + mag.log2 ≤ 900 + B) :
    ∃ m j, double.read (double.nearest neg mag (-(B : Int) + (s : Nat))) = .number neg m (-(B : Int) + (j : Nat)) ∧
      9007199254740992 * (m * 2 ^ j) ≤ 9007199254740992 * (mag * 2 ^ s) + mag * 2 ^ s ∧ 9007199254740992 * (mag * 2 ^ s) ≤ 9007199254740992 * (m * 2 ^ j) + mag * 2 ^ s ∧ (∀ a t, mag * 2 ^ s = a * 2 ^ t → a < 9007199254740992 → m * 2 ^ j = mag * 2 ^ s) ∧ s + mag.log2 ≤ j + 52 ∧ m ≤ 9007199254740992 := by
  have e5 : double.fractionBits = 52 := rfl
  have e4 : double.leastPlace = -1074 := by decide
  have e1 : double.binade = 4503599627370496 := by decide
  have hlast : max (-(B : Int) + (s : Int) + mag.log2 - (52 : Nat)) (-1074) = -(B : Int) + (s : Int) + mag.log2 - 52 := by omega
  unfold Format.nearest
  rw [if_neg (by omega)]
  simp only [e5, e4, e1, hlast]
  obtain ⟨q, hq⟩ : ∃ q : Nat, (q : Int) = -(B : Int) + (s : Int) + mag.log2 - 52 + 1074 := ⟨(-(B : Int) + (s : Int) + mag.log2 - 52 + 1074).toNat, by omega⟩
  rw [show (-(B : Int) + (s : Int) + mag.log2 - 52 - -1074).toNat = q by omega]
  have hlo := log2_le hm
  have hhi := lt_log2 mag
  by_cases hL : mag.log2 ≤ 52
  · obtain ⟨e, he⟩ : ∃ e, mag.log2 + e = 52 := ⟨52 - mag.log2, by omega⟩
    have hk : Toward.even.cut neg (mag <<< (-(B : Int) + (s : Int) - (-(B : Int) + (s : Int) + mag.log2 - 52)).toNat) (-(B : Int) + (s : Int) + mag.log2 - 52 - (-(B : Int) + (s : Int))).toNat = mag * 2 ^ e := by
      rw [show (-(B : Int) + (s : Int) - (-(B : Int) + (s : Int) + mag.log2 - 52)).toNat = e by omega, show (-(B : Int) + (s : Int) + mag.log2 - 52 - (-(B : Int) + (s : Int))).toNat = 0 by omega]
      unfold Toward.cut
      simp [Nat.shiftLeft_eq]
      omega
    rw [hk]
    have hp : 2 ^ 52 = 2 ^ mag.log2 * 2 ^ e := by rw [← Nat.pow_add, he]
    have hp2 : 2 ^ 53 = 2 ^ (mag.log2 + 1) * 2 ^ e := by rw [← Nat.pow_add]; congr 1; omega
    have k1 : 2 ^ 52 ≤ mag * 2 ^ e := by rw [hp]; exact Nat.mul_le_mul_right _ hlo
    have k2 : mag * 2 ^ e ≤ 2 ^ 53 := by rw [hp2]; exact Nat.mul_le_mul_right _ (Nat.le_of_lt hhi)
    obtain ⟨m, j, hr, hv, j1, j2, hmb⟩ := read_word neg q (mag * 2 ^ e) ⟨by simpa using k1, by simpa using k2⟩ (by omega)
    obtain ⟨u, hu⟩ : ∃ u, u + B = 1074 := ⟨1074 - B, by omega⟩
    obtain ⟨j', hj'⟩ : ∃ j', j = j' + u := ⟨j - u, by omega⟩
    have hv2 : m * 2 ^ j' = mag * 2 ^ s := by
      have h1 : m * 2 ^ j' * 2 ^ u = mag * 2 ^ s * 2 ^ u := by
        rw [Nat.mul_assoc, ← Nat.pow_add, ← hj', hv, Nat.mul_assoc, ← Nat.pow_add, Nat.mul_assoc, ← Nat.pow_add]
        congr 2
        omega
      exact Nat.eq_of_mul_eq_mul_right (Nat.two_pow_pos _) h1
    refine ⟨m, j', ?_, by rw [hv2]; omega, by rw [hv2]; omega, fun _ _ _ _ => hv2, by omega, hmb⟩
    rw [hr]
    congr 1
    omega
  · obtain ⟨e, he⟩ : ∃ e, mag.log2 = 52 + e := ⟨mag.log2 - 52, by omega⟩
    have he0 : 0 < e := by omega
    have hG : 0 < 2 ^ e := Nat.two_pow_pos e
    obtain ⟨g, hg⟩ : ∃ g, 2 ^ e = 2 * g := ⟨2 ^ (e - 1), by rw [Nat.mul_comm, ← Nat.pow_succ]; congr 1; omega⟩
    have hp : 2 ^ mag.log2 = 4503599627370496 * 2 ^ e := by rw [he, Nat.pow_add]
    have hp2 : 2 ^ (mag.log2 + 1) = 9007199254740992 * 2 ^ e := by rw [show mag.log2 + 1 = 53 + e by omega, Nat.pow_add]
    rw [hp] at hlo
    rw [hp2] at hhi
    have l1 : 4503599627370496 ≤ mag / 2 ^ e := (Nat.le_div_iff_mul_le hG).2 hlo
    have l2 : mag / 2 ^ e < 9007199254740992 := (Nat.div_lt_iff_lt_mul hG).2 hhi
    have hdm := Nat.div_add_mod mag (2 ^ e)
    have hml := Nat.mod_lt mag hG
    obtain ⟨k, hk, hk1, hk2, hk3, hk4⟩ : ∃ k, Toward.even.cut neg (mag <<< (-(B : Int) + (s : Int) - (-(B : Int) + (s : Int) + mag.log2 - 52)).toNat) (-(B : Int) + (s : Int) + mag.log2 - 52 - (-(B : Int) + (s : Int))).toNat = k ∧ (4503599627370496 ≤ k ∧ k ≤ 9007199254740992) ∧ 2 * (k * 2 ^ e) ≤ 2 * mag + 2 ^ e ∧ 2 * mag ≤ 2 * (k * 2 ^ e) + 2 ^ e ∧ (mag % 2 ^ e = 0 → k * 2 ^ e = mag) := by
      rw [show (-(B : Int) + (s : Int) - (-(B : Int) + (s : Int) + mag.log2 - 52)).toNat = 0 by omega, show (-(B : Int) + (s : Int) + mag.log2 - 52 - (-(B : Int) + (s : Int))).toNat = e by omega, Nat.shiftLeft_zero]
      rw [cut_even neg mag e (by omega)]
      have hcomm : mag / 2 ^ e * 2 ^ e = 2 ^ e * (mag / 2 ^ e) := Nat.mul_comm _ _
      have hcomm2 : (mag / 2 ^ e + 1) * 2 ^ e = 2 ^ e * (mag / 2 ^ e) + 2 ^ e := by rw [Nat.add_mul, hcomm, Nat.one_mul]
      by_cases c : (decide (2 ^ e < 2 * (mag % 2 ^ e)) || (2 ^ e == 2 * (mag % 2 ^ e) && mag / 2 ^ e % 2 == 1)) = true
      · refine ⟨mag / 2 ^ e + 1, by rw [c]; rfl, by omega, ?_, ?_, fun h0 => ?_⟩
        · have : 2 ^ e ≤ 2 * (mag % 2 ^ e) := by
            simp only [Bool.or_eq_true, decide_eq_true_eq, Bool.and_eq_true, beq_iff_eq] at c
            omega
          rw [hcomm2]; omega
        · rw [hcomm2]; omega
        · exfalso
          simp only [Bool.or_eq_true, decide_eq_true_eq, Bool.and_eq_true, beq_iff_eq] at c
          omega
      · refine ⟨mag / 2 ^ e, by rw [Bool.eq_false_iff.mpr c]; rfl, by omega, ?_, ?_, fun h0 => by rw [hcomm]; omega⟩
        · rw [hcomm]; omega
        · have : 2 * (mag % 2 ^ e) ≤ 2 ^ e := by
            simp only [Bool.or_eq_true, decide_eq_true_eq, not_or] at c
            omega
          rw [hcomm]; omega
    rw [hk]
    obtain ⟨m, j, hr, hv, j1, j2, hmb⟩ := read_word neg q k hk1 (by omega)
    obtain ⟨u, hu⟩ : ∃ u, u + B = 1074 := ⟨1074 - B, by omega⟩
    obtain ⟨j', hj'⟩ : ∃ j', j = j' + u := ⟨j - u, by omega⟩
    have hv2 : m * 2 ^ j' = k * 2 ^ e * 2 ^ s := by
      have h1 : m * 2 ^ j' * 2 ^ u = k * 2 ^ e * 2 ^ s * 2 ^ u := by
        rw [Nat.mul_assoc, ← Nat.pow_add, ← hj', hv, Nat.mul_assoc k, ← Nat.pow_add, Nat.mul_assoc k, ← Nat.pow_add]
        congr 2
        omega
      exact Nat.eq_of_mul_eq_mul_right (Nat.two_pow_pos _) h1
    have hS : 0 < 2 ^ s := Nat.two_pow_pos s
    refine ⟨m, j', ?_, ?_, ?_, fun a t hat ha => ?_, by omega, hmb⟩
    · rw [hr]
      congr 1
      omega
    · have hA : 9007199254740992 * (k * 2 ^ e) ≤ 9007199254740992 * mag + mag := by omega
      have h := Nat.mul_le_mul_right (2 ^ s) hA
      rw [Nat.add_mul, Nat.mul_assoc, Nat.mul_assoc 9007199254740992 mag] at h
      rw [hv2]
      exact h
    · have hA : 9007199254740992 * mag ≤ 9007199254740992 * (k * 2 ^ e) + mag := by omega
      have h := Nat.mul_le_mul_right (2 ^ s) hA
      rw [Nat.add_mul, Nat.mul_assoc, Nat.mul_assoc 9007199254740992 (k * 2 ^ e)] at h
      rw [hv2]
      exact h
    · have hes : e + s ≤ t := by
        rcases Nat.lt_or_ge t (e + s) with hlt | hge
        · exfalso
          have h1 : a * 2 ^ t < 9007199254740992 * 2 ^ t := Nat.mul_lt_mul_of_pos_right ha (Nat.two_pow_pos t)
          have h2 : 4503599627370496 * 2 ^ e * 2 ^ s ≤ mag * 2 ^ s := Nat.mul_le_mul_right _ hlo
          have h3 : 9007199254740992 * 2 ^ t ≤ 4503599627370496 * 2 ^ e * 2 ^ s := by
            rw [Nat.mul_assoc, ← Nat.pow_add, show e + s = (e + s - t - 1) + t + 1 by omega, Nat.pow_succ, Nat.pow_add, show 9007199254740992 = 4503599627370496 * 2 from rfl, Nat.mul_assoc]
            refine Nat.mul_le_mul_left _ ?_
            have : 1 ≤ 2 ^ (e + s - t - 1) := Nat.two_pow_pos _
            have h4 : 1 * 2 ^ t ≤ 2 ^ (e + s - t - 1) * 2 ^ t := Nat.mul_le_mul_right _ this
            omega
          omega
        · exact hge
      have h5 : mag = a * 2 ^ (t - e - s) * 2 ^ e := by
        refine Nat.eq_of_mul_eq_mul_right hS ?_
        rw [hat, Nat.mul_assoc, Nat.mul_assoc, ← Nat.pow_add, ← Nat.pow_add]
        congr 2
        omega
      rw [hv2, hk4 (by rw [h5]; exact Nat.mul_mod_left _ _)]
end Go.Proofs.YtmpgbakkpbmpiaaDoor.Real
/- The operations on float64s that are not below nought, over whole numbers of 2^-200. -/
namespace Go.Proofs.YtmpgbakkpbmpiaaDoor.Real
open Ieee

/-- x stands for v * 2^-200. -/
def Val (x v : Nat) : Prop := ∃ m j, double.read x = .number false m (-((200 : Nat) : Int) + (j : Nat)) ∧ v = m * 2 ^ j ∧ m ≤ 9007199254740992
/-- y is v, rounded: off by a part in 2^53 at most; not at all where v has no more than 53 digits. -/
def Near (y v : Nat) : Prop := 9007199254740992 * y ≤ 9007199254740992 * v + v ∧ 9007199254740992 * v ≤ 9007199254740992 * y + v ∧ ∀ a t, v = a * 2 ^ t → a < 9007199254740992 → y = v
theorem log_lo {K mag s : Nat} (h : 2 ^ K ≤ mag * 2 ^ s) : K ≤ s + mag.log2 := by
  rcases Nat.lt_or_ge (s + mag.log2) K with hlt | hge
  · exfalso
    have h1 : mag * 2 ^ s < 2 ^ (mag.log2 + 1) * 2 ^ s := Nat.mul_lt_mul_of_pos_right (lt_log2 mag) (Nat.two_pow_pos s)
    rw [← Nat.pow_add] at h1
    have h2 : 2 ^ (mag.log2 + 1 + s) ≤ 2 ^ K := Nat.pow_le_pow_right (by decide) (by omega)
    omega
  · exact hge
theorem log_hi {K mag s : Nat} (hm : 0 < mag) (h : mag * 2 ^ s < 2 ^ K) : s + mag.log2 < K := by
  rcases Nat.lt_or_ge (s + mag.log2) K with hlt | hge
  · exact hlt
  · exfalso
    have h1 : 2 ^ mag.log2 * 2 ^ s ≤ mag * 2 ^ s := Nat.mul_le_mul_right _ (log2_le hm)
    rw [← Nat.pow_add] at h1
    have h2 : 2 ^ K ≤ 2 ^ (mag.log2 + s) := Nat.pow_le_pow_right (by decide) (by omega)
    omega
/-- A number rounded, over the base B: B = 200 + c. -/
theorem near_of (mag B c s : Nat) (hB : B = 200 + c) (hB2 : B ≤ 1074) (hm : 0 < mag) (hlo : 2 ^ (52 + c) ≤ mag * 2 ^ s) (K : Nat) (hK : K ≤ 900 + c) (hhi : mag * 2 ^ s < 2 ^ K) :
    ∃ y, Val (double.nearest false mag (-(B : Int) + (s : Nat))) y ∧ Near (y * 2 ^ c) (mag * 2 ^ s) := by
  have l1 := log_lo hlo
  have l2 := log_hi hm hhi
  obtain ⟨m, j, hr, h1, h2, h3, h4, h5⟩ := nearest_val false mag B s hB2 hm (by omega) (by omega)
  obtain ⟨j', rfl⟩ : ∃ j', j = j' + c := ⟨j - c, by omega⟩
  have e : m * 2 ^ j' * 2 ^ c = m * 2 ^ (j' + c) := by rw [Nat.mul_assoc, ← Nat.pow_add]
  refine ⟨m * 2 ^ j', ⟨m, j', ?_, rfl, h5⟩, ?_⟩
  · rw [hr]
    congr 1
    omega
  · rw [e]
    exact ⟨h1, h2, h3⟩
theorem mul_val {x y vx vy : Nat} (hx : Val x vx) (hy : Val y vy) (hlo : 2 ^ 252 ≤ vx * vy) (K : Nat) (hK : K ≤ 1100) (hhi : vx * vy < 2 ^ K) :
    ∃ r v, double.mul x y = some r ∧ Val r v ∧ Near (v * 2 ^ 200) (vx * vy) := by
  obtain ⟨m1, j1, r1, rfl, b1⟩ := hx
  obtain ⟨m2, j2, r2, rfl, b2⟩ := hy
  have e : m1 * 2 ^ j1 * (m2 * 2 ^ j2) = m1 * m2 * 2 ^ (j1 + j2) := by
    rw [Nat.pow_add]; ac_rfl
  rw [e] at hlo hhi ⊢
  have hm : 0 < m1 * m2 := by
    rcases Nat.eq_zero_or_pos (m1 * m2) with h | h
    · rw [h, Nat.zero_mul] at hlo
      exact absurd hlo (by decide)
    · exact h
  obtain ⟨v, hv, hn⟩ := near_of (m1 * m2) 400 200 (j1 + j2) (by omega) (by omega) hm hlo K hK hhi
  refine ⟨_, v, ?_, hv, hn⟩
  unfold Format.mul
  rw [r1, r2]
  show some (double.nearest (false ^^ false) (m1 * m2) _) = _
  congr 2
  omega
theorem add_val {x y vx vy : Nat} (hx : Val x vx) (hy : Val y vy) (hlo : 2 ^ 52 ≤ vx + vy) (K : Nat) (hK : K ≤ 900) (hhi : vx + vy < 2 ^ K) :
    ∃ r v, double.add x y = some r ∧ Val r v ∧ Near v (vx + vy) := by
  obtain ⟨m1, j1, r1, rfl, b1⟩ := hx
  obtain ⟨m2, j2, r2, rfl, b2⟩ := hy
  obtain ⟨μ, hμ⟩ : ∃ μ, μ = min j1 j2 := ⟨_, rfl⟩
  obtain ⟨d1, hd1⟩ : ∃ d, j1 = μ + d := ⟨j1 - μ, by omega⟩
  obtain ⟨d2, hd2⟩ : ∃ d, j2 = μ + d := ⟨j2 - μ, by omega⟩
  have e : m1 * 2 ^ j1 + m2 * 2 ^ j2 = (m1 * 2 ^ d1 + m2 * 2 ^ d2) * 2 ^ μ := by
    rw [hd1, hd2, Nat.pow_add, Nat.pow_add, Nat.add_mul]; ac_rfl
  rw [e] at hlo hhi ⊢
  have hm : 0 < m1 * 2 ^ d1 + m2 * 2 ^ d2 := by
    rcases Nat.eq_zero_or_pos (m1 * 2 ^ d1 + m2 * 2 ^ d2) with h | h
    · rw [h, Nat.zero_mul] at hlo
      exact absurd hlo (by decide)
    · exact h
  obtain ⟨v, hv, hn⟩ := near_of (m1 * 2 ^ d1 + m2 * 2 ^ d2) 200 0 μ (by omega) (by omega) hm hlo K (by omega) hhi
  refine ⟨_, v, ?_, hv, by simpa using hn⟩
  unfold Format.add
  rw [r1, r2]
  have hb : min (-((200 : Nat) : Int) + (j1 : Nat)) (-((200 : Nat) : Int) + (j2 : Nat)) = -((200 : Nat) : Int) + (μ : Nat) := by omega
  have ht : signed false m1 (-((200 : Nat) : Int) + (j1 : Nat) - (-((200 : Nat) : Int) + (μ : Nat))).toNat + signed false m2 (-((200 : Nat) : Int) + (j2 : Nat) - (-((200 : Nat) : Int) + (μ : Nat))).toNat = ((m1 * 2 ^ d1 + m2 * 2 ^ d2 : Nat) : Int) := by
    rw [show (-((200 : Nat) : Int) + (j1 : Nat) - (-((200 : Nat) : Int) + (μ : Nat))).toNat = d1 by omega, show (-((200 : Nat) : Int) + (j2 : Nat) - (-((200 : Nat) : Int) + (μ : Nat))).toNat = d2 by omega]
    simp only [signed, Bool.false_eq_true, if_false, Nat.shiftLeft_eq]
    exact (Int.natCast_add _ _).symm
  show Option.map double.write (some (Datum.number _ _ _)) = _
  simp only [hb, ht]
  rw [if_neg (by omega), decide_eq_false (by omega)]
  rfl
/-- How two stand to each other. -/
theorem order_val {x y vx vy : Nat} (hx : Val x vx) (hy : Val y vy) : double.order x y = some (compare vx vy) := by
  obtain ⟨m1, j1, r1, rfl, b1⟩ := hx
  obtain ⟨m2, j2, r2, rfl, b2⟩ := hy
  obtain ⟨μ, hμ⟩ : ∃ μ, μ = min j1 j2 := ⟨_, rfl⟩
  obtain ⟨d1, hd1⟩ : ∃ d, j1 = μ + d := ⟨j1 - μ, by omega⟩
  obtain ⟨d2, hd2⟩ : ∃ d, j2 = μ + d := ⟨j2 - μ, by omega⟩
  have hb : min (-((200 : Nat) : Int) + (j1 : Nat)) (-((200 : Nat) : Int) + (j2 : Nat)) = -((200 : Nat) : Int) + (μ : Nat) := by omega
  unfold Format.order
  rw [r1, r2]
  show some (compare (signed false m1 _) (signed false m2 _)) = _
  rw [hb, show (-((200 : Nat) : Int) + (j1 : Nat) - (-((200 : Nat) : Int) + (μ : Nat))).toNat = d1 by omega, show (-((200 : Nat) : Int) + (j2 : Nat) - (-((200 : Nat) : Int) + (μ : Nat))).toNat = d2 by omega]
  simp only [signed, Bool.false_eq_true, if_false, Nat.shiftLeft_eq]
  have e1 : m1 * 2 ^ j1 = m1 * 2 ^ d1 * 2 ^ μ := by rw [hd1, Nat.pow_add]; ac_rfl
  have e2 : m2 * 2 ^ j2 = m2 * 2 ^ d2 * 2 ^ μ := by rw [hd2, Nat.pow_add]; ac_rfl
  rw [e1, e2]
  congr 1
  have hp : 0 < 2 ^ μ := Nat.two_pow_pos μ
  generalize m1 * 2 ^ d1 = a
  generalize m2 * 2 ^ d2 = b
  rcases Nat.lt_trichotomy a b with h | h | h
  · rw [Nat.compare_eq_lt.mpr (Nat.mul_lt_mul_of_pos_right h hp)]
    exact Int.compare_eq_lt.mpr (by omega)
  · subst h
    simp
  · rw [Nat.compare_eq_gt.mpr (Nat.mul_lt_mul_of_pos_right h hp)]
    exact Int.compare_eq_gt.mpr (by omega)
/-- Cut to an integer. -/
theorem toInt_val {x v : Nat} (hx : Val x v) (hv : v < 2 ^ 62 * 2 ^ 200) : floatToIntVal .f64 x .i64 = some ((v / 2 ^ 200 : Nat) : Int) := by
  obtain ⟨m, j, hr, rfl, b1⟩ := hx
  have hdec : FloatKind.decode .f64 x = .number false m (-((200 : Nat) : Int) + (j : Nat)) := hr
  have hq : m * 2 ^ j / 2 ^ 200 < 2 ^ 62 := by
    rw [Nat.div_lt_iff_lt_mul (Nat.two_pow_pos 200)]
    exact hv
  have hc : Toward.cut .zero false (m <<< (-((200 : Nat) : Int) + (j : Nat)).toNat) (-(-((200 : Nat) : Int) + (j : Nat))).toNat = m * 2 ^ j / 2 ^ 200 := by
    unfold Toward.cut
    simp only [Bool.toNat_false, Nat.add_zero]
    rcases Nat.lt_or_ge j 200 with h | h
    · obtain ⟨d, hd⟩ : ∃ d, 200 = j + d := ⟨200 - j, by omega⟩
      rw [show (-((200 : Nat) : Int) + (j : Nat)).toNat = 0 by omega, show (-(-((200 : Nat) : Int) + (j : Nat))).toNat = d by omega, Nat.shiftLeft_zero, hd, Nat.pow_add, Nat.mul_comm (2 ^ j), Nat.mul_div_mul_right _ _ (Nat.two_pow_pos j), Nat.one_shiftLeft]
      rcases Nat.le_total d (m.log2 + 2) with h2 | h2
      · rw [Nat.min_eq_left h2]
      · rw [Nat.min_eq_right h2, Nat.div_eq_of_lt, Nat.div_eq_of_lt]
        · exact Nat.lt_of_lt_of_le (lt_log2 m) (Nat.pow_le_pow_right (by decide) (by omega))
        · exact Nat.lt_of_lt_of_le (lt_log2 m) (Nat.pow_le_pow_right (by decide) (by omega))
    · obtain ⟨d, hd⟩ : ∃ d, j = 200 + d := ⟨j - 200, by omega⟩
      rw [show (-((200 : Nat) : Int) + (j : Nat)).toNat = d by omega, show (-(-((200 : Nat) : Int) + (j : Nat))).toNat = 0 by omega, hd, Nat.pow_add, ← Nat.mul_assoc, Nat.mul_right_comm, Nat.mul_div_cancel _ (Nat.two_pow_pos 200)]
      simp [Nat.shiftLeft_eq]
  unfold floatToIntVal
  rw [hdec]
  have ht : Datum.toInt .zero (.number false m (-((200 : Nat) : Int) + (j : Nat))) = some ((m * 2 ^ j / 2 ^ 200 : Nat) : Int) := by
    show some (signed false (Toward.cut .zero false (m <<< (-((200 : Nat) : Int) + (j : Nat)).toNat) (-(-((200 : Nat) : Int) + (j : Nat))).toNat) 0) = _
    rw [hc]
    simp [signed]
  rw [ht]
  have hmin : IntKind.min .i64 = -9223372036854775808 := by decide
  have hmax : IntKind.max .i64 = 9223372036854775807 := by decide
  simp only [hmin, hmax]
  have h62 : (2 : Nat) ^ 62 = 4611686018427387904 := by decide
  rw [h62] at hq
  rw [if_pos ⟨by omega, by omega⟩]
/-- An integer of no more than 53 digits, as a float. -/
theorem int_val (n : Nat) (h0 : 0 < n) (hn : n < 9007199254740992) : Val (floatOfInt .f64 n) (n * 2 ^ 200) := by
  have h53 : n * 2 ^ 200 < 2 ^ 253 := by
    have : n * 2 ^ 200 < 9007199254740992 * 2 ^ 200 := Nat.mul_lt_mul_of_pos_right hn (Nat.two_pow_pos 200)
    rw [show 9007199254740992 = 2 ^ 53 by decide, ← Nat.pow_add] at this
    exact this
  obtain ⟨y, hy, hn2⟩ := near_of n 200 0 200 (by omega) (by omega) h0 (by
    have : 1 * 2 ^ 200 ≤ n * 2 ^ 200 := Nat.mul_le_mul_right _ h0
    have h2 : (2 : Nat) ^ (52 + 0) ≤ 2 ^ 200 := Nat.pow_le_pow_right (by decide) (by omega)
    omega) 253 (by omega) h53
  have e : y = n * 2 ^ 200 := by simpa using hn2.2.2 n 200 rfl hn
  rw [← e]
  have e2 : floatOfInt .f64 (n : Int) = double.nearest false n (-((200 : Nat) : Int) + ((200 : Nat) : Int)) := by
    show double.nearest (decide ((n : Int) < 0)) _ _ = _
    rw [decide_eq_false (by omega)]
    rfl
  rw [e2]
  exact hy
end Go.Proofs.YtmpgbakkpbmpiaaDoor.Real
/- Quotients and differences of float64s, over whole numbers of 2^-200. -/
namespace Go.Proofs.YtmpgbakkpbmpiaaDoor.Real
open Ieee

theorem quo_core {x y m1 j1 m2 j2 : Nat} (r1 : double.read x = .number false m1 (-((200 : Nat) : Int) + (j1 : Nat))) (b1 : m1 ≤ 9007199254740992) (r2 : double.read y = .number false m2 (-((200 : Nat) : Int) + (j2 : Nat))) (b2 : m2 ≤ 9007199254740992)
    (h0 : 2 ^ 120 ≤ m1 * 2 ^ j1) (h1 : m1 * 2 ^ j1 < 2 ^ 255) (h2 : 2 ^ 120 ≤ m2 * 2 ^ j2) (h3 : m2 * 2 ^ j2 < 2 ^ 255) (c : Nat) (hc : c = 874) :
    ∃ r v Q, double.div x y = some r ∧ Val r v ∧ Near (v * 2 ^ c) Q ∧
      18014398509481984 * (Q * (m2 * 2 ^ j2)) ≤ 18014398509481984 * (m1 * 2 ^ j1 * 2 ^ 200 * 2 ^ c) + m1 * 2 ^ j1 * 2 ^ 200 * 2 ^ c ∧
      18014398509481984 * (m1 * 2 ^ j1 * 2 ^ 200 * 2 ^ c) ≤ 18014398509481984 * (Q * (m2 * 2 ^ j2)) + m1 * 2 ^ j1 * 2 ^ 200 * 2 ^ c ∧
      (m2 ∣ m1 * 2 ^ (54 + m2.log2 - m1.log2) → Q * (m2 * 2 ^ j2) = m1 * 2 ^ j1 * 2 ^ 200 * 2 ^ c) := by
  have p1 : 0 < m1 := by
    rcases Nat.eq_zero_or_pos m1 with h | h
    · rw [h, Nat.zero_mul] at h0; exact absurd h0 (by decide)
    · exact h
  have p2 : 0 < m2 := by
    rcases Nat.eq_zero_or_pos m2 with h | h
    · rw [h, Nat.zero_mul] at h2; exact absurd h2 (by decide)
    · exact h
  have l1 : m1.log2 ≤ 53 := by
    have := log_hi (K := 54) (s := 0) p1 (by omega)
    omega
  have l2 : m2.log2 ≤ 53 := by
    have := log_hi (K := 54) (s := 0) p2 (by omega)
    omega
  have k1 := log_lo h0
  have k2 := log_hi p1 h1
  have k3 := log_lo h2
  have k4 := log_hi p2 h3
  obtain ⟨more, hmore⟩ : ∃ more, more = 54 + m2.log2 - m1.log2 := ⟨_, rfl⟩
  obtain ⟨s, hs⟩ : ∃ s, s + j2 + more = 1073 + j1 := ⟨1073 + j1 - j2 - more, by omega⟩
  obtain ⟨D, hD⟩ : ∃ D, D = m1 * 2 ^ more := ⟨_, rfl⟩
  obtain ⟨mag, hmag⟩ : ∃ mag, mag = 2 * (D / m2) + (D % m2 != 0).toNat := ⟨_, rfl⟩
  -- the dividend is far greater than the divisor
  have hDn : 9007199254740992 * m2 ≤ D := by
    have a1 : 2 ^ (m1.log2 + more) ≤ D := by rw [hD, Nat.pow_add]; exact Nat.mul_le_mul_right _ (log2_le p1)
    have a2 : m2 < 2 ^ (m2.log2 + 1) := lt_log2 m2
    have a3 : 9007199254740992 * 2 ^ (m2.log2 + 1) = 2 ^ (m1.log2 + more) := by
      rw [show 9007199254740992 = 2 ^ 53 by decide, ← Nat.pow_add]
      congr 1
      omega
    have a4 : 9007199254740992 * m2 ≤ 9007199254740992 * 2 ^ (m2.log2 + 1) := Nat.mul_le_mul_left _ (Nat.le_of_lt a2)
    omega
  have hdm := Nat.div_add_mod D m2
  have hml := Nat.mod_lt D p2
  have hcomm : m2 * (D / m2) = D / m2 * m2 := Nat.mul_comm _ _
  have hrel : mag * m2 ≤ 2 * D + m2 ∧ 2 * D ≤ mag * m2 + m2 ∧ (D % m2 = 0 → mag * m2 = 2 * D) := by
    rw [hmag, Nat.add_mul, Nat.mul_assoc]
    by_cases hz : D % m2 = 0
    · rw [hz]
      simp only [bne_self_eq_false, Bool.toNat_false, Nat.zero_mul, Nat.add_zero]
      refine ⟨by omega, by omega, fun _ => by omega⟩
    · rw [bne_iff_ne.mpr hz]
      simp only [Bool.toNat_true, Nat.one_mul]
      refine ⟨by omega, by omega, fun h => absurd h hz⟩
  have hmag0 : 0 < mag := by
    rcases Nat.eq_zero_or_pos mag with h | h
    · rw [h, Nat.zero_mul] at hrel; omega
    · exact h
  -- over one measure
  have eQ : mag * 2 ^ s * (m2 * 2 ^ j2) = mag * m2 * 2 ^ (s + j2) := by rw [Nat.pow_add]; ac_rfl
  have eT : m1 * 2 ^ j1 * 2 ^ 200 * 2 ^ c = 2 * D * 2 ^ (s + j2) := by
    rw [hD, show 2 * (m1 * 2 ^ more) * 2 ^ (s + j2) = m1 * (2 ^ 1 * 2 ^ more * 2 ^ (s + j2)) by rw [Nat.pow_one]; ac_rfl, Nat.mul_assoc, Nat.mul_assoc, ← Nat.pow_add, ← Nat.pow_add, ← Nat.pow_add, ← Nat.pow_add]
    congr 2
    omega
  have hG : 0 < 2 ^ (s + j2) := Nat.two_pow_pos _
  have g1 : 18014398509481984 * (mag * 2 ^ s * (m2 * 2 ^ j2)) ≤ 18014398509481984 * (m1 * 2 ^ j1 * 2 ^ 200 * 2 ^ c) + m1 * 2 ^ j1 * 2 ^ 200 * 2 ^ c := by
    rw [eQ, eT]
    have h := Nat.mul_le_mul_right (2 ^ (s + j2)) (show 18014398509481984 * (mag * m2) ≤ 18014398509481984 * (2 * D) + 2 * D by omega)
    rw [Nat.add_mul, Nat.mul_assoc, Nat.mul_assoc 18014398509481984 (2 * D)] at h
    exact h
  have g2 : 18014398509481984 * (m1 * 2 ^ j1 * 2 ^ 200 * 2 ^ c) ≤ 18014398509481984 * (mag * 2 ^ s * (m2 * 2 ^ j2)) + m1 * 2 ^ j1 * 2 ^ 200 * 2 ^ c := by
    rw [eQ, eT]
    have h := Nat.mul_le_mul_right (2 ^ (s + j2)) (show 18014398509481984 * (2 * D) ≤ 18014398509481984 * (mag * m2) + 2 * D by omega)
    rw [Nat.add_mul, Nat.mul_assoc, Nat.mul_assoc 18014398509481984 (mag * m2)] at h
    exact h
  have p3 : 0 < m2 * 2 ^ j2 := Nat.mul_pos p2 (Nat.two_pow_pos _)
  have hlo : 2 ^ (52 + c) ≤ mag * 2 ^ s := by
    rcases Nat.lt_or_ge (mag * 2 ^ s) (2 ^ (52 + c)) with h | h
    · exfalso
      have a1 : mag * 2 ^ s * (m2 * 2 ^ j2) < 2 ^ (52 + c) * 2 ^ 255 := Nat.lt_of_lt_of_le (Nat.mul_lt_mul_of_pos_right h p3) (Nat.mul_le_mul_left _ (Nat.le_of_lt h3))
      have a2 : 2 ^ 120 * (2 ^ 200 * 2 ^ c) ≤ m1 * 2 ^ j1 * 2 ^ 200 * 2 ^ c := by rw [Nat.mul_assoc]; exact Nat.mul_le_mul_right _ h0
      rw [← Nat.pow_add] at a1
      rw [← Nat.pow_add, ← Nat.pow_add] at a2
      have a3 : 2 ^ (52 + c + 255) * 8 ≤ 2 ^ (120 + (200 + c)) := by
        rw [show 8 = 2 ^ 3 by decide, ← Nat.pow_add]
        exact Nat.pow_le_pow_right (by decide) (by omega)
      omega
    · exact h
  have hhi : mag * 2 ^ s < 2 ^ (c + 400) := by
    rcases Nat.lt_or_ge (mag * 2 ^ s) (2 ^ (c + 400)) with h | h
    · exact h
    · exfalso
      have a1 : 2 ^ (c + 400) * 2 ^ 120 ≤ mag * 2 ^ s * (m2 * 2 ^ j2) := Nat.mul_le_mul h h2
      have a2 : m1 * 2 ^ j1 * 2 ^ 200 * 2 ^ c < 2 ^ 255 * (2 ^ 200 * 2 ^ c) := by rw [Nat.mul_assoc]; exact Nat.mul_lt_mul_of_pos_right h1 (Nat.mul_pos (Nat.two_pow_pos _) (Nat.two_pow_pos _))
      rw [← Nat.pow_add] at a1
      rw [← Nat.pow_add, ← Nat.pow_add] at a2
      have a3 : 2 ^ (255 + (200 + c)) * 8 ≤ 2 ^ (c + 400 + 120) := by
        rw [show 8 = 2 ^ 3 by decide, ← Nat.pow_add]
        exact Nat.pow_le_pow_right (by decide) (by omega)
      omega
  obtain ⟨v, hv, hn⟩ := near_of mag (200 + c) c s rfl (by omega) hmag0 hlo (c + 400) (by omega) hhi
  refine ⟨_, v, mag * 2 ^ s, ?_, hv, hn, g1, g2, fun hdvd => ?_⟩
  · unfold Format.div
    rw [r1, r2]
    have hq : Datum.quotient (double.fractionBits + 2) (.number false m1 (-((200 : Nat) : Int) + (j1 : Nat))) (.number false m2 (-((200 : Nat) : Int) + (j2 : Nat))) = some (.number false mag (-((200 + c : Nat) : Int) + (s : Nat))) := by
      show (if m2 = 0 then _ else _) = _
      rw [if_neg (by omega)]
      show some (Datum.number _ (2 * (m1 <<< (54 + m2.log2 - m1.log2) / m2) + (m1 <<< (54 + m2.log2 - m1.log2) % m2 != 0).toNat) _) = _
      rw [← hmore, Nat.shiftLeft_eq, ← hD, ← hmag]
      congr 2
      show (-((200 : Nat) : Int) + (j1 : Nat)) - (-((200 : Nat) : Int) + (j2 : Nat)) - ((54 + m2.log2 - m1.log2 : Nat) : Int) - 1 = _
      rw [← hmore]
      omega
    rw [hq]
    rfl
  · rw [← hmore, ← hD] at hdvd
    rw [eQ, eT, hrel.2.2 (Nat.mod_eq_zero_of_dvd hdvd)]
/-- A quotient, rounded: off by less than a part in 2^51. -/
theorem quo_val {x y vx vy : Nat} (hx : Val x vx) (hy : Val y vy) (h0 : 2 ^ 120 ≤ vx) (h1 : vx < 2 ^ 255) (h2 : 2 ^ 120 ≤ vy) (h3 : vy < 2 ^ 255) :
    ∃ r v, double.div x y = some r ∧ Val r v ∧ 2251799813685248 * (v * vy) ≤ 2251799813685248 * (vx * 2 ^ 200) + vx * 2 ^ 200 ∧ 2251799813685248 * (vx * 2 ^ 200) ≤ 2251799813685248 * (v * vy) + vx * 2 ^ 200 := by
  obtain ⟨m1, j1, r1, rfl, b1⟩ := hx
  obtain ⟨m2, j2, r2, rfl, b2⟩ := hy
  obtain ⟨c, hc⟩ : ∃ c, c = 874 := ⟨_, rfl⟩
  obtain ⟨r, v, Q, hr, hv, hn, g1, g2, -⟩ := quo_core r1 b1 r2 b2 h0 h1 h2 h3 c hc
  refine ⟨r, v, hr, hv, ?_⟩
  have n1 := Nat.mul_le_mul_right (m2 * 2 ^ j2) hn.1
  have n2 := Nat.mul_le_mul_right (m2 * 2 ^ j2) hn.2.1
  rw [Nat.add_mul, Nat.mul_assoc, Nat.mul_assoc 9007199254740992 Q] at n1
  rw [Nat.add_mul, Nat.mul_assoc, Nat.mul_assoc 9007199254740992 (v * 2 ^ c)] at n2
  have e : v * 2 ^ c * (m2 * 2 ^ j2) = v * (m2 * 2 ^ j2) * 2 ^ c := by ac_rfl
  rw [e] at n1 n2
  have hW : 0 < 2 ^ c := Nat.two_pow_pos c
  generalize Q * (m2 * 2 ^ j2) = P at *
  generalize hR : v * (m2 * 2 ^ j2) = R at *
  generalize hT : m1 * 2 ^ j1 * 2 ^ 200 = T at *
  constructor
  · refine Nat.le_of_mul_le_mul_right ?_ hW
    rw [Nat.add_mul, Nat.mul_assoc, Nat.mul_assoc]
    omega
  · refine Nat.le_of_mul_le_mul_right ?_ hW
    rw [Nat.add_mul, Nat.mul_assoc, Nat.mul_assoc]
    omega
/-- A quotient by 1024: whole. -/
theorem div1024 {x p : Nat} (hx : Val x (p * 2 ^ 200)) (h0 : 0 < p) (hp : p < 9007199254740992) : ∃ r, double.div x 4652218415073722368 = some r ∧ Val r (p * 2 ^ 190) := by
  obtain ⟨m1, j1, r1, e1, b1⟩ := hx
  have r2 : double.read 4652218415073722368 = .number false 4503599627370496 (-((200 : Nat) : Int) + ((158 : Nat) : Nat)) := by decide
  obtain ⟨c, hc⟩ : ∃ c, c = 874 := ⟨_, rfl⟩
  have hlo : 2 ^ 120 ≤ m1 * 2 ^ j1 := by
    rw [← e1]
    have a : 1 * 2 ^ 200 ≤ p * 2 ^ 200 := Nat.mul_le_mul_right _ h0
    have b : (2 : Nat) ^ 120 ≤ 2 ^ 200 := Nat.pow_le_pow_right (by decide) (by omega)
    omega
  have hhi : m1 * 2 ^ j1 < 2 ^ 255 := by
    rw [← e1]
    have a : p * 2 ^ 200 < 9007199254740992 * 2 ^ 200 := Nat.mul_lt_mul_of_pos_right hp (Nat.two_pow_pos 200)
    rw [show 9007199254740992 = 2 ^ 53 by decide, ← Nat.pow_add] at a
    have b : (2 : Nat) ^ (53 + 200) ≤ 2 ^ 255 := Nat.pow_le_pow_right (by decide) (by omega)
    omega
  have y1 : (4503599627370496 : Nat) * 2 ^ 158 = 2 ^ 210 := by decide
  obtain ⟨r, v, Q, hr, hv, hn, -, -, g3⟩ := quo_core r1 b1 r2 (by decide) hlo hhi (by rw [y1]; exact Nat.pow_le_pow_right (by decide) (by omega)) (by rw [y1]; exact Nat.pow_lt_pow_right (by decide) (by omega)) c hc
  have p1 : 0 < m1 := by
    rcases Nat.eq_zero_or_pos m1 with h | h
    · rw [h, Nat.zero_mul] at hlo; exact absurd hlo (by decide)
    · exact h
  have l1 : m1.log2 ≤ 53 := by
    have := log_hi (K := 54) (s := 0) p1 (by omega)
    omega
  have hl : (4503599627370496 : Nat).log2 = 52 := by decide
  have hd := g3 (by
    rw [hl]
    obtain ⟨d, hd⟩ : ∃ d, 54 + 52 - m1.log2 = 52 + d := ⟨54 - m1.log2, by omega⟩
    rw [hd, Nat.pow_add]
    exact ⟨m1 * 2 ^ d, by rw [show (4503599627370496 : Nat) = 2 ^ 52 by decide]; ac_rfl⟩)
  rw [y1, ← e1] at hd
  have hQ : Q = p * 2 ^ (190 + c) := by
    refine Nat.eq_of_mul_eq_mul_right (Nat.two_pow_pos 210) ?_
    rw [hd]
    simp only [Nat.mul_assoc, ← Nat.pow_add]
    congr 2
    omega
  have hv2 : v = p * 2 ^ 190 := by
    refine Nat.eq_of_mul_eq_mul_right (Nat.two_pow_pos c) ?_
    rw [hn.2.2 p (190 + c) hQ hp, hQ, Nat.pow_add, Nat.mul_assoc]
  exact ⟨r, hr, hv2 ▸ hv⟩
end Go.Proofs.YtmpgbakkpbmpiaaDoor.Real
/- Sums with nought, differences under a bound, and laws.mixed, over whole numbers of 2^-200. -/
namespace Go.Proofs.YtmpgbakkpbmpiaaDoor.Real
open Ieee

theorem read_zero : double.read 0 = .number false 0 (-1074) := by decide
theorem zero_core {m j : Nat} (a t : Nat) (hv : m * 2 ^ j = a * 2 ^ t) (ha : a < 9007199254740992) (ha0 : 0 < a) (ht : 100 ≤ t) (ht2 : t ≤ 255) :
    Val (double.nearest false (m * 2 ^ (874 + j)) (-1074)) (m * 2 ^ j) := by
  obtain ⟨c, hc⟩ : ∃ c, c = 874 := ⟨_, rfl⟩
  rw [← hc]
  have e : m * 2 ^ (c + j) = a * 2 ^ t * 2 ^ c := by rw [← hv, Nat.add_comm, Nat.pow_add]; ac_rfl
  have hm : 0 < m * 2 ^ (c + j) := by
    rw [e]
    exact Nat.mul_pos (Nat.mul_pos ha0 (Nat.two_pow_pos _)) (Nat.two_pow_pos _)
  have hlo : 2 ^ (52 + c) ≤ m * 2 ^ (c + j) * 2 ^ 0 := by
    rw [Nat.pow_zero, Nat.mul_one, e, Nat.pow_add]
    refine Nat.mul_le_mul_right _ ?_
    have h1 : 1 * 2 ^ t ≤ a * 2 ^ t := Nat.mul_le_mul_right _ ha0
    have h2 : (2 : Nat) ^ 52 ≤ 2 ^ t := Nat.pow_le_pow_right (by decide) (by omega)
    omega
  have hhi : m * 2 ^ (c + j) * 2 ^ 0 < 2 ^ (53 + t + c) := by
    rw [Nat.pow_zero, Nat.mul_one, e, Nat.pow_add, Nat.pow_add]
    refine Nat.mul_lt_mul_of_pos_right ?_ (Nat.two_pow_pos _)
    exact Nat.mul_lt_mul_of_pos_right (show a < 2 ^ 53 by simpa using ha) (Nat.two_pow_pos _)
  obtain ⟨v, hvv, hn⟩ := near_of (m * 2 ^ (c + j)) (200 + c) c 0 rfl (by omega) hm hlo (53 + t + c) (by omega) hhi
  have h3 := hn.2.2 a (t + c) (by rw [Nat.pow_zero, Nat.mul_one, e, Nat.pow_add, Nat.mul_assoc]) ha
  have h4 : v = m * 2 ^ j := by
    refine Nat.eq_of_mul_eq_mul_right (Nat.two_pow_pos c) ?_
    rw [h3, Nat.pow_zero, Nat.mul_one, e, hv]
  rw [← h4]
  have h5 : (-((200 + c : Nat) : Int) + ((0 : Nat) : Int)) = -1074 := by omega
  rw [h5] at hvv
  exact hvv
theorem add_zero_val {x v a t : Nat} (hx : Val x v) (hv : v = a * 2 ^ t) (ha : a < 9007199254740992) (ha0 : 0 < a) (ht : 100 ≤ t) (ht2 : t ≤ 255) : ∃ r, double.add x 0 = some r ∧ Val r v := by
  obtain ⟨m, j, r1, rfl, b1⟩ := hx
  have h := zero_core (m := m) (j := j) a t hv ha ha0 ht ht2
  refine ⟨_, ?_, h⟩
  have hm : 0 < m := by
    rcases Nat.eq_zero_or_pos m with h | h
    · rw [h, Nat.zero_mul] at hv
      have := Nat.mul_pos ha0 (Nat.two_pow_pos t)
      omega
    · exact h
  have hp : 0 < m * 2 ^ (874 + j) := Nat.mul_pos hm (Nat.two_pow_pos _)
  unfold Format.add
  rw [r1, read_zero]
  have hb : min (-((200 : Nat) : Int) + (j : Nat)) (-1074) = -1074 := by omega
  have ht : signed false m (-((200 : Nat) : Int) + (j : Nat) - -1074).toNat + signed false 0 (-1074 - -1074 : Int).toNat = ((m * 2 ^ (874 + j) : Nat) : Int) := by
    rw [show (-((200 : Nat) : Int) + (j : Nat) - -1074).toNat = 874 + j by omega]
    simp only [signed, Bool.false_eq_true, if_false, Nat.shiftLeft_eq, Nat.zero_mul]
    omega
  show Option.map double.write (some (Datum.number _ _ _)) = _
  simp only [hb, ht]
  rw [if_neg (by omega), decide_eq_false (by omega)]
  rfl
theorem zero_add_val {x v a t : Nat} (hx : Val x v) (hv : v = a * 2 ^ t) (ha : a < 9007199254740992) (ha0 : 0 < a) (ht : 100 ≤ t) (ht2 : t ≤ 255) : ∃ r, double.add 0 x = some r ∧ Val r v := by
  obtain ⟨m, j, r1, rfl, b1⟩ := hx
  have h := zero_core (m := m) (j := j) a t hv ha ha0 ht ht2
  refine ⟨_, ?_, h⟩
  have hm : 0 < m := by
    rcases Nat.eq_zero_or_pos m with h | h
    · rw [h, Nat.zero_mul] at hv
      have := Nat.mul_pos ha0 (Nat.two_pow_pos t)
      omega
    · exact h
  have hp : 0 < m * 2 ^ (874 + j) := Nat.mul_pos hm (Nat.two_pow_pos _)
  unfold Format.add
  rw [r1, read_zero]
  have hb : min (-1074) (-((200 : Nat) : Int) + (j : Nat)) = -1074 := by omega
  have ht : signed false 0 (-1074 - -1074 : Int).toNat + signed false m (-((200 : Nat) : Int) + (j : Nat) - -1074).toNat = ((m * 2 ^ (874 + j) : Nat) : Int) := by
    rw [show (-((200 : Nat) : Int) + (j : Nat) - -1074).toNat = 874 + j by omega]
    simp only [signed, Bool.false_eq_true, if_false, Nat.shiftLeft_eq, Nat.zero_mul]
    omega
  show Option.map double.write (some (Datum.number _ _ _)) = _
  simp only [hb, ht]
  rw [if_neg (by omega), decide_eq_false (by omega)]
  rfl
/-- A whole number and some 1024ths. -/
theorem mixed_val (w p : Nat) (hw : w ≤ 1000000000) (hp : p < 1024) (h0 : 0 < 1024 * w + p) :
    ∃ q f, double.div (floatOfInt .f64 p) 4652218415073722368 = some q ∧ double.add (floatOfInt .f64 w) q = some f ∧ Val f ((1024 * w + p) * 2 ^ 190) := by
  have hz : floatOfInt .f64 ((0 : Nat) : Int) = 0 := by decide
  rcases Nat.eq_zero_or_pos p with rfl | hp0
  · have hq : double.div (floatOfInt .f64 ((0 : Nat) : Int)) 4652218415073722368 = some 0 := by decide
    have hv := int_val w (by omega) (by omega)
    obtain ⟨r, hr, hrv⟩ := add_zero_val hv rfl (by omega) (by omega) (by omega) (by omega)
    refine ⟨0, r, hq, hr, ?_⟩
    rw [show (1024 * w + 0) * 2 ^ 190 = w * 2 ^ 200 by rw [show (2 : Nat) ^ 200 = 1024 * 2 ^ 190 by decide]; rw [Nat.add_zero, Nat.mul_comm 1024 w, Nat.mul_assoc]]
    exact hrv
  · obtain ⟨q, hq, hqv⟩ := div1024 (int_val p hp0 (by omega)) hp0 (by omega)
    rcases Nat.eq_zero_or_pos w with rfl | hw0
    · obtain ⟨r, hr, hrv⟩ := zero_add_val hqv rfl (by omega) (by omega) (by omega) (by omega)
      refine ⟨q, r, hq, by rw [hz]; exact hr, ?_⟩
      rw [Nat.mul_zero, Nat.zero_add]
      exact hrv
    · have e : w * 2 ^ 200 + p * 2 ^ 190 = (1024 * w + p) * 2 ^ 190 := by
        rw [show (2 : Nat) ^ 200 = 1024 * 2 ^ 190 by decide, Nat.add_mul, Nat.mul_comm 1024 w, Nat.mul_assoc]
      have hpos : 1 * 2 ^ 190 ≤ (1024 * w + p) * 2 ^ 190 := Nat.mul_le_mul_right _ (by omega)
      have hlt : (1024 * w + p) * 2 ^ 190 < 2 ^ 53 * 2 ^ 190 := Nat.mul_lt_mul_of_pos_right (show 1024 * w + p < 9007199254740992 by omega) (Nat.two_pow_pos _)
      obtain ⟨r, v, hr, hrv, hn⟩ := add_val (int_val w hw0 (by omega)) hqv (by
        rw [e]
        have : (2 : Nat) ^ 52 ≤ 2 ^ 190 := Nat.pow_le_pow_right (by decide) (by omega)
        omega) 243 (by omega) (by rw [e]; rw [← Nat.pow_add] at hlt; exact hlt)
      have hv := hn.2.2 (1024 * w + p) 190 e (by omega)
      refine ⟨q, r, hq, hr, ?_⟩
      rw [← e, ← hv]
      exact hrv
/-- A difference is not above c: where it is not above nought, or where it lies under c by more than rounding can move it. -/
theorem sub_le {x y c vx vy vc : Nat} (hx : Val x vx) (hy : Val y vy) (hc : Val c vc) (hc0 : 0 < vc) (h1 : 2 ^ 150 ≤ vx) (h2 : 2 ^ 150 ≤ vy) (h3 : vx < 2 ^ 255) (h4 : vy < 2 ^ 255) (hd : 8 * vx ≤ 8 * vy + 7 * vc) :
    ∃ r, double.sub x y = some r ∧ (double.order r c = some .lt ∨ double.order r c = some .eq) := by
  obtain ⟨m1, j1, r1, rfl, b1⟩ := hx
  obtain ⟨m2, j2, r2, rfl, b2⟩ := hy
  have p1 : 0 < m1 := by
    rcases Nat.eq_zero_or_pos m1 with h | h
    · rw [h, Nat.zero_mul] at h1; exact absurd h1 (by decide)
    · exact h
  have p2 : 0 < m2 := by
    rcases Nat.eq_zero_or_pos m2 with h | h
    · rw [h, Nat.zero_mul] at h2; exact absurd h2 (by decide)
    · exact h
  have l1 : m1.log2 ≤ 53 := by
    have := log_hi (K := 54) (s := 0) p1 (by omega)
    omega
  have l2 : m2.log2 ≤ 53 := by
    have := log_hi (K := 54) (s := 0) p2 (by omega)
    omega
  have k1 := log_lo h1
  have k2 := log_lo h2
  obtain ⟨μ, hμ⟩ : ∃ μ, μ = min j1 j2 := ⟨_, rfl⟩
  obtain ⟨d1, hd1⟩ : ∃ d, j1 = μ + d := ⟨j1 - μ, by omega⟩
  obtain ⟨d2, hd2⟩ : ∃ d, j2 = μ + d := ⟨j2 - μ, by omega⟩
  have e1 : m1 * 2 ^ j1 = m1 * 2 ^ d1 * 2 ^ μ := by rw [hd1, Nat.pow_add]; ac_rfl
  have e2 : m2 * 2 ^ j2 = m2 * 2 ^ d2 * 2 ^ μ := by rw [hd2, Nat.pow_add]; ac_rfl
  have hp : 0 < 2 ^ μ := Nat.two_pow_pos μ
  have hb : min (-((200 : Nat) : Int) + (j1 : Nat)) (-((200 : Nat) : Int) + (j2 : Nat)) = -((200 : Nat) : Int) + (μ : Nat) := by omega
  have hsum : double.sub x y = some (double.write (.number (if ((m1 * 2 ^ d1 : Nat) : Int) + -((m2 * 2 ^ d2 : Nat) : Int) = 0 then false && true else decide (((m1 * 2 ^ d1 : Nat) : Int) + -((m2 * 2 ^ d2 : Nat) : Int) < 0)) (((m1 * 2 ^ d1 : Nat) : Int) + -((m2 * 2 ^ d2 : Nat) : Int)).natAbs (-((200 : Nat) : Int) + (μ : Nat)))) := by
    unfold Format.sub
    rw [r1, r2]
    show Option.map double.write (some (Datum.number _ _ _)) = _
    simp only [hb]
    rw [show (-((200 : Nat) : Int) + (j1 : Nat) - (-((200 : Nat) : Int) + (μ : Nat))).toNat = d1 by omega, show (-((200 : Nat) : Int) + (j2 : Nat) - (-((200 : Nat) : Int) + (μ : Nat))).toNat = d2 by omega]
    simp only [signed, Bool.false_eq_true, if_false, Bool.not_false, if_true, Nat.shiftLeft_eq]
    rfl
  rw [e1, e2] at hd
  rw [e1] at h3
  rw [e2] at h4
  generalize m1 * 2 ^ d1 = A at *
  generalize m2 * 2 ^ d2 = B at *
  refine ⟨_, hsum, ?_⟩
  obtain ⟨mc, jc, rc, hvc, bc⟩ := hc
  have pc : 0 < mc := by
    rcases Nat.eq_zero_or_pos mc with h | h
    · rw [h, Nat.zero_mul] at hvc; omega
    · exact h
  rcases Nat.lt_trichotomy A B with h | h | h
  · -- below nought
    left
    rw [if_neg (by omega), decide_eq_true (by omega), show ((A : Int) + -(B : Int)).natAbs = B - A by omega]
    have hm : 0 < B - A := by omega
    obtain ⟨m, j, hr, -⟩ := nearest_val true (B - A) 200 μ (by omega) hm (by omega) (by
      have a1 : (B - A) * 2 ^ μ ≤ B * 2 ^ μ := Nat.mul_le_mul_right _ (by omega)
      have := log_hi (K := 255) (s := μ) hm (by omega)
      omega)
    unfold Format.order
    rw [show double.write (.number true (B - A) (-((200 : Nat) : Int) + (μ : Nat))) = double.nearest true (B - A) (-((200 : Nat) : Int) + (μ : Nat)) from rfl, hr, rc]
    show some (compare (signed true m _) (signed false mc _)) = _
    congr 1
    refine Int.compare_eq_lt.mpr ?_
    simp only [signed, if_true, Bool.false_eq_true, if_false, Nat.shiftLeft_eq]
    have : 0 < mc * 2 ^ (-((200 : Nat) : Int) + (jc : Nat) - min (-((200 : Nat) : Int) + (j : Nat)) (-((200 : Nat) : Int) + (jc : Nat))).toNat := Nat.mul_pos pc (Nat.two_pow_pos _)
    omega
  · left
    subst h
    rw [if_pos (by omega), show ((A : Int) + -(A : Int)).natAbs = 0 by omega]
    unfold Format.order
    rw [show double.write (.number (false && true) 0 (-((200 : Nat) : Int) + (μ : Nat))) = 0 from rfl, read_zero, rc]
    show some (compare (signed false 0 _) (signed false mc _)) = _
    congr 1
    refine Int.compare_eq_lt.mpr ?_
    simp only [signed, Bool.false_eq_true, if_false, Nat.shiftLeft_eq, Nat.zero_mul]
    have : 0 < mc * 2 ^ (-((200 : Nat) : Int) + (jc : Nat) - min (-1074) (-((200 : Nat) : Int) + (jc : Nat))).toNat := Nat.mul_pos pc (Nat.two_pow_pos _)
    omega
  · rw [if_neg (by omega), decide_eq_false (by omega), show ((A : Int) + -(B : Int)).natAbs = A - B by omega]
    have hm : 0 < A - B := by omega
    have e3 : (A - B) * 2 ^ μ = A * 2 ^ μ - B * 2 ^ μ := Nat.sub_mul _ _ _
    have hAB : B * 2 ^ μ < A * 2 ^ μ := Nat.mul_lt_mul_of_pos_right h hp
    obtain ⟨v, hv, hn⟩ := near_of (A - B) 200 0 μ (by omega) (by omega) hm (by
      have a1 : 1 * 2 ^ μ ≤ (A - B) * 2 ^ μ := Nat.mul_le_mul_right _ hm
      have a2 : (2 : Nat) ^ (52 + 0) ≤ 2 ^ μ := Nat.pow_le_pow_right (by decide) (by omega)
      omega) 255 (by omega) (by omega)
    have ho := order_val hv ⟨mc, jc, rc, hvc, bc⟩
    have hle : v < vc := by
      have n1 := hn.1
      rw [Nat.pow_zero, Nat.mul_one, e3] at n1
      omega
    left
    rw [show double.write (.number false (A - B) (-((200 : Nat) : Int) + (μ : Nat))) = double.nearest false (A - B) (-((200 : Nat) : Int) + (μ : Nat)) from rfl, ho, Nat.compare_eq_lt.mpr hle]
end Go.Proofs.YtmpgbakkpbmpiaaDoor.Real
/- The number that AppendDecimal makes of a number, and what comes back: plain. -/
namespace Go.Proofs.YtmpgbakkpbmpiaaDoor.Real
open Ieee

/-- A power of ten, as a float. -/
def pw (d : Nat) : Nat := floatOfInt .f64 ((10 ^ d : Nat) : Int)
def pwOk : Bool := (List.range 10).all fun d => (double.mul (Tab.tab3.getD (d / 32) 0) (Tab.tab4.getD (d % 32) 0) == some (pw d)) && (Tab.tab0.getD d 0 == pw d)
theorem pw_ok : pwOk = true := by kernel_rfl
theorem pw_tab (d : Nat) (hd : d < 10) : double.mul (Tab.tab3.getD (d / 32) 0) (Tab.tab4.getD (d % 32) 0) = some (pw d) ∧ Tab.tab0.getD d 0 = pw d := by
  have h := pw_ok
  simp only [pwOk, List.all_eq_true, List.mem_range, Bool.and_eq_true, beq_iff_eq] at h
  exact h d hd
theorem ten_le {d : Nat} (hd : d < 10) : 10 ^ d ≤ 1000000000 := by
  have := Nat.pow_le_pow_right (n := 10) (by decide) (show d ≤ 9 by omega)
  simpa using this
theorem pw_val (d : Nat) (hd : d < 10) : Val (pw d) (10 ^ d * 2 ^ 200) := int_val (10 ^ d) (Nat.pow_pos (by decide)) (by have := ten_le hd; omega)
theorem half_val : Val 4602678819172646912 (2 ^ 199) := ⟨4503599627370496, 147, by decide, by decide, by decide⟩
theorem thou_val : Val 4562254508917369340 (4611686018427388 * 2 ^ 138) := ⟨4611686018427388, 138, by decide, rfl, by decide⟩
/-- The word 0 stands under whatever stands for something. -/
theorem zero_lt {x v : Nat} (hx : Val x v) (hv : 0 < v) : double.order 0 x = some .lt := by
  obtain ⟨m, j, r, rfl, b⟩ := hx
  have pm : 0 < m := by
    rcases Nat.eq_zero_or_pos m with h | h
    · rw [h, Nat.zero_mul] at hv; omega
    · exact h
  unfold Format.order
  rw [read_zero, r]
  show some (compare (signed false 0 _) (signed false m _)) = _
  congr 1
  refine Int.compare_eq_lt.mpr ?_
  simp only [signed, Bool.false_eq_true, if_false, Nat.shiftLeft_eq, Nat.zero_mul]
  have : 0 < m * 2 ^ (-((200 : Nat) : Int) + (j : Nat) - min (-1074) (-((200 : Nat) : Int) + (j : Nat))).toNat := Nat.mul_pos pm (Nat.two_pow_pos _)
  omega
set_option maxRecDepth 100000 in
/-- AppendDecimal's integer: near N / 1024 * 10^d. -/
theorem near_num (N d f : Nat) (hN : 0 < N) (hN2 : N ≤ 1024001023) (hd3 : 3 ≤ d) (hd : d < 10) (hf : Val f (N * 2 ^ 190)) :
    ∃ g h num, double.mul f (pw d) = some g ∧ double.order 0 g = some .lt ∧ double.add g 4602678819172646912 = some h ∧ floatToIntVal .f64 h .i64 = some ((num : Nat) : Int) ∧ num * 1024 ≤ N * 10 ^ d + 770 ∧ N * 10 ^ d ≤ num * 1024 + 770 := by
  have hT := ten_le hd
  have hT3 : 1000 ≤ 10 ^ d := by
    have := Nat.pow_le_pow_right (n := 10) (by decide) hd3
    simpa using this
  have hNT : N * 10 ^ d ≤ 1024001023 * 1000000000 := Nat.mul_le_mul hN2 hT
  have hNT0 : 1 * 1000 ≤ N * 10 ^ d := Nat.mul_le_mul hN hT3
  have e1 : N * 2 ^ 190 * (10 ^ d * 2 ^ 200) = N * 10 ^ d * 2 ^ 190 * 2 ^ 200 := by ac_rfl
  have hT60 : N * 10 ^ d < 2 ^ 60 := by
    have h60 : (2 : Nat) ^ 60 = 1152921504606846976 := by decide
    omega
  obtain ⟨b, hb⟩ : ∃ b, b = 138 := ⟨_, rfl⟩
  have c190 : (2 : Nat) ^ 190 * 2 ^ 200 = 2 ^ 252 * 2 ^ b := by rw [hb]
  obtain ⟨g, vg, hg, hgv, hgn⟩ := mul_val hf (pw_val d hd) (by
    rw [e1, Nat.mul_assoc, c190]
    have h1 : 1 * (2 ^ 252 * 1) ≤ N * 10 ^ d * (2 ^ 252 * 2 ^ b) := Nat.mul_le_mul (by omega) (Nat.mul_le_mul_left _ (Nat.two_pow_pos _))
    omega) (60 + (252 + b)) (by omega) (by
    rw [e1, Nat.mul_assoc, c190, Nat.pow_add 2 60, Nat.pow_add 2 252]
    exact Nat.mul_lt_mul_of_pos_right hT60 (Nat.mul_pos (Nat.two_pow_pos _) (Nat.two_pow_pos _)))
  rw [e1] at hgn
  generalize N * 10 ^ d = T at *
  have hU : 0 < 2 ^ 200 := Nat.two_pow_pos 200
  -- what the product stands for
  have g1 : 9007199254740992 * vg ≤ 9007199254740992 * (T * 2 ^ 190) + T * 2 ^ 190 := by
    refine Nat.le_of_mul_le_mul_right ?_ hU
    rw [Nat.add_mul, Nat.mul_assoc, Nat.mul_assoc 9007199254740992 (T * 2 ^ 190)]
    exact hgn.1
  have g2 : 9007199254740992 * (T * 2 ^ 190) ≤ 9007199254740992 * vg + T * 2 ^ 190 := by
    refine Nat.le_of_mul_le_mul_right ?_ hU
    rw [Nat.add_mul, Nat.mul_assoc, Nat.mul_assoc 9007199254740992 vg]
    exact hgn.2.1
  have p52 : (2 : Nat) ^ 52 = 4503599627370496 := by decide
  have p190 : (2 : Nat) ^ 190 = 1569275433846670190958947355801916604025588861116008628224 := by decide
  have p199 : (2 : Nat) ^ 199 = 803469022129495137770981046170581301261101496891396417650688 := by decide
  have p200 : (2 : Nat) ^ 200 = 1606938044258990275541962092341162602522202993782792835301376 := by decide
  have p255 : (2 : Nat) ^ 255 = 57896044618658097711785492504343953926634992332820282019728792003956564819968 := by decide
  have hv0 : 0 < vg := by
    rw [p190] at g1 g2
    omega
  obtain ⟨h, vh, hh, hhv, hhn⟩ := add_val hgv half_val (by
    rw [p52, p199]
    omega) 255 (by omega) (by
    rw [p199, p255]
    rw [p190] at g1
    omega)
  have h1 := hhn.1
  have h2 := hhn.2.1
  rw [p199] at h1 h2
  rw [p190] at g1 g2
  obtain ⟨num, rem, hnum, hsum, hlt⟩ : ∃ num rem, vh / 2 ^ 200 = num ∧ 1606938044258990275541962092341162602522202993782792835301376 * num + rem = vh ∧ rem < 1606938044258990275541962092341162602522202993782792835301376 := by
    refine ⟨vh / 2 ^ 200, vh % 2 ^ 200, rfl, ?_, ?_⟩
    · rw [← p200]; exact Nat.div_add_mod vh (2 ^ 200)
    · rw [← p200]; exact Nat.mod_lt vh hU
  have ht := toInt_val hhv (by
    have p62 : (2 : Nat) ^ 62 = 4611686018427387904 := by decide
    rw [p62, p200]
    omega)
  rw [hnum] at ht
  have key : num * 1024 ≤ T + 770 ∧ T ≤ num * 1024 + 770 := by
    clear hgn hhn hnum p255 p200 p199 p190 p52 hU e1 c190 hb ht hh hhv hg hgv hf
    constructor <;> omega
  exact ⟨g, h, num, hg, zero_lt hgv hv0, hh, ht, key⟩
end Go.Proofs.YtmpgbakkpbmpiaaDoor.Real
/- What is read again is near: plain. -/
namespace Go.Proofs.YtmpgbakkpbmpiaaDoor.Real
open Ieee

theorem one_val : Val (pw 0) (1 * 2 ^ 200) := pw_val 0 (by decide)
theorem whole_lo {n : Nat} (h0 : 0 < n) : 2 ^ 252 ≤ n * 2 ^ 200 * (1 * 2 ^ 200) := by
  have h1 : 1 * 2 ^ 200 ≤ n * 2 ^ 200 := Nat.mul_le_mul_right _ h0
  have h2 : (2 : Nat) ^ 52 ≤ 1 * 2 ^ 200 := by rw [Nat.one_mul]; exact Nat.pow_le_pow_right (by decide) (by omega)
  have h3 := Nat.mul_le_mul h1 h2
  rw [Nat.one_mul, ← Nat.pow_add] at h3
  exact h3
theorem whole_hi {n : Nat} (hn : n < 9007199254740992) (K : Nat) (hK : K = 453) : n * 2 ^ 200 * (1 * 2 ^ 200) < 2 ^ K := by
  obtain ⟨b, hb⟩ : ∃ b, K = 53 + b + b ∧ b = 200 := ⟨200, by omega, rfl⟩
  rw [hb.1, Nat.pow_add, Nat.one_mul, Nat.pow_add, hb.2]
  exact Nat.mul_lt_mul_of_pos_right (Nat.mul_lt_mul_of_pos_right (show n < 2 ^ 53 by simpa using hn) (Nat.two_pow_pos _)) (Nat.two_pow_pos _)
/-- Times one. -/
theorem mul_one_val {x n : Nat} (hx : Val x (n * 2 ^ 200)) (h0 : 0 < n) (hn : n < 9007199254740992) :
    (∃ r, double.mul x (pw 0) = some r ∧ Val r (n * 2 ^ 200)) ∧ ∃ r, double.mul (pw 0) x = some r ∧ Val r (n * 2 ^ 200) := by
  have e : n * 2 ^ 200 * (1 * 2 ^ 200) = n * 2 ^ (200 + 200) := by rw [Nat.one_mul, Nat.mul_assoc, ← Nat.pow_add]
  have ec : 1 * 2 ^ 200 * (n * 2 ^ 200) = n * 2 ^ 200 * (1 * 2 ^ 200) := Nat.mul_comm _ _
  have fin : ∀ v, Near (v * 2 ^ 200) (n * 2 ^ 200 * (1 * 2 ^ 200)) → v = n * 2 ^ 200 := by
    intro v h
    have h2 := h.2.2 n (200 + 200) e hn
    rw [Nat.one_mul] at h2
    exact Nat.eq_of_mul_eq_mul_right (Nat.two_pow_pos 200) h2
  obtain ⟨K, hK⟩ : ∃ K, K = 453 := ⟨_, rfl⟩
  constructor
  · obtain ⟨r, v, hr, hv, hnn⟩ := mul_val hx one_val (whole_lo h0) K (by omega) (whole_hi hn K hK)
    exact ⟨r, hr, fin v hnn ▸ hv⟩
  · obtain ⟨r, v, hr, hv, hnn⟩ := mul_val one_val hx (by rw [ec]; exact whole_lo h0) K (by omega) (by rw [ec]; exact whole_hi hn K hK)
    rw [ec] at hnn
    exact ⟨r, hr, fin v hnn ▸ hv⟩
/-- The decimal read: n digits over 10^d. -/
def ReadsAs (got n d : Nat) : Prop := ∃ v, Val got v ∧ 2251799813685248 * (v * 10 ^ d) ≤ 2251799813685248 * (n * 2 ^ 200) + n * 2 ^ 200 ∧ 2251799813685248 * (n * 2 ^ 200) ≤ 2251799813685248 * (v * 10 ^ d) + n * 2 ^ 200
theorem reads_whole {x n : Nat} (hx : Val x (n * 2 ^ 200)) (h0 : 0 < n) (hn : n < 9007199254740992) : ∃ r, double.mul x (pw 0) = some r ∧ ReadsAs r n 0 := by
  obtain ⟨⟨r, hr, hv⟩, -⟩ := mul_one_val hx h0 hn
  exact ⟨r, hr, _, hv, by rw [Nat.pow_zero, Nat.mul_one]; omega, by rw [Nat.pow_zero, Nat.mul_one]; omega⟩
theorem reads_part {x n d : Nat} (hx : Val x (n * 2 ^ 200)) (h0 : 0 < n) (hn : n < 9007199254740992) (hd : d < 10) : ∃ r, double.div x (pw d) = some r ∧ ReadsAs r n d := by
  have b1 : 1 * 2 ^ 200 ≤ n * 2 ^ 200 := Nat.mul_le_mul_right _ h0
  have b2 : n * 2 ^ 200 < 2 ^ 53 * 2 ^ 200 := Nat.mul_lt_mul_of_pos_right (show n < 2 ^ 53 by simpa using hn) (Nat.two_pow_pos _)
  have b3 : 1 * 2 ^ 200 ≤ 10 ^ d * 2 ^ 200 := Nat.mul_le_mul_right _ (Nat.pow_pos (by decide))
  have b7 : 10 ^ d < 2 ^ 53 := by
    have h3 := ten_le hd
    have h4 : (2 : Nat) ^ 53 = 9007199254740992 := by decide
    omega
  have b4 : 10 ^ d * 2 ^ 200 < 2 ^ 53 * 2 ^ 200 := Nat.mul_lt_mul_of_pos_right b7 (Nat.two_pow_pos _)
  have b5 : (2 : Nat) ^ 120 ≤ 1 * 2 ^ 200 := by rw [Nat.one_mul]; exact Nat.pow_le_pow_right (by decide) (by omega)
  have b6 : (2 : Nat) ^ 53 * 2 ^ 200 ≤ 2 ^ 255 := by rw [← Nat.pow_add]; exact Nat.pow_le_pow_right (by decide) (by omega)
  obtain ⟨r, v, hr, hv, h1, h2⟩ := quo_val hx (pw_val d hd) (Nat.le_trans b5 b1) (Nat.lt_of_lt_of_le b2 b6) (Nat.le_trans b5 b3) (Nat.lt_of_lt_of_le b4 b6)
  refine ⟨r, hr, v, hv, ?_, ?_⟩
  · refine Nat.le_of_mul_le_mul_right ?_ (Nat.two_pow_pos 200)
    rw [Nat.add_mul, Nat.mul_assoc, Nat.mul_assoc 2251799813685248 (n * 2 ^ 200), Nat.mul_assoc v]
    exact h1
  · refine Nat.le_of_mul_le_mul_right ?_ (Nat.two_pow_pos 200)
    rw [Nat.add_mul, Nat.mul_assoc, Nat.mul_assoc 2251799813685248 (v * 10 ^ d), Nat.mul_assoc v]
    exact h2
set_option maxRecDepth 100000 in
/-- What is read again lies within a thousandth. -/
theorem near_final {N d num n d' k f got : Nat} (hN : 0 < N) (hN2 : N ≤ 1024001023) (hd3 : 3 ≤ d) (hd : d < 10) (hf : Val f (N * 2 ^ 190)) (hg : ReadsAs got n d') (hnum : num = n * 10 ^ k) (hk : d = d' + k)
    (h1 : num * 1024 ≤ N * 10 ^ d + 770) (h2 : N * 10 ^ d ≤ num * 1024 + 770) :
    (∃ r, double.sub got f = some r ∧ (double.order r 4562254508917369340 = some .lt ∨ double.order r 4562254508917369340 = some .eq)) ∧
    ∃ r, double.sub f got = some r ∧ (double.order r 4562254508917369340 = some .lt ∨ double.order r 4562254508917369340 = some .eq) := by
  obtain ⟨v, hv, g1, g2⟩ := hg
  have hT3 : 1000 ≤ 10 ^ d := by
    have := Nat.pow_le_pow_right (n := 10) (by decide) hd3
    simpa using this
  have hT9 := ten_le hd
  have eG : v * 10 ^ d' * 10 ^ k = v * 10 ^ d := by rw [hk, Nat.pow_add, Nat.mul_assoc]
  have eN : n * 2 ^ 200 * 10 ^ k = num * 2 ^ 200 := by rw [hnum]; ac_rfl
  have G1 : 2251799813685248 * (v * 10 ^ d) ≤ 2251799813685248 * (num * 2 ^ 200) + num * 2 ^ 200 := by
    have h := Nat.mul_le_mul_right (10 ^ k) g1
    rw [Nat.add_mul, Nat.mul_assoc, Nat.mul_assoc 2251799813685248 (n * 2 ^ 200), eG, eN] at h
    exact h
  have G2 : 2251799813685248 * (num * 2 ^ 200) ≤ 2251799813685248 * (v * 10 ^ d) + num * 2 ^ 200 := by
    have h := Nat.mul_le_mul_right (10 ^ k) g2
    rw [Nat.add_mul, Nat.mul_assoc, Nat.mul_assoc 2251799813685248 (v * 10 ^ d'), eG, eN] at h
    exact h
  have hTD : N * 10 ^ d ≤ 1024001023 * 10 ^ d := Nat.mul_le_mul_right _ hN2
  have hTD1 : 1 * 10 ^ d ≤ N * 10 ^ d := Nat.mul_le_mul_right _ hN
  have p190 : (2 : Nat) ^ 190 = 1569275433846670190958947355801916604025588861116008628224 := by decide
  have p200 : (2 : Nat) ^ 200 = 1606938044258990275541962092341162602522202993782792835301376 := by decide
  have p138 : (2 : Nat) ^ 138 = 348449143727040986586495598010130648530944 := by decide
  have p150 : (2 : Nat) ^ 150 = 1427247692705959881058285969449495136382746624 := by decide
  have p255 : (2 : Nat) ^ 255 = 57896044618658097711785492504343953926634992332820282019728792003956564819968 := by decide
  rw [p200] at G1 G2
  have hD : 0 < 10 ^ d := Nat.pow_pos (by decide)
  have up : 8 * v ≤ 8 * (N * 2 ^ 190) + 7 * (4611686018427388 * 2 ^ 138) := by
    refine Nat.le_of_mul_le_mul_right ?_ hD
    rw [Nat.add_mul, Nat.mul_assoc, Nat.mul_assoc 8, Nat.mul_right_comm N, p190, p138]
    clear eG eN g1 g2 hf hv hnum hk p190 p200 p138 p150 p255
    generalize v * 10 ^ d = G at *
    generalize N * 10 ^ d = T at *
    generalize 10 ^ d = D at *
    omega
  have dn : 8 * (N * 2 ^ 190) ≤ 8 * v + 7 * (4611686018427388 * 2 ^ 138) := by
    refine Nat.le_of_mul_le_mul_right ?_ hD
    rw [Nat.add_mul, Nat.mul_assoc, Nat.mul_assoc 8 v, Nat.mul_right_comm N, p190, p138]
    clear eG eN g1 g2 hf hv hnum hk p190 p200 p138 p150 p255
    generalize v * 10 ^ d = G at *
    generalize N * 10 ^ d = T at *
    generalize 10 ^ d = D at *
    omega
  have vlo : 2 ^ 150 ≤ v := by
    rcases Nat.lt_or_ge v (2 ^ 150) with h | h
    · exfalso
      have h3 : v * 10 ^ d ≤ 2 ^ 150 * 1000000000 := Nat.mul_le_mul (Nat.le_of_lt h) hT9
      rw [p150] at h3
      clear eG eN g1 g2 hf hv hnum hk p190 p200 p138 p150 p255 up dn h
      generalize v * 10 ^ d = G at *
      generalize N * 10 ^ d = T at *
      generalize 10 ^ d = D at *
      omega
    · exact h
  have vhi : v < 2 ^ 255 := by
    rw [p190, p138] at up
    rw [p255]
    clear eG eN g1 g2 hf hv hnum hk p190 p200 p138 p150 p255 dn G1 G2
    omega
  have flo : 2 ^ 150 ≤ N * 2 ^ 190 := by
    rw [p150, p190]; omega
  have fhi : N * 2 ^ 190 < 2 ^ 255 := by
    rw [p255, p190]; omega
  have hc0 : 0 < 4611686018427388 * 2 ^ 138 := by rw [p138]; decide
  exact ⟨sub_le hv hf thou_val hc0 vlo flo vhi fhi up, sub_le hf hv thou_val hc0 flo vlo fhi vhi dn⟩
end Go.Proofs.YtmpgbakkpbmpiaaDoor.Real
