/- AppendFloat and AppendDecimal of either sign: WriteFloat, WriteDecimal. -/
import Derived.Test.YtmpgbakkpbmpiaaDoorMFlo
import Derived.Test.YtmpgbakkpbmpiaaDoorMAfB
import Derived.Test.YtmpgbakkpbmpiaaDoorMAd
/- AppendFloat of N / 1024, or minus that: a number's text is appended. -/
namespace Go.Proofs.YtmpgbakkpbmpiaaDoor.AF
open Go.RowKit Go.Proofs.YtmpgbakkpbmpiaaDoorW.PrintWords Go.Proofs.YtmpgbakkpbmpiaaDoorW.PrintLast Go.Proofs.YtmpgbakkpbmpiaaDoorW.PrintMore
open PFl Brow Dig AD Flo
open Real (SB)
set_option linter.unusedVariables false
set_option linter.unusedSimpArgs false

/-- What a word stands for. -/
def valOf (x : Nat) : Nat := match Ieee.double.read x with
  | .number false m e => if 0 ≤ e + 200 ∧ m ≤ 9007199254740992 then m * 2 ^ (e + 200).toNat else 0
  | _ => 0
theorem valOf_val {x : Nat} (h : valOf x ≠ 0) : Real.Val x (valOf x) := by
  unfold valOf at h ⊢
  split at h
  · rename_i m e hr
    split at h
    · rename_i hc
      rw [if_pos hc]
      exact ⟨m, (e + 200).toNat, by rw [hr]; congr 1; omega, rfl, hc.2⟩
    · exact absurd rfl h
  · exact absurd rfl h
/-- Pow10's word at i - 9. -/
def pwWord (i : Nat) : Nat := if 9 ≤ i then (Ieee.double.mul (Tab.tab3.getD ((i - 9) / 32) 0) (Tab.tab4.getD ((i - 9) % 32) 0)).getD 0 else (Ieee.double.div (Tab.tab5.getD ((9 - i) / 32) 0) (Tab.tab4.getD ((9 - i) % 32) 0)).getD 0
def wordOk : Bool := (List.range 21).all fun i => (if 9 ≤ i then Ieee.double.mul (Tab.tab3.getD ((i - 9) / 32) 0) (Tab.tab4.getD ((i - 9) % 32) 0) == some (pwWord i) else Ieee.double.div (Tab.tab5.getD ((9 - i) / 32) 0) (Tab.tab4.getD ((9 - i) % 32) 0) == some (pwWord i)) && (2 ^ 62 ≤ valOf (pwWord i)) && (valOf (pwWord i) < 2 ^ 300)
theorem word_ok : wordOk = true := by kernel_rfl
/-- For a number under 2^(n+1) 1024ths: which power of ten is asked for, and how great the product is at most. -/
def idxOf (n p : Nat) : Nat := ((p : Int) - Real.tenTab.getD n 0 + 9).toNat
def idxOk : Bool := (List.range 40).all fun n => (List.range 9).all fun p => decide (idxOf n p < 21) && decide ((idxOf n p : Int) = (p : Int) - Real.tenTab.getD n 0 + 9) && decide (2 ^ (n + 191) * valOf (pwWord (idxOf n p)) < 2 ^ 461)
theorem idx_ok : idxOk = true := by kernel_rfl
theorem word_of (i : Nat) (h : i < 21) : (9 ≤ i → Ieee.double.mul (Tab.tab3.getD ((i - 9) / 32) 0) (Tab.tab4.getD ((i - 9) % 32) 0) = some (pwWord i)) ∧ (i < 9 → Ieee.double.div (Tab.tab5.getD ((9 - i) / 32) 0) (Tab.tab4.getD ((9 - i) % 32) 0) = some (pwWord i)) ∧ 2 ^ 62 ≤ valOf (pwWord i) ∧ valOf (pwWord i) < 2 ^ 300 := by
  have h0 := word_ok
  simp only [wordOk, List.all_eq_true, List.mem_range, Bool.and_eq_true, decide_eq_true_eq] at h0
  obtain ⟨⟨h1, h2⟩, h3⟩ := h0 i h
  refine ⟨fun h9 => ?_, fun h9 => ?_, h2, h3⟩
  · rw [if_pos h9] at h1; exact beq_iff_eq.1 h1
  · rw [if_neg (by omega)] at h1; exact beq_iff_eq.1 h1
theorem idx_of (n p : Nat) (hn : n < 40) (hp : p < 9) : idxOf n p < 21 ∧ (idxOf n p : Int) = (p : Int) - Real.tenTab.getD n 0 + 9 ∧ 2 ^ (n + 191) * valOf (pwWord (idxOf n p)) < 2 ^ 461 := by
  have h0 := idx_ok
  simp only [idxOk, List.all_eq_true, List.mem_range, Bool.and_eq_true, decide_eq_true_eq] at h0
  obtain ⟨⟨h1, h2⟩, h3⟩ := h0 n hn p hp
  exact ⟨h1, h2, h3⟩
theorem lt_pow {v T b c d : Nat} (hc : c + 1 = d + b + b) (h1 : 9007199254740992 * (v * 2 ^ b) ≤ 9007199254740992 * T + T) (h2 : T < 2 ^ c) : v < 2 ^ d * 2 ^ b := by
  have h3 : v * 2 ^ b < 2 ^ d * 2 ^ b * 2 ^ b := by
    rw [← Nat.pow_add, ← Nat.pow_add, ← hc, Nat.pow_succ]
    generalize 2 ^ c = A at *
    generalize v * 2 ^ b = X at *
    omega
  exact Nat.lt_of_mul_lt_mul_right h3
/-- The mantissa: some whole number. -/
theorem mant_of {fa N n p : Nat} (hv : Real.Val fa (N * 2 ^ 190)) (h0 : 0 < N) (hn : N < 2 ^ (n + 1)) (hn40 : n < 40) (hp : p < 9) :
    ∃ gg m0 : Nat, Ieee.double.mul fa (pwWord (idxOf n p)) = some gg ∧ floatToIntVal .f64 gg .i64 = some (m0 : Int) ∧ m0 < 9000000000000000000 := by
  obtain ⟨h1, h2, h3⟩ := idx_of n p hn40 hp
  obtain ⟨-, -, h4, h5⟩ := word_of _ h1
  have hw : Real.Val (pwWord (idxOf n p)) (valOf (pwWord (idxOf n p))) := valOf_val (by
    have : 0 < 2 ^ 62 := Nat.two_pow_pos 62
    omega)
  generalize valOf (pwWord (idxOf n p)) = V at *
  generalize pwWord (idxOf n p) = W at *
  have hhi : N * 2 ^ 190 * V < 2 ^ 461 := by
    refine Nat.lt_of_le_of_lt ?_ h3
    refine Nat.mul_le_mul_right _ ?_
    rw [show n + 191 = (n + 1) + 190 by omega, Nat.pow_add 2 (n + 1)]
    exact Nat.mul_le_mul_right _ (Nat.le_of_lt hn)
  have hlo : 2 ^ 252 ≤ N * 2 ^ 190 * V := by
    have h7 : 1 * 2 ^ 190 * 2 ^ 62 ≤ N * 2 ^ 190 * V := Nat.mul_le_mul (Nat.mul_le_mul_right _ h0) h4
    have h8 : (2 : Nat) ^ 252 = 1 * 2 ^ 190 * 2 ^ 62 := by rw [Nat.one_mul, ← Nat.pow_add]
    omega
  obtain ⟨gg, vg, hg, hgv, hgn⟩ := Real.mul_val hv hw hlo 461 (by omega) hhi
  have hvg2 : vg < 2 ^ 62 * 2 ^ 200 := lt_pow (c := 461) rfl hgn.1 hhi
  refine ⟨gg, vg / 2 ^ 200, hg, Real.toInt_val hgv hvg2, ?_⟩
  have k4 : vg / 2 ^ 200 < 2 ^ 62 := by
    rw [Nat.div_lt_iff_lt_mul (Nat.two_pow_pos 200)]
    exact hvg2
  have k5 : (2 : Nat) ^ 62 = 4611686018427387904 := by decide
  omega
/-- Pow10 at i - 9. -/
theorem pow_at (w : World) (i : Nat) (h : i < 21) (P : Int) (hP : P = (i : Int) - 9) (ht : Tab.Tabs w) : Calls Tryd.prog 24 #[.int .i64 P] w fun e w' => e = .returned (.float .f64 (pwWord i)) ∧ Drawn0 w w' := by
  obtain ⟨h1, h2, -, -⟩ := word_of i h
  by_cases h9 : 9 ≤ i
  · rw [show P = ((i - 9 : Nat) : Int) by omega]
    exact Pow.pow_pos w _ _ _ (i - 9) (by omega) (ht.t3 ((i - 9) / 32) (by omega)) (ht.t4 ((i - 9) % 32) (by omega)) (h1 h9)
  · rw [show P = -((9 - i : Nat) : Int) by omega]
    exact Pow.pow_neg w _ _ _ (9 - i) (by omega) (by omega) (ht.t5 ((9 - i) / 32) (by omega)) (ht.t4 ((9 - i) % 32) (by omega)) (h2 (by omega))
/-- A number's text. -/
def NumT (X : List Int) : Prop := ∃ (ng : Bool) (M E : List Int), X = sgn ng ++ M ++ E ∧ MantOK M ∧ ExpOK E
theorem NumT.zero : NumT [48] := ⟨false, [48], [], rfl, ⟨by decide, [48], DG.nil.cons (by decide), .inl ⟨List.cons_ne_nil _ _, rfl⟩⟩, .inl rfl⟩
set_option maxHeartbeats 1000000
theorem float_flo (w : World) (g : Nat) (full l : List Int) (base p f fa N : Nat) (ng : Bool) (hr : Row 5 w g full) (hl : l.length ≤ full.length) (htk : full.take l.length = l) (hmx : full.length ≤ maxLen) (hb : base ≤ g) (hbs : base ≤ w.heap.size) (hln : l.length ≤ 100000000000)
    (hp : p ≤ 8) (hf : Flo ng f fa N) (ht : Tab.Tabs w) :
    Calls Tryd.prog 22 #[.slice (some ⟨g, 0, none⟩) l.length full.length, .float .f64 f, .int .i64 p] w fun e w' =>
      ∃ (v' : Value) (X : List Int), e = .returned v' ∧ NumT X ∧ Bs 5 w' base v' (l ++ X) ∧ Below base w w' := by
  obtain ⟨n, hn⟩ : ∃ n, n = N.log2 := ⟨_, rfl⟩
  have n1 := Real.log2_le hf.pos
  have n2 := Real.lt_log2 N
  rw [← hn] at n1 n2
  have n40 : n < 40 := by
    have h1 := hf.top
    have h2 : 2 ^ n < 2 ^ 40 := by
      have : (2 : Nat) ^ 40 = 1099511627776 := by decide
      omega
    exact (Nat.pow_lt_pow_iff_right (by decide)).1 h2
  have hfield := Real.val_field (e := n + 190) hf.val hf.lt (by rw [Nat.pow_add]; exact Nat.mul_le_mul_right _ n1) (by rw [show n + 190 + 1 = (n + 1) + 190 by omega, Nat.pow_add]; exact Nat.mul_lt_mul_of_pos_right n2 (Nat.two_pow_pos _))
  have hog : FloatKind.f64.format.order fa 0 = some .gt := by
    obtain ⟨m, j, hr, hv, hm⟩ := hf.val
    have h0 := hf.v0
    rw [hv] at h0
    show Ieee.double.order fa 0 = _
    unfold Ieee.Format.order
    rw [hr, Real.read_zero]
    show some (compare (Ieee.signed false m _) (Ieee.signed false 0 _)) = _
    congr 1
    simp only [Ieee.signed, Bool.false_eq_true, if_false, Nat.shiftLeft_eq, Nat.zero_mul]
    refine Int.compare_eq_gt.mpr ?_
    have hm0 : 0 < m := by
      rcases Nat.eq_zero_or_pos m with h | h
      · rw [h, Nat.zero_mul] at h0; exact absurd h0 (by decide)
      · exact h
    have := Nat.mul_pos hm0 (Nat.two_pow_pos (-((200 : Nat) : Int) + (j : Nat) - min (-((200 : Nat) : Int) + (j : Nat)) (-1074)).toNat)
    omega
  obtain ⟨t, htt⟩ : ∃ t, t = Real.tenTab.getD n 0 := ⟨_, rfl⟩
  have hexp : ∀ W : World, Calls Tryd.prog 30 #[.float .f64 fa] W fun e w' => e = .returned (.int .i64 t) ∧ Drawn0 W w' := fun W => by
    rw [htt]; exact Fexp.fexp_calls W fa n (by omega) n40 hog
  obtain ⟨i1, i2, i3⟩ := idx_of n p n40 (by omega)
  rw [← htt] at i2
  obtain ⟨gg, m0, hmul, hint, hm0⟩ := mant_of hf.val hf.pos n2 n40 (show p < 9 by omega)
  obtain ⟨P, hP⟩ : ∃ P : Int, P = (p : Int) - t := ⟨_, rfl⟩
  have hPw : wrap64 ((p : Int) - t) = P := w64 hP.symm (by omega) (by omega)
  have hpow : ∀ W : World, W.heap = w.heap → Calls Tryd.prog 24 #[.int .i64 P] W fun e w' => e = .returned (.float .f64 (pwWord (idxOf n p))) ∧ Drawn0 W w' := fun W hW => pow_at W _ i1 P (by omega) (ht.of_heap hW)
  have hcv : ∀ W : World, (convert 25 2 (.float .f64 gg)).run Tryd.prog W = .ok (.int .i64 (m0 : Int)) W := fun W => run_convert_float_int W 25 2 .f64 .i64 gg m0 (by rw [Tryd.underlying25]; rfl) Tryd.underlying2 hint
  have hnan := fun W : World => isNaN_flo W hf
  have hinf := fun W : World => isInf_flo W hf
  have hfe := hf.eq
  have hno : (FloatKind.f64.format.order fa 0 == some .lt) = false := by rw [hog]; rfl
  cases ng with
  | false =>
    have hfe : fa = f := hfe.symm
    subst hfe
    rcases Nat.eq_zero_or_pos m0 with rfl | h0
    · refine (float_zero w g full l base p fa fa _ gg t P hr hl htk hmx hb hbs hln hp hPw hnan hinf ⟨hno, rfl⟩ hexp hpow hmul hcv).mono ?_
      rintro e w' ⟨v', k1, k2, k3⟩
      exact ⟨v', [48], k1, NumT.zero, k2, k3⟩
    · refine (float_pos w g full l base p fa fa _ gg m0 t P hr hl htk hmx hb hbs hln hp hPw (by omega) ⟨h0, hm0⟩ hnan hinf hno rfl hexp hpow hmul hcv).mono ?_
      rintro e w' ⟨v', M, E, k1, k2, k3, k4, k5⟩
      exact ⟨v', sgn false ++ M ++ E, k1, ⟨false, M, E, rfl, k2, k3⟩, by rw [← List.append_assoc, ← List.append_assoc]; exact k4, k5⟩
  | true =>
    have hfe : f = SB + fa := hfe
    have hol : FloatKind.f64.format.order f 0 = some .lt := by rw [hfe]; exact (Real.order_neg_zero hf.val hf.lt hf.v0).1
    have hng : fa = Op.negFloat .f64 f := by rw [hfe, Real.negFloat_neg hf.lt]
    rcases Nat.eq_zero_or_pos m0 with rfl | h0
    · refine (float_zero_neg w g full l base p f fa _ gg t P hr hl htk hmx hb hbs hln hp hPw hnan hinf hol hng hexp hpow hmul hcv).mono ?_
      rintro e w' ⟨v', k1, k2, k3⟩
      exact ⟨v', [48], k1, NumT.zero, k2, k3⟩
    · refine (float_neg w g full l base p f fa _ gg m0 t P hr hl htk hmx hb hbs hln hp hPw (by omega) ⟨h0, hm0⟩ hnan hinf hol hng hexp hpow hmul hcv).mono ?_
      rintro e w' ⟨v', M, E, k1, k2, k3, k4, k5⟩
      exact ⟨v', sgn true ++ M ++ E, k1, ⟨true, M, E, rfl, k2, k3⟩, by rw [← List.append_assoc, ← List.append_assoc]; exact k4, k5⟩
end Go.Proofs.YtmpgbakkpbmpiaaDoor.AF
/- AppendFloat of nought; AppendFloat, the call; WriteFloat. -/
namespace Go.Proofs.YtmpgbakkpbmpiaaDoor.AF
open Go.RowKit Go.Proofs.YtmpgbakkpbmpiaaDoorW.PrintWords Go.Proofs.YtmpgbakkpbmpiaaDoorW.PrintLast Go.Proofs.YtmpgbakkpbmpiaaDoorW.PrintMore
open PFl Brow Dig AD Flo
open Real (SB)
set_option linter.unusedVariables false
set_option linter.unusedSimpArgs false

set_option maxHeartbeats 1000000
theorem fexp_zero (w : World) : Calls Tryd.prog 30 #[.float .f64 0] w fun e w' => e = .returned (.int .i64 0) ∧ Drawn0 w w' := by
  have ho : FloatKind.f64.format.order 0 0 = some .eq := by decide
  have hz : floatOfInt .f64 0 = 0 := by decide
  have hm : Ieee.double.mul 0 4599094494223104511 = some 0 := by kernel_rfl
  have hmul : ∀ W : World, (binOp .mul 25 (.float .f64 0) (.float .f64 4599094494223104511)).run Tryd.prog W = .ok (.float .f64 0) W := fun W => run_float_arith W .mul 25 .f64 _ _ 0 hm
  have o2 : (FloatKind.f64.format.order 0 0 == some .lt) = false := by rw [ho]; rfl
  have hcv : ∀ W : World, (convert 25 3 (.float .f64 0)).run Tryd.prog W = .ok (.int .i64 0) W := fun W => run_convert_float_int W 25 3 .f64 .i64 0 0 (by rw [Tryd.underlying25]; rfl) Tryd.underlying3 (by kernel_rfl)
  clear hm
  go_enter Tryd.func30, Tryd.ntmps30
  go_wp2
  go_ret
  exact ⟨by simp, by repeat (first | exact Drawn0.refl _ | apply Drawn0.step)⟩
def mulZ : Bool := (List.range 21).all fun i => Ieee.double.mul 0 (pwWord i) == some 0
theorem mulZ_ok : mulZ = true := by kernel_rfl
theorem mul_zero_word (i : Nat) (h : i < 21) : Ieee.double.mul 0 (pwWord i) = some 0 := by
  have h0 := mulZ_ok
  simp only [mulZ, List.all_eq_true, List.mem_range, beq_iff_eq] at h0
  exact h0 i h
theorem float_nought (w : World) (g : Nat) (full l : List Int) (base p : Nat) (hr : Row 5 w g full) (hl : l.length ≤ full.length) (htk : full.take l.length = l) (hmx : full.length ≤ maxLen) (hb : base ≤ g) (hbs : base ≤ w.heap.size) (hln : l.length ≤ 100000000000)
    (hp : p ≤ 8) (ht : Tab.Tabs w) :
    Calls Tryd.prog 22 #[.slice (some ⟨g, 0, none⟩) l.length full.length, .float .f64 0, .int .i64 p] w fun e w' =>
      ∃ (v' : Value) (X : List Int), e = .returned v' ∧ NumT X ∧ Bs 5 w' base v' (l ++ X) ∧ Below base w w' := by
  have hpow : ∀ W : World, W.heap = w.heap → Calls Tryd.prog 24 #[.int .i64 (p : Int)] W fun e w' => e = .returned (.float .f64 (pwWord (p + 9))) ∧ Drawn0 W w' := fun W hW => pow_at W (p + 9) (by omega) p (by omega) (ht.of_heap hW)
  have hcv : ∀ W : World, (convert 25 2 (.float .f64 0)).run Tryd.prog W = .ok (.int .i64 0) W := fun W => run_convert_float_int W 25 2 .f64 .i64 0 0 (by rw [Tryd.underlying25]; rfl) Tryd.underlying2 (by kernel_rfl)
  refine (float_zero w g full l base p 0 0 (pwWord (p + 9)) 0 0 (p : Int) hr hl htk hmx hb hbs hln hp (w64 (by omega) (by omega) (by omega)) (fun W => NearW.isNaN_zero W) (fun W => NearW.isInf_zero W) ⟨by decide, rfl⟩ (fun W => fexp_zero W) hpow (mul_zero_word _ (by omega)) hcv).mono ?_
  rintro e w' ⟨v', k1, k2, k3⟩
  exact ⟨v', [48], k1, NumT.zero, k2, k3⟩
/-- What laws.mixed gives: nought, or N / 1024 of either sign. -/
def FloZ (f : Nat) : Prop := f = 0 ∨ ∃ ng fa N, Flo ng f fa N
theorem float_any (w : World) (g : Nat) (full l : List Int) (base p f : Nat) (hr : Row 5 w g full) (hl : l.length ≤ full.length) (htk : full.take l.length = l) (hmx : full.length ≤ maxLen) (hb : base ≤ g) (hbs : base ≤ w.heap.size) (hln : l.length ≤ 100000000000)
    (hp : p ≤ 8) (hf : FloZ f) (ht : Tab.Tabs w) :
    Calls Tryd.prog 22 #[.slice (some ⟨g, 0, none⟩) l.length full.length, .float .f64 f, .int .i64 p] w fun e w' =>
      ∃ (v' : Value) (X : List Int), e = .returned v' ∧ NumT X ∧ Bs 5 w' base v' (l ++ X) ∧ Below base w w' := by
  rcases hf with rfl | ⟨ng, fa, N, hf⟩
  · exact float_nought w g full l base p hr hl htk hmx hb hbs hln hp ht
  · exact float_flo w g full l base p f fa N ng hr hl htk hmx hb hbs hln hp hf ht
end Go.Proofs.YtmpgbakkpbmpiaaDoor.AF
/- WriteFloat. -/
namespace Go.Proofs.YtmpgbakkpbmpiaaDoor.AF
open Go.RowKit Go.Proofs.YtmpgbakkpbmpiaaDoorW.PrintWords Go.Proofs.YtmpgbakkpbmpiaaDoorW.PrintLast Go.Proofs.YtmpgbakkpbmpiaaDoorW.PrintMore
open PFl Brow Dig AD Flo
set_option linter.unusedVariables false
set_option linter.unusedSimpArgs false

/-- The tables that the code reads. -/
structure Laid (w : World) : Prop where
  size : 6 ≤ w.heap.size
  t1 : ∀ i < 19, w.cell? ⟨1, i, none⟩ = some (.int .i64 ((10 ^ i : Nat) : Int))
  tabs : Tab.Tabs w
theorem Laid.below {w w' : World} {B : Nat} (h : Laid w) (hb : Below B w w') (hB : 6 ≤ B) (hs : B ≤ w'.heap.size) : Laid w' :=
  ⟨by omega, fun i hi => (hb.cell (show 1 < B by omega)).trans (h.t1 i hi),
    ⟨fun i hi => (hb.cell (show 3 < B by omega)).trans (h.tabs.t3 i hi), fun i hi => (hb.cell (show 4 < B by omega)).trans (h.tabs.t4 i hi), fun i hi => (hb.cell (show 5 < B by omega)).trans (h.tabs.t5 i hi)⟩⟩
theorem Laid.of_heap {w w' : World} (h : Laid w) (hw : w'.heap = w.heap) : Laid w' :=
  ⟨by rw [hw]; exact h.size, fun i hi => (Tab.cell_heap hw).trans (h.t1 i hi), h.tabs.of_heap hw⟩
set_option maxHeartbeats 1000000
theorem write_float (w : World) (A : Option Addr) (c : Nat) (l : List Int) (p f : Nat) (hr : Kd.C (Kd.int .u8) w A l.length l) (hln : l.length ≤ 100000000000)
    (hp : p ≤ 8) (hf : FloZ f) (hlaid : Laid w) :
    Calls Tryd.prog 12 #[.slice A l.length c, .float .f64 f, .int .i64 p] w fun e w' =>
      ∃ (v' : Value) (X : List Int), e = .returned v' ∧ NumT X ∧ Bs 5 w' w.heap.size v' (l ++ X) ∧ Below w.heap.size w w' := by
  have HOwn := Aside0.mk (fun W : World => fun h : Kd.C (Kd.int .u8) W A l.length l => own_calls A c l W h (by omega))
  have HApp := Aside0.mk (fun (W : World) (g : Nat) (full : List Int) base h1 h2 h3 h4 h5 h6 h7 => float_any W g full l base p f h1 h2 h3 h4 h5 h6 hln hp hf h7)
  have HR := Aside0.mk hr
  have HL := Aside0.mk hlaid
  clear hp hf hr hln hlaid
  go_enter Tryd.func12, Tryd.ntmps12
  go_wp2_with (first | (go_at_call 19; refine (HOwn.out _ HR.out).mono ?_; rintro e w1 ⟨v, rfl, hv, hb⟩; have hsz := (hv.lt); obtain ⟨g, full, rfl, hg, hrow, hle, hmx, htk⟩ := hv; have hsz2 : w.heap.size ≤ w1.heap.size := (by have := hrow.lt; omega); have HB := Aside0.mk (And.intro hb (And.intro hg (And.intro hrow (And.intro hle (And.intro hmx (And.intro htk hsz2)))))); clear hsz hsz2 hb hg hrow hle hmx htk) | (go_at_call 22; refine (HApp.out w1 g full w.heap.size HB.out.2.2.1 HB.out.2.2.2.1 HB.out.2.2.2.2.2.1 HB.out.2.2.2.2.1 HB.out.2.1 HB.out.2.2.2.2.2.2 (HL.out.below HB.out.1 HL.out.size HB.out.2.2.2.2.2.2).tabs).mono ?_; rintro e w2 ⟨v', X, rfl, hx⟩; have HX := Aside0.mk hx; clear hx))
  go_ret
  obtain ⟨h1, h2, h3⟩ := HX.out
  exact ⟨v', X, rfl, h1, h2, HB.out.1.trans h3⟩
end Go.Proofs.YtmpgbakkpbmpiaaDoor.AF
/- AppendDecimal below nought: room, sign. -/
namespace Go.Proofs.YtmpgbakkpbmpiaaDoor.AD
open Go.RowKit Go.Proofs.YtmpgbakkpbmpiaaDoorW.PrintWords Go.Proofs.YtmpgbakkpbmpiaaDoorW.PrintLast Go.Proofs.YtmpgbakkpbmpiaaDoorW.PrintMore
open PFl Brow Dig AF
set_option linter.unusedVariables false
set_option linter.unusedSimpArgs false

set_option maxHeartbeats 4000000 in
set_option maxRecDepth 100000 in
theorem part11n {g d v n N base : Nat} {sg : Bool} {full l : List Int} {w0 : World} {u1 u3 u4 u5 u6 u10 u11 u12 u13 u14 u15 u16 u17 u18 u19 u20 u21 u22 u23 u24 u25 u26 u27 u28 u29 u30 u31 u32 u33 u34 u35 u36 u37 u38 u39 u40 u41 u42 u43 u44 u45 u46 u47 u48 u49 u50 u51 u52 u53 u54 u55 u56 u57 u58 u59 u60 u61 u62 u63 u64 u65 u66 u67 u68 u69 u70 u71 u72 u73 u74 u75 u76 u77 u78 u79 u80 u81 u82 u83 u84 u85 u86 u87 u88 u89 u90 u91 u92 u93 u94 u95 u96 u97 u98 u99 u100 u101 u102 u103 u104 u105 u106 u107 u108 u109 u110 u111 u112 u113 u114 u115 u116 u117 u118 u119 u120 u121 u122 u123 u124 u125 u126 u127 u128 u129 u130 u131 u132 u133 u134 u135 u136 u137 u138 u139 u140 u141 u142 u143 u144 u145 u146 u147 u148 u149 u150 u151 u152 u153 u154 u155 u156 u157 u158 u159 u160 u161 u162 u163 u164 : Value} (W : World) (hr : Row 5 W g full) (hNf : N ≤ full.length) (htk : full.take l.length = l) (hmx : full.length ≤ maxLen) (hb : base ≤ g) (hw0 : Below base w0 W) (hn : n = sg.toNat + (text v d).length) (hv : 0 < v ∧ v < 9000000000000000000) (hd : d < 20) (hE : N = l.length + n ∧ 0 < n ∧ N ≤ 1000000000000) :
    Code.wp Tryd.prog (rest 11 body21) (bodyPost Tryd.prog Tryd.f21 fun e w' => ∃ v', e = .returned v' ∧ Bs 5 w' base v' (l ++ sgn sg ++ text v d) ∧ Below base w0 w') ⟨#[.slice (some ⟨g, 0, none⟩) N full.length, u1, .int .i64 (d : Int), u3, u4, u5, u6, .int .i64 (-(v : Int)), .int .i64 (l.length : Int), .int .i64 (n : Int), u10, u11, u12, u13, u14, u15, u16, u17, u18, u19, u20, u21, u22, u23, u24, u25, u26, u27, u28, u29, u30, u31, u32, u33, u34, u35, u36, u37, u38, u39, u40, u41, u42, u43, u44, u45, u46, u47, u48, u49, u50, u51, u52, u53, u54, u55, u56, u57, u58, u59, u60, u61, u62, u63, u64, u65, u66, u67, u68, u69, u70, u71, u72, u73, u74, u75, u76, u77, u78, u79, u80, u81, u82, u83, u84, u85, u86, u87, u88, u89, u90, u91, u92, u93, u94, u95, u96, u97, u98, u99, u100, u101, u102, u103, u104, u105, u106, u107, u108, u109, u110, u111, u112, u113, u114, u115, u116, u117, u118, u119, u120, u121, u122, u123, u124, u125, u126, u127, u128, u129, u130, u131, u132, u133, u134, u135, u136, u137, u138, u139, u140, u141, u142, u143, u144, u145, u146, u147, u148, u149, u150, u151, u152, u153, u154, u155, u156, u157, u158, u159, u160, u161, u162, u163, u164], []⟩ W := by
  conv => arg 2; whnf
  have HR := Aside0.mk hr
  have HTk := Aside0.mk htk
  have HMx := Aside0.mk hmx
  have HB := Aside0.mk hb
  have HW0 := Aside0.mk hw0
  have HN := Aside0.mk hn
  have HV := Aside0.mk hv
  have HD := Aside0.mk hd
  have HNf := Aside0.mk hNf
  have HE := Aside0.mk hE
  have hlN : l.length < N := by omega
  have hce := HR.out.cell l.length (by omega)
  have hfe := HR.out.frozen l.length
  clear hr htk hmx hb hw0 hn hv hd hNf hE
  have hE := HE.out
  have hV := HV.out
  have p1 : -(v : Int) < 0 := by omega
  have p2 : 0 < (v : Int) := by omega
  have p3 : 0 < v := by omega
  have p4 : (v : Int) = (v : Int) ∧ -9000000000000000000 ≤ (v : Int) ∧ (v : Int) ≤ 9000000000000000000 := by omega
  have p5 : (l.length : Int) < (N : Int) := by omega
  have p6 : (0 : Int) ≤ (l.length : Int) := by omega
  have p7 : l.length < N := by omega
  have t1 := eq_true p1
  have d1 : decide (-(v : Int) < 0) = true := decide_eq_true p1
  have t2 := eq_true p2
  have d2 : decide (0 < (v : Int)) = true := decide_eq_true p2
  have t3 := eq_true p3
  have d3 : decide (0 < v) = true := decide_eq_true p3
  have mv := w64 p4.1 p4.2.1 p4.2.2
  have t5 := eq_true p5
  have d5 : decide ((l.length : Int) < (N : Int)) = true := decide_eq_true p5
  have t6 := eq_true p6
  have d6 : decide ((0 : Int) ≤ (l.length : Int)) = true := decide_eq_true p6
  have t7 := eq_true p7
  have d7 : decide (l.length < N) = true := decide_eq_true p7
  clear hE hV p1 p2 p3 p4 p5 p6 p7
  clear hlN
  go_upto_region 29 with (fail)
  try rw [mv]
  go_cut [8] from 107 to 110 (fun v8 wc => v8 = .int .i64 ((N : Int) - 1) ∧ Aside0 (wc = W.setCell ⟨g, l.length, none⟩ (.int .u8 45)))
  case first =>
    clear t1 d1 t2 d2 t3 d3 mv t5 d5 t6 d6 t7 d7 hce hfe
    have hE := HE.out
    have p8 : (n : Int) - 1 = (n : Int) - 1 ∧ -9000000000000000000 ≤ (n : Int) - 1 ∧ (n : Int) - 1 ≤ 9000000000000000000 := by omega
    have p9 : (l.length : Int) + ((n : Int) - 1) = (N : Int) - 1 ∧ -9000000000000000000 ≤ (N : Int) - 1 ∧ (N : Int) - 1 ≤ 9000000000000000000 := by omega
    have t8 := w64 p8.1 p8.2.1 p8.2.2
    have mz := w64 p9.1 p9.2.1 p9.2.2
    clear hE p8 p9
    go_wp2_with (fail)
    go_meet
    case rel => exact ⟨by first | with_reducible rfl | (simp only [mz]; done), ⟨rfl⟩⟩
  case rest =>
    clear t1 d1 t2 d2 t3 d3 mv t5 d5 t6 d6 t7 d7 hce hfe
    obtain ⟨rfl, HX⟩ := hcut
    obtain rfl := HX.out
    have hE := HE.out
    have hNf := HNf.out
    refine use_k (by assumption) ?_
    have hdl : (text v d).length = (digs (v / 10 ^ d)).length + (if d = 0 then 0 else d + 1) := by
      unfold text
      by_cases h0 : d = 0
      · simp [h0]
      · simp [h0, frac_len]
    have hl3 : (full.set l.length 45).length = full.length := List.length_set
    have hpre : (full.set l.length 45).take (l ++ sgn sg).length = l ++ sgn sg ∧ (l ++ sgn sg).length + (text v d).length = N := by
      have hnn := HN.out
      cases sg
      · rw [show sgn false = [] from rfl, List.append_nil]
        exact ⟨by rw [List.take_set_of_le (Nat.le_refl _)]; exact HTk.out, by simp only [Bool.toNat_false] at hnn; omega⟩
      · rw [show sgn true = [45] from rfl, List.length_append, List.length_singleton]
        refine ⟨?_, by simp only [Bool.toNat_true] at hnn; omega⟩
        rw [List.take_add_one, List.take_set_of_le (Nat.le_refl _), HTk.out, List.getElem?_set_self (by omega)]
        rfl
    refine Code.wp_mono (bodyPost_mono ?_) (part13 _ (HR.out.store l.length 45) hl3 (HW0.out.setCell HB.out _) (pre := l ++ sgn sg) (suf := []) (out := l ++ sgn sg ++ text v d) (j := N) ⟨hpre.1, by rw [List.drop_of_length_le (by rw [List.length_take]; omega)], by omega, by omega, by simp⟩ HB.out (by omega) (by simp) (by omega) (by have := HV.out.2; omega) HD.out)
    rintro e w' ⟨full', rfl, k1, k2, k3, k4⟩
    have hnl : (l ++ sgn sg ++ text v d).length = N := by rw [List.length_append, hpre.2]
    exact ⟨_, rfl, ⟨g, full', by rw [hnl, k1], HB.out, k2, by rw [hnl, k1]; exact hNf, by rw [k1]; exact HMx.out, by rw [hnl]; exact k3⟩, k4⟩
set_option maxHeartbeats 4000000 in
set_option maxRecDepth 100000 in
theorem part10n {g d v n base : Nat} {sg : Bool} {full l : List Int} {w0 : World} {u1 u3 u4 u5 u6 u10 u11 u12 u13 u14 u15 u16 u17 u18 u19 u20 u21 u22 u23 u24 u25 u26 u27 u28 u29 u30 u31 u32 u33 u34 u35 u36 u37 u38 u39 u40 u41 u42 u43 u44 u45 u46 u47 u48 u49 u50 u51 u52 u53 u54 u55 u56 u57 u58 u59 u60 u61 u62 u63 u64 u65 u66 u67 u68 u69 u70 u71 u72 u73 u74 u75 u76 u77 u78 u79 u80 u81 u82 u83 u84 u85 u86 u87 u88 u89 u90 u91 u92 u93 u94 u95 u96 u97 u98 u99 u100 u101 u102 u103 u104 u105 u106 u107 u108 u109 u110 u111 u112 u113 u114 u115 u116 u117 u118 u119 u120 u121 u122 u123 u124 u125 u126 u127 u128 u129 u130 u131 u132 u133 u134 u135 u136 u137 u138 u139 u140 u141 u142 u143 u144 u145 u146 u147 u148 u149 u150 u151 u152 u153 u154 u155 u156 u157 u158 u159 u160 u161 u162 u163 u164 : Value} (W : World) (hr : Row 5 W g full) (hl : l.length ≤ full.length) (htk : full.take l.length = l) (hmx : full.length ≤ maxLen) (hb : base ≤ g) (hbs : base ≤ W.heap.size) (hw0 : Below base w0 W) (hn : n = sg.toNat + (text v d).length) (hv : 0 < v ∧ v < 9000000000000000000) (hd : d < 20) (hln : l.length + n ≤ 1000000000000) :
    Code.wp Tryd.prog (rest 10 body21) (bodyPost Tryd.prog Tryd.f21 fun e w' => ∃ v', e = .returned v' ∧ Bs 5 w' base v' (l ++ sgn sg ++ text v d) ∧ Below base w0 w') ⟨#[.slice (some ⟨g, 0, none⟩) l.length full.length, u1, .int .i64 (d : Int), u3, u4, u5, u6, .int .i64 (-(v : Int)), .int .i64 (l.length : Int), .int .i64 (n : Int), u10, u11, u12, u13, u14, u15, u16, u17, u18, u19, u20, u21, u22, u23, u24, u25, u26, u27, u28, u29, u30, u31, u32, u33, u34, u35, u36, u37, u38, u39, u40, u41, u42, u43, u44, u45, u46, u47, u48, u49, u50, u51, u52, u53, u54, u55, u56, u57, u58, u59, u60, u61, u62, u63, u64, u65, u66, u67, u68, u69, u70, u71, u72, u73, u74, u75, u76, u77, u78, u79, u80, u81, u82, u83, u84, u85, u86, u87, u88, u89, u90, u91, u92, u93, u94, u95, u96, u97, u98, u99, u100, u101, u102, u103, u104, u105, u106, u107, u108, u109, u110, u111, u112, u113, u114, u115, u116, u117, u118, u119, u120, u121, u122, u123, u124, u125, u126, u127, u128, u129, u130, u131, u132, u133, u134, u135, u136, u137, u138, u139, u140, u141, u142, u143, u144, u145, u146, u147, u148, u149, u150, u151, u152, u153, u154, u155, u156, u157, u158, u159, u160, u161, u162, u163, u164], []⟩ W := by
  conv => arg 2; whnf
  have HR := Aside0.mk hr
  have HLe := Aside0.mk hl
  have HTk := Aside0.mk htk
  have HMx := Aside0.mk hmx
  have HB := Aside0.mk hb
  have HBs := Aside0.mk hbs
  have HW0 := Aside0.mk hw0
  have HN := Aside0.mk hn
  have HV := Aside0.mk hv
  have HD := Aside0.mk hd
  have hn0 : 0 < n := by rw [hn]; have := digs_len (v / 10 ^ d); simp only [text, List.length_append]; omega
  obtain ⟨N, hNN⟩ : ∃ N : Nat, N = l.length + n := ⟨_, rfl⟩
  have HE := Aside0.mk (show N = l.length + n ∧ 0 < n ∧ N ≤ 1000000000000 from ⟨hNN, hn0, by omega⟩)
  clear hr hl htk hmx hb hbs hw0 hn hv hd hln hn0 hNN
  by_cases hroom : full.length < N
  · have HRm := Aside0.mk (show 0 < n ∧ full.length < l.length + n ∧ l.length + n ≤ 1000000000000 from by have hE := HE.out; omega)
    have hE := HE.out
    have p10 : (l.length : Int) + (n : Int) = (N : Int) ∧ -9000000000000000000 ≤ (N : Int) ∧ (N : Int) ≤ 9000000000000000000 := by omega
    have p11 : (full.length : Int) < (N : Int) := by omega
    have p12 : full.length < N := by omega
    have p13 : (full.length : Int) < (l.length : Int) + (n : Int) := by omega
    have mN := w64 p10.1 p10.2.1 p10.2.2
    have t11 := eq_true p11
    have d11 : decide ((full.length : Int) < (N : Int)) = true := decide_eq_true p11
    have t12 := eq_true p12
    have dRm : decide (full.length < N) = true := decide_eq_true p12
    have t13 := eq_true p13
    have d13 : decide ((full.length : Int) < (l.length : Int) + (n : Int)) = true := decide_eq_true p13
    clear hE p10 p11 p12 p13
    clear hroom
    go_upto_if 91 with (fail)
    try rw [mN]
    try rw [dRm]
    go_cut [0] from 92 to 99 (fun v0 wc => ∃ (g2 : Nat) (full2 : List Int), v0 = .slice (some ⟨g2, 0, none⟩) N full2.length ∧ Aside0 (Row 5 wc g2 full2 ∧ base ≤ g2 ∧ N ≤ full2.length ∧ full2.length ≤ maxLen ∧ full2.take l.length = l ∧ Below base w0 wc))
    case first =>
      go_wp2_with (at_builtin; refine wpList_zeros _ rfl (.tmp 92) (.tmp 93) 22 3 5 base rfl Tryd.underlying22 Tryd.underlying3 PFnNumberFloatLength.info5 g full l rfl HR.out HLe.out HTk.out .i64 n rfl HRm.out.1 HRm.out.2.1 (by have hb2 := HRm.out.2.2; clear mN t11 d11 t12 dRm t13 d13; omega) HBs.out ?_; intro full' w' h1 h2 h3 h4 h5; have HZ := Aside0.mk (And.intro h1 (And.intro h2 (And.intro h3 (And.intro h4 h5)))); clear h1 h2 h3 h4 h5)
      go_meet
      case rel => exact ⟨_, full', by rw [HE.out.1], ⟨HZ.out.1, HBs.out, by rw [HE.out.1]; exact HZ.out.2.1, HZ.out.2.2.1, HZ.out.2.2.2.1, HW0.out.trans (HZ.out.2.2.2.2.mono HBs.out)⟩⟩
    case rest =>
      obtain ⟨g2, full2, rfl, HX⟩ := hcut
      clear mN t11 d11 t12 dRm t13 d13
      refine use_k (by assumption) ?_
      obtain ⟨h1, h2, h3, h4, h5, h6⟩ := HX.out
      exact part11n _ h1 h3 h5 h4 h2 h6 HN.out HV.out HD.out HE.out
  · have HRm := Aside0.mk hroom
    have hE := HE.out
    have p14 : (l.length : Int) + (n : Int) = (N : Int) ∧ -9000000000000000000 ≤ (N : Int) ∧ (N : Int) ≤ 9000000000000000000 := by omega
    have p15 : ¬ ((full.length : Int) < (N : Int)) := by omega
    have p16 : ¬ (full.length < N) := by omega
    have p17 : ¬ ((full.length : Int) < (l.length : Int) + (n : Int)) := by omega
    have p18 : N ≤ full.length := by omega
    have p19 : (N : Int) ≤ (full.length : Int) := by omega
    have p20 : (0 : Int) ≤ (N : Int) := by omega
    have p21 : (l.length : Int) + (n : Int) ≤ (full.length : Int) := by omega
    have p22 : (0 : Int) ≤ (l.length : Int) + (n : Int) := by omega
    have mN := w64 p14.1 p14.2.1 p14.2.2
    have t15 := eq_false p15
    have d15 : decide ((full.length : Int) < (N : Int)) = false := decide_eq_false p15
    have t16 := eq_false p16
    have dRm : decide (full.length < N) = false := decide_eq_false p16
    have t17 := eq_false p17
    have d17 : decide ((full.length : Int) < (l.length : Int) + (n : Int)) = false := decide_eq_false p17
    have t18 := eq_true p18
    have d18 : decide (N ≤ full.length) = true := decide_eq_true p18
    have t19 := eq_true p19
    have d19 : decide ((N : Int) ≤ (full.length : Int)) = true := decide_eq_true p19
    have t20 := eq_true p20
    have d20 : decide ((0 : Int) ≤ (N : Int)) = true := decide_eq_true p20
    have t21 := eq_true p21
    have d21 : decide ((l.length : Int) + (n : Int) ≤ (full.length : Int)) = true := decide_eq_true p21
    have t22 := eq_true p22
    have d22 : decide ((0 : Int) ≤ (l.length : Int) + (n : Int)) = true := decide_eq_true p22
    clear hE p14 p15 p16 p17 p18 p19 p20 p21 p22
    clear hroom
    go_upto_if 91 with (fail)
    try rw [mN]
    try rw [dRm]
    go_cut [0] from 92 to 99 (fun v0 wc => ∃ (g2 : Nat) (full2 : List Int), v0 = .slice (some ⟨g2, 0, none⟩) N full2.length ∧ Aside0 (Row 5 wc g2 full2 ∧ base ≤ g2 ∧ N ≤ full2.length ∧ full2.length ≤ maxLen ∧ full2.take l.length = l ∧ Below base w0 wc))
    case first =>
      go_wp2_with (fail)
      go_meet
      case rel => exact ⟨g, full, by first | with_reducible rfl | (simp only [mN, Int.toNat_natCast]; done), ⟨HR.out, HB.out, Nat.le_of_not_lt HRm.out, HMx.out, HTk.out, HW0.out⟩⟩
    case rest =>
      obtain ⟨g2, full2, rfl, HX⟩ := hcut
      clear mN t15 d15 t16 dRm t17 d17 t18 d18 t19 d19 t20 d20 t21 d21 t22 d22
      refine use_k (by assumption) ?_
      obtain ⟨h1, h2, h3, h4, h5, h6⟩ := HX.out
      exact part11n _ h1 h3 h5 h4 h2 h6 HN.out HV.out HD.out HE.out
end Go.Proofs.YtmpgbakkpbmpiaaDoor.AD
/- AppendDecimal below nought: lengths. -/
namespace Go.Proofs.YtmpgbakkpbmpiaaDoor.AD
open Go.RowKit Go.Proofs.YtmpgbakkpbmpiaaDoorW.PrintWords Go.Proofs.YtmpgbakkpbmpiaaDoorW.PrintLast Go.Proofs.YtmpgbakkpbmpiaaDoorW.PrintMore
open PFl Brow Dig AF
set_option linter.unusedVariables false
set_option linter.unusedSimpArgs false

set_option maxHeartbeats 4000000 in
set_option maxRecDepth 100000 in
theorem part8n {g d v base : Nat} {full l : List Int} {w0 : World} {u1 u3 u4 u5 u6 u8 u9 u10 u11 u12 u13 u14 u15 u16 u17 u18 u19 u20 u21 u22 u23 u24 u25 u26 u27 u28 u29 u30 u31 u32 u33 u34 u35 u36 u37 u38 u39 u40 u41 u42 u43 u44 u45 u46 u47 u48 u49 u50 u51 u52 u53 u54 u55 u56 u57 u58 u59 u60 u61 u62 u63 u64 u65 u66 u67 u68 u69 u70 u71 u72 u73 u74 u75 u76 u77 u78 u79 u80 u81 u82 u83 u84 u85 u86 u87 u88 u89 u90 u91 u92 u93 u94 u95 u96 u97 u98 u99 u100 u101 u102 u103 u104 u105 u106 u107 u108 u109 u110 u111 u112 u113 u114 u115 u116 u117 u118 u119 u120 u121 u122 u123 u124 u125 u126 u127 u128 u129 u130 u131 u132 u133 u134 u135 u136 u137 u138 u139 u140 u141 u142 u143 u144 u145 u146 u147 u148 u149 u150 u151 u152 u153 u154 u155 u156 u157 u158 u159 u160 u161 u162 u163 u164 : Value} (W : World) (hr : Row 5 W g full) (hl : l.length ≤ full.length) (htk : full.take l.length = l) (hmx : full.length ≤ maxLen) (hb : base ≤ g) (hbs : base ≤ W.heap.size) (hw0 : Below base w0 W) (hv : 0 < v ∧ v < 9000000000000000000) (hd : d < 19) (hln : l.length ≤ 100000000000) (ht : W.cell? ⟨1, d, none⟩ = some (.int .i64 ((10 ^ d : Nat) : Int))) :
    Code.wp Tryd.prog (rest 8 body21) (bodyPost Tryd.prog Tryd.f21 fun e w' => ∃ (v' : Value) (sg : Bool), e = .returned v' ∧ Bs 5 w' base v' (l ++ sgn sg ++ text v d) ∧ Below base w0 w') ⟨#[.slice (some ⟨g, 0, none⟩) l.length full.length, u1, .int .i64 (d : Int), u3, u4, u5, u6, .int .i64 (-(v : Int)), u8, u9, u10, u11, u12, u13, u14, u15, u16, u17, u18, u19, u20, u21, u22, u23, u24, u25, u26, u27, u28, u29, u30, u31, u32, u33, u34, u35, u36, u37, u38, u39, u40, u41, u42, u43, u44, u45, u46, u47, u48, u49, u50, u51, u52, u53, u54, u55, u56, u57, u58, u59, u60, u61, u62, u63, u64, u65, u66, u67, u68, u69, u70, u71, u72, u73, u74, u75, u76, u77, u78, u79, u80, u81, u82, u83, u84, u85, u86, u87, u88, u89, u90, u91, u92, u93, u94, u95, u96, u97, u98, u99, u100, u101, u102, u103, u104, u105, u106, u107, u108, u109, u110, u111, u112, u113, u114, u115, u116, u117, u118, u119, u120, u121, u122, u123, u124, u125, u126, u127, u128, u129, u130, u131, u132, u133, u134, u135, u136, u137, u138, u139, u140, u141, u142, u143, u144, u145, u146, u147, u148, u149, u150, u151, u152, u153, u154, u155, u156, u157, u158, u159, u160, u161, u162, u163, u164], []⟩ W := by
  conv => arg 2; whnf
  have HR := Aside0.mk hr
  have HLe := Aside0.mk hl
  have HTk := Aside0.mk htk
  have HMx := Aside0.mk hmx
  have HB := Aside0.mk hb
  have HBs := Aside0.mk hbs
  have HW0 := Aside0.mk hw0
  have HV := Aside0.mk hv
  have HD := Aside0.mk hd
  obtain ⟨L, hL⟩ : ∃ L : Nat, L = (digs v).length := ⟨_, rfl⟩
  obtain ⟨T, hT⟩ : ∃ T : Nat, T = 10 ^ d := ⟨_, rfl⟩
  have htl := text_len v d hv.1
  rw [← hL, ← hT] at htl
  rw [← hT] at ht
  have HTL := Aside0.mk htl
  have HTc := Aside0.mk ht
  have hL25 : L ≤ 25 := by rw [hL]; exact digs_25 (by omega)
  have hL1 : 1 ≤ L := by rw [hL]; exact (digs_len v).1
  have HE := Aside0.mk (And.intro hL25 (And.intro hL1 hln))
  have HTT := Aside0.mk (show T ≤ 1000000000000000000 from by
    rw [hT]
    have := Nat.pow_le_pow_right (n := 10) (by decide) (show d ≤ 18 by omega)
    simpa using this)
  have hLn : lenI (-(v : Int)) = L + 1 := by unfold lenI; rw [if_pos (by omega), show (-(v : Int)).natAbs = v by omega, hL]
  have HLI := Aside0.mk (fun W : World => show Calls Tryd.prog 29 #[.int .i64 (-(v : Int))] W (fun e w' => e = .returned (.int .i64 ((L + 1 : Nat) : Int)) ∧ Drawn0 W w') from by rw [← hLn]; exact PFnNumberDecimalNear.tdstrconv_LenInt.calls _ _ W (lenI_eq _ (by omega)))
  clear hr hl htk hmx hb hbs hw0 hv hd hln ht htl hL25 hL1 hLn hL hT
  by_cases h0 : d = 0
  · have hn : (L + 1) = (true).toNat + (text v d).length := by
      have hE := HE.out
      have hD := HD.out
      have htl := HTL.out
      rw [htl]
      rw [if_pos (by omega)]; simp only [Bool.toNat_true]; omega
    have HNN := Aside0.mk hn
    have hln : l.length + (L + 1) ≤ 1000000000000 := by have hE := HE.out; have hD := HD.out; omega
    have HLN := Aside0.mk hln
    clear hn hln
    have hV := HV.out
    have hD := HD.out
    have hE := HE.out
    have hT := HTT.out
    have p1 : ¬ ((0 : Int) < (d : Int)) := by omega
    have p2 : ¬ (0 < d) := by omega
    have t1 := eq_false p1
    have d1 : decide ((0 : Int) < (d : Int)) = false := decide_eq_false p1
    have t2 := eq_false p2
    have d2 : decide (0 < d) = false := decide_eq_false p2
    clear hV hD hE hT p1 p2
    clear h0
    go_upto_if 57 with (go_at_call 29; with_reducible refine (HLI.out _).mono ?_; rintro e w' ⟨rfl, ⟨nd, rfl⟩⟩)
    go_cut [9, 10] from 58 to 85 (fun v9 v10 wc => v9 = .int .i64 (((L + 1) : Nat) : Int) ∧ Aside0 (∃ nd, wc = W.drewN nd))
    case first =>
      have hx := HTc.out
      go_wp2_with (fail)
      go_meet
      case rel => exact ⟨by first | with_reducible rfl | (simp only [rfl]; done) | exact congrArg (Value.int IntKind.i64) (by simp; done) | rfl, ⟨nd, rfl⟩⟩
    case rest =>
      obtain ⟨rfl, HX⟩ := hcut
      obtain ⟨nd2, rfl⟩ := HX.out
      clear t1 d1 t2 d2
      refine use_k (by assumption) ?_
      refine Code.wp_mono (bodyPost_mono ?_) (part10n (sg := true) _ (HR.out.drewN _) HLe.out HTk.out HMx.out HB.out HBs.out (pw_below_drewN HW0.out _) HNN.out HV.out (by have := HD.out; omega) HLN.out)
      rintro e w' ⟨v', rfl, k1, k2⟩
      exact ⟨v', _, rfl, k1, k2⟩
  · by_cases ha : L + 1 < d
    · by_cases hb9 : v < T
      · have hn : (d + 1 + 1) = ((!decide (L < d))).toNat + (text v d).length := by
          have hE := HE.out
          have hD := HD.out
          have htl := HTL.out
          rw [htl]
          rw [if_neg (by omega), if_pos hb9]
          by_cases hLd : L < d
          · rw [if_pos hLd, decide_eq_true hLd]; simp only [Bool.not_true, Bool.toNat_false]; omega
          · rw [if_neg hLd, decide_eq_false hLd]; simp only [Bool.not_false, Bool.toNat_true]; omega
        have HNN := Aside0.mk hn
        have hln : l.length + (d + 1 + 1) ≤ 1000000000000 := by have hE := HE.out; have hD := HD.out; omega
        have HLN := Aside0.mk hln
        clear hn hln
        have hV := HV.out
        have hD := HD.out
        have hE := HE.out
        have hT := HTT.out
        have p3 : (0 : Int) < (d : Int) := by omega
        have p4 : 0 < d := by omega
        have p5 : (d : Int) < 19 := by omega
        have p6 : (0 : Int) ≤ (d : Int) := by omega
        have p7 : d < 19 := by omega
        have p8 : ((L + 1 : Nat) : Int) < (d : Int) := by omega
        have p9 : (L : Int) + 1 < (d : Int) := by omega
        have p10 : L + 1 < d := by omega
        have p11 : ¬ ((0 : Int) < -(v : Int)) := by omega
        have p12 : -(v : Int) < 0 := by omega
        have p13 : ¬ ((v : Int) < 0) := by omega
        have p14 : (0 : Int) < (v : Int) := by omega
        have p15 : 0 < v := by omega
        have p16 : -(T : Int) = -(T : Int) ∧ -9000000000000000000 ≤ -(T : Int) ∧ -(T : Int) ≤ 9000000000000000000 := by omega
        have p17 : -(T : Int) < -(v : Int) := by omega
        have p18 : (v : Int) < (T : Int) := by omega
        have p19 : v < T := by omega
        have p20 : (d : Int) + 1 = ((d + 1 : Nat) : Int) ∧ -9000000000000000000 ≤ ((d + 1 : Nat) : Int) ∧ ((d + 1 : Nat) : Int) ≤ 9000000000000000000 := by omega
        have p21 : ((d + 1 : Nat) : Int) + 1 = ((d + 1 + 1 : Nat) : Int) ∧ -9000000000000000000 ≤ ((d + 1 + 1 : Nat) : Int) ∧ ((d + 1 + 1 : Nat) : Int) ≤ 9000000000000000000 := by omega
        have p22 : (d : Int) + 1 + 1 = ((d + 1 + 1 : Nat) : Int) ∧ -9000000000000000000 ≤ ((d + 1 + 1 : Nat) : Int) ∧ ((d + 1 + 1 : Nat) : Int) ≤ 9000000000000000000 := by omega
        have t3 := eq_true p3
        have d3 : decide ((0 : Int) < (d : Int)) = true := decide_eq_true p3
        have t4 := eq_true p4
        have d4 : decide (0 < d) = true := decide_eq_true p4
        have t5 := eq_true p5
        have d5 : decide ((d : Int) < 19) = true := decide_eq_true p5
        have t6 := eq_true p6
        have d6 : decide ((0 : Int) ≤ (d : Int)) = true := decide_eq_true p6
        have t7 := eq_true p7
        have d7 : decide (d < 19) = true := decide_eq_true p7
        have t8 := eq_true p8
        have d8 : decide (((L + 1 : Nat) : Int) < (d : Int)) = true := decide_eq_true p8
        have t9 := eq_true p9
        have d9 : decide ((L : Int) + 1 < (d : Int)) = true := decide_eq_true p9
        have t10 := eq_true p10
        have d10 : decide (L + 1 < d) = true := decide_eq_true p10
        have t11 := eq_false p11
        have d11 : decide ((0 : Int) < -(v : Int)) = false := decide_eq_false p11
        have t12 := eq_true p12
        have d12 : decide (-(v : Int) < 0) = true := decide_eq_true p12
        have t13 := eq_false p13
        have d13 : decide ((v : Int) < 0) = false := decide_eq_false p13
        have t14 := eq_true p14
        have d14 : decide ((0 : Int) < (v : Int)) = true := decide_eq_true p14
        have t15 := eq_true p15
        have d15 : decide (0 < v) = true := decide_eq_true p15
        have t16 := w64 p16.1 p16.2.1 p16.2.2
        have t17 := eq_true p17
        have d17 : decide (-(T : Int) < -(v : Int)) = true := decide_eq_true p17
        have t18 := eq_true p18
        have d18 : decide ((v : Int) < (T : Int)) = true := decide_eq_true p18
        have t19 := eq_true p19
        have d19 : decide (v < T) = true := decide_eq_true p19
        have ma := w64 p20.1 p20.2.1 p20.2.2
        have mb := w64 p21.1 p21.2.1 p21.2.2
        have mc := w64 p22.1 p22.2.1 p22.2.2
        clear hV hD hE hT p3 p4 p5 p6 p7 p8 p9 p10 p11 p12 p13 p14 p15 p16 p17 p18 p19 p20 p21 p22
        clear h0 ha hb9
        go_upto_if 57 with (go_at_call 29; with_reducible refine (HLI.out _).mono ?_; rintro e w' ⟨rfl, ⟨nd, rfl⟩⟩)
        go_cut [9, 10] from 58 to 85 (fun v9 v10 wc => v9 = .int .i64 (((d + 1 + 1) : Nat) : Int) ∧ Aside0 (∃ nd, wc = W.drewN nd))
        case first =>
          have hx := HTc.out
          go_wp2_with (fail)
          go_meet
          case rel => exact ⟨by first | with_reducible rfl | (simp only [ma, mb, mc]; done) | exact congrArg (Value.int IntKind.i64) (by simp; done) | rfl, ⟨nd, rfl⟩⟩
        case rest =>
          obtain ⟨rfl, HX⟩ := hcut
          obtain ⟨nd2, rfl⟩ := HX.out
          clear t3 d3 t4 d4 t5 d5 t6 d6 t7 d7 t8 d8 t9 d9 t10 d10 t11 d11 t12 d12 t13 d13 t14 d14 t15 d15 t16 t17 d17 t18 d18 t19 d19 ma mb mc
          refine use_k (by assumption) ?_
          refine Code.wp_mono (bodyPost_mono ?_) (part10n (sg := (!decide (L < d))) _ (HR.out.drewN _) HLe.out HTk.out HMx.out HB.out HBs.out (pw_below_drewN HW0.out _) HNN.out HV.out (by have := HD.out; omega) HLN.out)
          rintro e w' ⟨v', rfl, k1, k2⟩
          exact ⟨v', _, rfl, k1, k2⟩
      · have hn : (d + 1) = ((!decide (L < d))).toNat + (text v d).length := by
          have hE := HE.out
          have hD := HD.out
          have htl := HTL.out
          rw [htl]
          rw [if_neg (by omega), if_neg hb9]
          by_cases hLd : L < d
          · rw [if_pos hLd, decide_eq_true hLd]; simp only [Bool.not_true, Bool.toNat_false]; omega
          · rw [if_neg hLd, decide_eq_false hLd]; simp only [Bool.not_false, Bool.toNat_true]; omega
        have HNN := Aside0.mk hn
        have hln : l.length + (d + 1) ≤ 1000000000000 := by have hE := HE.out; have hD := HD.out; omega
        have HLN := Aside0.mk hln
        clear hn hln
        have hV := HV.out
        have hD := HD.out
        have hE := HE.out
        have hT := HTT.out
        have p23 : (0 : Int) < (d : Int) := by omega
        have p24 : 0 < d := by omega
        have p25 : (d : Int) < 19 := by omega
        have p26 : (0 : Int) ≤ (d : Int) := by omega
        have p27 : d < 19 := by omega
        have p28 : ((L + 1 : Nat) : Int) < (d : Int) := by omega
        have p29 : (L : Int) + 1 < (d : Int) := by omega
        have p30 : L + 1 < d := by omega
        have p31 : ¬ ((0 : Int) < -(v : Int)) := by omega
        have p32 : -(v : Int) < 0 := by omega
        have p33 : ¬ ((v : Int) < 0) := by omega
        have p34 : (0 : Int) < (v : Int) := by omega
        have p35 : 0 < v := by omega
        have p36 : -(T : Int) = -(T : Int) ∧ -9000000000000000000 ≤ -(T : Int) ∧ -(T : Int) ≤ 9000000000000000000 := by omega
        have p37 : ¬ (-(T : Int) < -(v : Int)) := by omega
        have p38 : ¬ ((v : Int) < (T : Int)) := by omega
        have p39 : ¬ (v < T) := by omega
        have p40 : (d : Int) + 1 = ((d + 1 : Nat) : Int) ∧ -9000000000000000000 ≤ ((d + 1 : Nat) : Int) ∧ ((d + 1 : Nat) : Int) ≤ 9000000000000000000 := by omega
        have p41 : ((d + 1 : Nat) : Int) + 1 = ((d + 1 + 1 : Nat) : Int) ∧ -9000000000000000000 ≤ ((d + 1 + 1 : Nat) : Int) ∧ ((d + 1 + 1 : Nat) : Int) ≤ 9000000000000000000 := by omega
        have p42 : (d : Int) + 1 + 1 = ((d + 1 + 1 : Nat) : Int) ∧ -9000000000000000000 ≤ ((d + 1 + 1 : Nat) : Int) ∧ ((d + 1 + 1 : Nat) : Int) ≤ 9000000000000000000 := by omega
        have t23 := eq_true p23
        have d23 : decide ((0 : Int) < (d : Int)) = true := decide_eq_true p23
        have t24 := eq_true p24
        have d24 : decide (0 < d) = true := decide_eq_true p24
        have t25 := eq_true p25
        have d25 : decide ((d : Int) < 19) = true := decide_eq_true p25
        have t26 := eq_true p26
        have d26 : decide ((0 : Int) ≤ (d : Int)) = true := decide_eq_true p26
        have t27 := eq_true p27
        have d27 : decide (d < 19) = true := decide_eq_true p27
        have t28 := eq_true p28
        have d28 : decide (((L + 1 : Nat) : Int) < (d : Int)) = true := decide_eq_true p28
        have t29 := eq_true p29
        have d29 : decide ((L : Int) + 1 < (d : Int)) = true := decide_eq_true p29
        have t30 := eq_true p30
        have d30 : decide (L + 1 < d) = true := decide_eq_true p30
        have t31 := eq_false p31
        have d31 : decide ((0 : Int) < -(v : Int)) = false := decide_eq_false p31
        have t32 := eq_true p32
        have d32 : decide (-(v : Int) < 0) = true := decide_eq_true p32
        have t33 := eq_false p33
        have d33 : decide ((v : Int) < 0) = false := decide_eq_false p33
        have t34 := eq_true p34
        have d34 : decide ((0 : Int) < (v : Int)) = true := decide_eq_true p34
        have t35 := eq_true p35
        have d35 : decide (0 < v) = true := decide_eq_true p35
        have t36 := w64 p36.1 p36.2.1 p36.2.2
        have t37 := eq_false p37
        have d37 : decide (-(T : Int) < -(v : Int)) = false := decide_eq_false p37
        have t38 := eq_false p38
        have d38 : decide ((v : Int) < (T : Int)) = false := decide_eq_false p38
        have t39 := eq_false p39
        have d39 : decide (v < T) = false := decide_eq_false p39
        have ma := w64 p40.1 p40.2.1 p40.2.2
        have mb := w64 p41.1 p41.2.1 p41.2.2
        have mc := w64 p42.1 p42.2.1 p42.2.2
        clear hV hD hE hT p23 p24 p25 p26 p27 p28 p29 p30 p31 p32 p33 p34 p35 p36 p37 p38 p39 p40 p41 p42
        clear h0 ha hb9
        go_upto_if 57 with (go_at_call 29; with_reducible refine (HLI.out _).mono ?_; rintro e w' ⟨rfl, ⟨nd, rfl⟩⟩)
        go_cut [9, 10] from 58 to 85 (fun v9 v10 wc => v9 = .int .i64 (((d + 1) : Nat) : Int) ∧ Aside0 (∃ nd, wc = W.drewN nd))
        case first =>
          have hx := HTc.out
          go_wp2_with (fail)
          go_meet
          case rel => exact ⟨by first | with_reducible rfl | (simp only [ma, mb, mc]; done) | exact congrArg (Value.int IntKind.i64) (by simp; done) | rfl, ⟨nd, rfl⟩⟩
        case rest =>
          obtain ⟨rfl, HX⟩ := hcut
          obtain ⟨nd2, rfl⟩ := HX.out
          clear t23 d23 t24 d24 t25 d25 t26 d26 t27 d27 t28 d28 t29 d29 t30 d30 t31 d31 t32 d32 t33 d33 t34 d34 t35 d35 t36 t37 d37 t38 d38 t39 d39 ma mb mc
          refine use_k (by assumption) ?_
          refine Code.wp_mono (bodyPost_mono ?_) (part10n (sg := (!decide (L < d))) _ (HR.out.drewN _) HLe.out HTk.out HMx.out HB.out HBs.out (pw_below_drewN HW0.out _) HNN.out HV.out (by have := HD.out; omega) HLN.out)
          rintro e w' ⟨v', rfl, k1, k2⟩
          exact ⟨v', _, rfl, k1, k2⟩
    · by_cases hb9 : v < T
      · have hn : ((L + 1) + 1 + 1) = ((!decide (L < d))).toNat + (text v d).length := by
          have hE := HE.out
          have hD := HD.out
          have htl := HTL.out
          rw [htl]
          rw [if_neg (by omega), if_pos hb9]
          by_cases hLd : L < d
          · rw [if_pos hLd, decide_eq_true hLd]; simp only [Bool.not_true, Bool.toNat_false]; omega
          · rw [if_neg hLd, decide_eq_false hLd]; simp only [Bool.not_false, Bool.toNat_true]; omega
        have HNN := Aside0.mk hn
        have hln : l.length + ((L + 1) + 1 + 1) ≤ 1000000000000 := by have hE := HE.out; have hD := HD.out; omega
        have HLN := Aside0.mk hln
        clear hn hln
        have hV := HV.out
        have hD := HD.out
        have hE := HE.out
        have hT := HTT.out
        have p43 : (0 : Int) < (d : Int) := by omega
        have p44 : 0 < d := by omega
        have p45 : (d : Int) < 19 := by omega
        have p46 : (0 : Int) ≤ (d : Int) := by omega
        have p47 : d < 19 := by omega
        have p48 : ¬ (((L + 1 : Nat) : Int) < (d : Int)) := by omega
        have p49 : ¬ ((L : Int) + 1 < (d : Int)) := by omega
        have p50 : ¬ (L + 1 < d) := by omega
        have p51 : ¬ ((0 : Int) < -(v : Int)) := by omega
        have p52 : -(v : Int) < 0 := by omega
        have p53 : ¬ ((v : Int) < 0) := by omega
        have p54 : (0 : Int) < (v : Int) := by omega
        have p55 : 0 < v := by omega
        have p56 : -(T : Int) = -(T : Int) ∧ -9000000000000000000 ≤ -(T : Int) ∧ -(T : Int) ≤ 9000000000000000000 := by omega
        have p57 : -(T : Int) < -(v : Int) := by omega
        have p58 : (v : Int) < (T : Int) := by omega
        have p59 : v < T := by omega
        have p60 : (((L + 1 : Nat) : Int) : Int) + 1 = (((L + 1) + 1 : Nat) : Int) ∧ -9000000000000000000 ≤ (((L + 1) + 1 : Nat) : Int) ∧ (((L + 1) + 1 : Nat) : Int) ≤ 9000000000000000000 := by omega
        have p61 : (((L + 1) + 1 : Nat) : Int) + 1 = (((L + 1) + 1 + 1 : Nat) : Int) ∧ -9000000000000000000 ≤ (((L + 1) + 1 + 1 : Nat) : Int) ∧ (((L + 1) + 1 + 1 : Nat) : Int) ≤ 9000000000000000000 := by omega
        have p62 : (L : Int) + 1 + 1 = ((L + 1 + 1 : Nat) : Int) ∧ -9000000000000000000 ≤ ((L + 1 + 1 : Nat) : Int) ∧ ((L + 1 + 1 : Nat) : Int) ≤ 9000000000000000000 := by omega
        have p63 : (L : Int) + 1 + 1 + 1 = ((L + 1 + 1 + 1 : Nat) : Int) ∧ -9000000000000000000 ≤ ((L + 1 + 1 + 1 : Nat) : Int) ∧ ((L + 1 + 1 + 1 : Nat) : Int) ≤ 9000000000000000000 := by omega
        have p64 : ((L + 1 + 1 : Nat) : Int) + 1 = ((L + 1 + 1 + 1 : Nat) : Int) ∧ -9000000000000000000 ≤ ((L + 1 + 1 + 1 : Nat) : Int) ∧ ((L + 1 + 1 + 1 : Nat) : Int) ≤ 9000000000000000000 := by omega
        have t43 := eq_true p43
        have d43 : decide ((0 : Int) < (d : Int)) = true := decide_eq_true p43
        have t44 := eq_true p44
        have d44 : decide (0 < d) = true := decide_eq_true p44
        have t45 := eq_true p45
        have d45 : decide ((d : Int) < 19) = true := decide_eq_true p45
        have t46 := eq_true p46
        have d46 : decide ((0 : Int) ≤ (d : Int)) = true := decide_eq_true p46
        have t47 := eq_true p47
        have d47 : decide (d < 19) = true := decide_eq_true p47
        have t48 := eq_false p48
        have d48 : decide (((L + 1 : Nat) : Int) < (d : Int)) = false := decide_eq_false p48
        have t49 := eq_false p49
        have d49 : decide ((L : Int) + 1 < (d : Int)) = false := decide_eq_false p49
        have t50 := eq_false p50
        have d50 : decide (L + 1 < d) = false := decide_eq_false p50
        have t51 := eq_false p51
        have d51 : decide ((0 : Int) < -(v : Int)) = false := decide_eq_false p51
        have t52 := eq_true p52
        have d52 : decide (-(v : Int) < 0) = true := decide_eq_true p52
        have t53 := eq_false p53
        have d53 : decide ((v : Int) < 0) = false := decide_eq_false p53
        have t54 := eq_true p54
        have d54 : decide ((0 : Int) < (v : Int)) = true := decide_eq_true p54
        have t55 := eq_true p55
        have d55 : decide (0 < v) = true := decide_eq_true p55
        have t56 := w64 p56.1 p56.2.1 p56.2.2
        have t57 := eq_true p57
        have d57 : decide (-(T : Int) < -(v : Int)) = true := decide_eq_true p57
        have t58 := eq_true p58
        have d58 : decide ((v : Int) < (T : Int)) = true := decide_eq_true p58
        have t59 := eq_true p59
        have d59 : decide (v < T) = true := decide_eq_true p59
        have ma := w64 p60.1 p60.2.1 p60.2.2
        have mb := w64 p61.1 p61.2.1 p61.2.2
        have mc := w64 p62.1 p62.2.1 p62.2.2
        have md := w64 p63.1 p63.2.1 p63.2.2
        have me := w64 p64.1 p64.2.1 p64.2.2
        clear hV hD hE hT p43 p44 p45 p46 p47 p48 p49 p50 p51 p52 p53 p54 p55 p56 p57 p58 p59 p60 p61 p62 p63 p64
        clear h0 ha hb9
        go_upto_if 57 with (go_at_call 29; with_reducible refine (HLI.out _).mono ?_; rintro e w' ⟨rfl, ⟨nd, rfl⟩⟩)
        go_cut [9, 10] from 58 to 85 (fun v9 v10 wc => v9 = .int .i64 ((((L + 1) + 1 + 1) : Nat) : Int) ∧ Aside0 (∃ nd, wc = W.drewN nd))
        case first =>
          have hx := HTc.out
          go_wp2_with (fail)
          go_meet
          case rel => exact ⟨by first | with_reducible rfl | (simp only [ma, mb, mc, md, me]; done) | exact congrArg (Value.int IntKind.i64) (by simp; done) | rfl, ⟨nd, rfl⟩⟩
        case rest =>
          obtain ⟨rfl, HX⟩ := hcut
          obtain ⟨nd2, rfl⟩ := HX.out
          clear t43 d43 t44 d44 t45 d45 t46 d46 t47 d47 t48 d48 t49 d49 t50 d50 t51 d51 t52 d52 t53 d53 t54 d54 t55 d55 t56 t57 d57 t58 d58 t59 d59 ma mb mc md me
          refine use_k (by assumption) ?_
          refine Code.wp_mono (bodyPost_mono ?_) (part10n (sg := (!decide (L < d))) _ (HR.out.drewN _) HLe.out HTk.out HMx.out HB.out HBs.out (pw_below_drewN HW0.out _) HNN.out HV.out (by have := HD.out; omega) HLN.out)
          rintro e w' ⟨v', rfl, k1, k2⟩
          exact ⟨v', _, rfl, k1, k2⟩
      · have hn : ((L + 1) + 1) = ((!decide (L < d))).toNat + (text v d).length := by
          have hE := HE.out
          have hD := HD.out
          have htl := HTL.out
          rw [htl]
          rw [if_neg (by omega), if_neg hb9]
          by_cases hLd : L < d
          · rw [if_pos hLd, decide_eq_true hLd]; simp only [Bool.not_true, Bool.toNat_false]; omega
          · rw [if_neg hLd, decide_eq_false hLd]; simp only [Bool.not_false, Bool.toNat_true]; omega
        have HNN := Aside0.mk hn
        have hln : l.length + ((L + 1) + 1) ≤ 1000000000000 := by have hE := HE.out; have hD := HD.out; omega
        have HLN := Aside0.mk hln
        clear hn hln
        have hV := HV.out
        have hD := HD.out
        have hE := HE.out
        have hT := HTT.out
        have p65 : (0 : Int) < (d : Int) := by omega
        have p66 : 0 < d := by omega
        have p67 : (d : Int) < 19 := by omega
        have p68 : (0 : Int) ≤ (d : Int) := by omega
        have p69 : d < 19 := by omega
        have p70 : ¬ (((L + 1 : Nat) : Int) < (d : Int)) := by omega
        have p71 : ¬ ((L : Int) + 1 < (d : Int)) := by omega
        have p72 : ¬ (L + 1 < d) := by omega
        have p73 : ¬ ((0 : Int) < -(v : Int)) := by omega
        have p74 : -(v : Int) < 0 := by omega
        have p75 : ¬ ((v : Int) < 0) := by omega
        have p76 : (0 : Int) < (v : Int) := by omega
        have p77 : 0 < v := by omega
        have p78 : -(T : Int) = -(T : Int) ∧ -9000000000000000000 ≤ -(T : Int) ∧ -(T : Int) ≤ 9000000000000000000 := by omega
        have p79 : ¬ (-(T : Int) < -(v : Int)) := by omega
        have p80 : ¬ ((v : Int) < (T : Int)) := by omega
        have p81 : ¬ (v < T) := by omega
        have p82 : (((L + 1 : Nat) : Int) : Int) + 1 = (((L + 1) + 1 : Nat) : Int) ∧ -9000000000000000000 ≤ (((L + 1) + 1 : Nat) : Int) ∧ (((L + 1) + 1 : Nat) : Int) ≤ 9000000000000000000 := by omega
        have p83 : (((L + 1) + 1 : Nat) : Int) + 1 = (((L + 1) + 1 + 1 : Nat) : Int) ∧ -9000000000000000000 ≤ (((L + 1) + 1 + 1 : Nat) : Int) ∧ (((L + 1) + 1 + 1 : Nat) : Int) ≤ 9000000000000000000 := by omega
        have p84 : (L : Int) + 1 + 1 = ((L + 1 + 1 : Nat) : Int) ∧ -9000000000000000000 ≤ ((L + 1 + 1 : Nat) : Int) ∧ ((L + 1 + 1 : Nat) : Int) ≤ 9000000000000000000 := by omega
        have p85 : (L : Int) + 1 + 1 + 1 = ((L + 1 + 1 + 1 : Nat) : Int) ∧ -9000000000000000000 ≤ ((L + 1 + 1 + 1 : Nat) : Int) ∧ ((L + 1 + 1 + 1 : Nat) : Int) ≤ 9000000000000000000 := by omega
        have p86 : ((L + 1 + 1 : Nat) : Int) + 1 = ((L + 1 + 1 + 1 : Nat) : Int) ∧ -9000000000000000000 ≤ ((L + 1 + 1 + 1 : Nat) : Int) ∧ ((L + 1 + 1 + 1 : Nat) : Int) ≤ 9000000000000000000 := by omega
        have t65 := eq_true p65
        have d65 : decide ((0 : Int) < (d : Int)) = true := decide_eq_true p65
        have t66 := eq_true p66
        have d66 : decide (0 < d) = true := decide_eq_true p66
        have t67 := eq_true p67
        have d67 : decide ((d : Int) < 19) = true := decide_eq_true p67
        have t68 := eq_true p68
        have d68 : decide ((0 : Int) ≤ (d : Int)) = true := decide_eq_true p68
        have t69 := eq_true p69
        have d69 : decide (d < 19) = true := decide_eq_true p69
        have t70 := eq_false p70
        have d70 : decide (((L + 1 : Nat) : Int) < (d : Int)) = false := decide_eq_false p70
        have t71 := eq_false p71
        have d71 : decide ((L : Int) + 1 < (d : Int)) = false := decide_eq_false p71
        have t72 := eq_false p72
        have d72 : decide (L + 1 < d) = false := decide_eq_false p72
        have t73 := eq_false p73
        have d73 : decide ((0 : Int) < -(v : Int)) = false := decide_eq_false p73
        have t74 := eq_true p74
        have d74 : decide (-(v : Int) < 0) = true := decide_eq_true p74
        have t75 := eq_false p75
        have d75 : decide ((v : Int) < 0) = false := decide_eq_false p75
        have t76 := eq_true p76
        have d76 : decide ((0 : Int) < (v : Int)) = true := decide_eq_true p76
        have t77 := eq_true p77
        have d77 : decide (0 < v) = true := decide_eq_true p77
        have t78 := w64 p78.1 p78.2.1 p78.2.2
        have t79 := eq_false p79
        have d79 : decide (-(T : Int) < -(v : Int)) = false := decide_eq_false p79
        have t80 := eq_false p80
        have d80 : decide ((v : Int) < (T : Int)) = false := decide_eq_false p80
        have t81 := eq_false p81
        have d81 : decide (v < T) = false := decide_eq_false p81
        have ma := w64 p82.1 p82.2.1 p82.2.2
        have mb := w64 p83.1 p83.2.1 p83.2.2
        have mc := w64 p84.1 p84.2.1 p84.2.2
        have md := w64 p85.1 p85.2.1 p85.2.2
        have me := w64 p86.1 p86.2.1 p86.2.2
        clear hV hD hE hT p65 p66 p67 p68 p69 p70 p71 p72 p73 p74 p75 p76 p77 p78 p79 p80 p81 p82 p83 p84 p85 p86
        clear h0 ha hb9
        go_upto_if 57 with (go_at_call 29; with_reducible refine (HLI.out _).mono ?_; rintro e w' ⟨rfl, ⟨nd, rfl⟩⟩)
        go_cut [9, 10] from 58 to 85 (fun v9 v10 wc => v9 = .int .i64 ((((L + 1) + 1) : Nat) : Int) ∧ Aside0 (∃ nd, wc = W.drewN nd))
        case first =>
          have hx := HTc.out
          go_wp2_with (fail)
          go_meet
          case rel => exact ⟨by first | with_reducible rfl | (simp only [ma, mb, mc, md, me]; done) | exact congrArg (Value.int IntKind.i64) (by simp; done) | rfl, ⟨nd, rfl⟩⟩
        case rest =>
          obtain ⟨rfl, HX⟩ := hcut
          obtain ⟨nd2, rfl⟩ := HX.out
          clear t65 d65 t66 d66 t67 d67 t68 d68 t69 d69 t70 d70 t71 d71 t72 d72 t73 d73 t74 d74 t75 d75 t76 d76 t77 d77 t78 t79 d79 t80 d80 t81 d81 ma mb mc md me
          refine use_k (by assumption) ?_
          refine Code.wp_mono (bodyPost_mono ?_) (part10n (sg := (!decide (L < d))) _ (HR.out.drewN _) HLe.out HTk.out HMx.out HB.out HBs.out (pw_below_drewN HW0.out _) HNN.out HV.out (by have := HD.out; omega) HLN.out)
          rintro e w' ⟨v', rfl, k1, k2⟩
          exact ⟨v', _, rfl, k1, k2⟩
end Go.Proofs.YtmpgbakkpbmpiaaDoor.AD
/- AppendDecimal below nought: noughts at the end taken off. -/
namespace Go.Proofs.YtmpgbakkpbmpiaaDoor.AD
open Go.RowKit Go.Proofs.YtmpgbakkpbmpiaaDoorW.PrintWords Go.Proofs.YtmpgbakkpbmpiaaDoorW.PrintLast Go.Proofs.YtmpgbakkpbmpiaaDoorW.PrintMore
open PFl Brow Dig AF
set_option linter.unusedVariables false
set_option linter.unusedSimpArgs false

set_option maxHeartbeats 4000000 in
set_option maxRecDepth 100000 in
theorem part6n {g d v base : Nat} {full l : List Int} {w0 : World} {u1 u3 u4 u5 u6 u8 u9 u10 u11 u12 u13 u14 u15 u16 u17 u18 u19 u20 u21 u22 u23 u24 u25 u26 u27 u28 u29 u30 u31 u32 u33 u34 u35 u36 u37 u38 u39 u40 u41 u42 u43 u44 u45 u46 u47 u48 u49 u50 u51 u52 u53 u54 u55 u56 u57 u58 u59 u60 u61 u62 u63 u64 u65 u66 u67 u68 u69 u70 u71 u72 u73 u74 u75 u76 u77 u78 u79 u80 u81 u82 u83 u84 u85 u86 u87 u88 u89 u90 u91 u92 u93 u94 u95 u96 u97 u98 u99 u100 u101 u102 u103 u104 u105 u106 u107 u108 u109 u110 u111 u112 u113 u114 u115 u116 u117 u118 u119 u120 u121 u122 u123 u124 u125 u126 u127 u128 u129 u130 u131 u132 u133 u134 u135 u136 u137 u138 u139 u140 u141 u142 u143 u144 u145 u146 u147 u148 u149 u150 u151 u152 u153 u154 u155 u156 u157 u158 u159 u160 u161 u162 u163 u164 : Value} (W : World) (hr : Row 5 W g full) (hl : l.length ≤ full.length) (htk : full.take l.length = l) (hmx : full.length ≤ maxLen) (hb : base ≤ g) (hbs : base ≤ W.heap.size) (hw0 : Below base w0 W) (hv : 0 < v ∧ v < 9000000000000000000) (hd : d < 19) (hln : l.length ≤ 100000000000) (ht : ∀ i < 19, W.cell? ⟨1, i, none⟩ = some (.int .i64 ((10 ^ i : Nat) : Int))) :
    Code.wp Tryd.prog (rest 6 body21) (bodyPost Tryd.prog Tryd.f21 fun e w' => ∃ (v' : Value) (sg : Bool) (n d' : Nat), e = .returned v' ∧ n ≤ v ∧ d' ≤ d ∧ Bs 5 w' base v' (l ++ sgn sg ++ text n d') ∧ Below base w0 w') ⟨#[.slice (some ⟨g, 0, none⟩) l.length full.length, u1, .int .i64 (d : Int), u3, u4, u5, u6, .int .i64 (-(v : Int)), u8, u9, u10, u11, u12, u13, u14, u15, u16, u17, u18, u19, u20, u21, u22, u23, u24, u25, u26, u27, u28, u29, u30, u31, u32, u33, u34, u35, u36, u37, u38, u39, u40, u41, u42, u43, u44, u45, u46, u47, u48, u49, u50, u51, u52, u53, u54, u55, u56, u57, u58, u59, u60, u61, u62, u63, u64, u65, u66, u67, u68, u69, u70, u71, u72, u73, u74, u75, u76, u77, u78, u79, u80, u81, u82, u83, u84, u85, u86, u87, u88, u89, u90, u91, u92, u93, u94, u95, u96, u97, u98, u99, u100, u101, u102, u103, u104, u105, u106, u107, u108, u109, u110, u111, u112, u113, u114, u115, u116, u117, u118, u119, u120, u121, u122, u123, u124, u125, u126, u127, u128, u129, u130, u131, u132, u133, u134, u135, u136, u137, u138, u139, u140, u141, u142, u143, u144, u145, u146, u147, u148, u149, u150, u151, u152, u153, u154, u155, u156, u157, u158, u159, u160, u161, u162, u163, u164], []⟩ W := by
  conv => arg 2; whnf
  have HR := Aside0.mk hr
  have HLe := Aside0.mk hl
  have HTk := Aside0.mk htk
  have HMx := Aside0.mk hmx
  have HB := Aside0.mk hb
  have HBs := Aside0.mk hbs
  have HW0 := Aside0.mk hw0
  have HV := Aside0.mk hv
  have HD := Aside0.mk hd
  have HLn := Aside0.mk hln
  have HT := Aside0.mk ht
  clear hr hl htk hmx hb hbs hw0 hv hd hln ht
  have z1 : (-(v : Int) == 0) = false := beq_eq_false_iff_ne.mpr (by have := HV.out.1; omega)
  have z2 := eq_false (show ¬ -(v : Int) = 0 by have := HV.out.1; omega)
  have z3 := eq_false (show ¬ (v : Int) = 0 by have := HV.out.1; omega)
  have z4 := eq_false (show ¬ v = 0 by have := HV.out.1; omega)
  go_upto_block 0 with (fail)
  clear z1 z2 z3 z4
  go_cut [2, 7] (fun v2 v7 wc => ∃ n d' : Nat, v2 = .int .i64 (d' : Int) ∧ v7 = .int .i64 (-(n : Int)) ∧ Aside0 (n ≤ v ∧ d' ≤ d ∧ 0 < n ∧ wc = W))
  case first =>
    go_wp2_with (fail)
    go_loopg [2, 7] d (fun kq v2 v7 w' => ∃ n : Nat, v2 = .int .i64 (kq : Int) ∧ v7 = .int .i64 (-(n : Int)) ∧ Aside0 (n ≤ v ∧ kq ≤ d ∧ 0 < n) ∧ w' = W)
    case atStart => exact ⟨v, rfl, rfl, ⟨Nat.le_refl _, Nat.le_refl _, HV.out.1⟩, rfl⟩
    case round =>
      obtain ⟨n, rfl, rfl, HI, rfl⟩ := hrel
      cases gk with
      | zero =>
        go_wp2_with (fail)
        go_meet
        case rel => exact ⟨n, 0, rfl, rfl, ⟨HI.out.1, HI.out.2.1, HI.out.2.2, rfl⟩⟩
      | succ k1 =>
        have a1 : decide ((0 : Int) < ((k1 + 1 : Nat) : Int)) = true := decide_eq_true (by omega)
        have a2 := eq_true (show (0 : Int) < ((k1 + 1 : Nat) : Int) by omega)
        obtain ⟨kk, hkk⟩ : ∃ kk : Nat, kk = k1 + 1 := ⟨_, rfl⟩
        by_cases hz : n % 10 = 0
        · obtain ⟨y, hy⟩ : ∃ y : Nat, n = 10 * y := ⟨n / 10, by omega⟩
          have m1 : Int.tmod (-(n : Int)) 10 = 0 := by rw [Int.neg_tmod, Int.tmod_eq_emod_of_nonneg (by omega)]; omega
          have m2 : Int.tdiv (-(n : Int)) 10 = -(y : Int) := by rw [Int.neg_tdiv, Int.tdiv_eq_ediv_of_nonneg (by omega)]; omega
          have m3 : wrap64 (k1 : Int) = (k1 : Int) := small64 (by have := HI.out; have := HD.out; omega)
          have m4 : wrap64 (-(y : Int)) = -(y : Int) := w64 rfl (by have := HI.out; have := HV.out; omega) (by omega)
          have HY := Aside0.mk hy
          clear hy hz hkk
          go_wp2_with (fail)
          go_roundg k1
          case measure => clear m1 m2 m3 m4; omega
          case rel =>
            have hy := HY.out
            have hI := HI.out
            exact ⟨y, by first | with_reducible rfl | (rw [m3]; done), by first | with_reducible rfl | (simp only [m2, m4]; done), ⟨by clear m1 m2 m3 m4; omega, by clear m1 m2 m3 m4; omega, by clear m1 m2 m3 m4; omega⟩, rfl⟩
        · have m0 : ¬ (Int.tmod (-(n : Int)) 10 = 0) := by rw [Int.neg_tmod, Int.tmod_eq_emod_of_nonneg (by omega)]; omega
          have m1 := eq_false m0
          have m2 : (Int.tmod (-(n : Int)) 10 == 0) = false := beq_eq_false_iff_ne.mpr m0
          have m5 := eq_false (show ¬ (-((n : Int) % 10) = 0) by omega)
          have m6 : (-((n : Int) % 10) == 0) = false := beq_eq_false_iff_ne.mpr (by omega)
          have m7 := eq_false (show ¬ ((n : Int) % 10 = 0) by omega)
          clear hz hkk m0
          go_wp2_with (fail)
          go_meet
          case rel => exact ⟨n, k1 + 1, rfl, rfl, ⟨HI.out.1, HI.out.2.1, HI.out.2.2, rfl⟩⟩
  case rest =>
    obtain ⟨n, d', rfl, rfl, HH⟩ := hcut
    obtain ⟨h1, h2, h3, rfl⟩ := HH.out
    refine use_k (by assumption) ?_
    have hv' : 0 < n ∧ n < 9000000000000000000 := ⟨h3, by have := HV.out.2; omega⟩
    have hd' : d' < 19 := by have := HD.out; omega
    refine Code.wp_mono (bodyPost_mono ?_) (part8n _ HR.out HLe.out HTk.out HMx.out HB.out HBs.out HW0.out hv' hd' HLn.out (HT.out d' hd'))
    rintro e w' ⟨v', sg, rfl, k1, k2⟩
    exact ⟨v', sg, n, d', rfl, h1, h2, k1, k2⟩
end Go.Proofs.YtmpgbakkpbmpiaaDoor.AD
/- AppendDecimal of N / 1024, or minus that, or nought: a number's text is appended; WriteDecimal. -/
namespace Go.Proofs.YtmpgbakkpbmpiaaDoor.AD
open Go.RowKit Go.Proofs.YtmpgbakkpbmpiaaDoorW.PrintWords Go.Proofs.YtmpgbakkpbmpiaaDoorW.PrintLast Go.Proofs.YtmpgbakkpbmpiaaDoorW.PrintMore
open PFl Brow Dig AF Flo
open Real (SB)
set_option linter.unusedVariables false
set_option linter.unusedSimpArgs false

theorem frac_DG : ∀ d m, DG (frac d m)
  | 0, _ => DG.nil
  | d + 1, m => by rw [frac]; exact (frac_DG d (m / 10)).append (DG.cons (by omega) DG.nil)
theorem text_cap (n d : Nat) (hn : n < 9223372036854775808) (hd : d < 19) : (text n d).length ≤ 1000000000000 := by
  have h1 := digs_25 (n := n / 10 ^ d) (Nat.lt_of_le_of_lt (Nat.div_le_self _ _) hn)
  unfold text
  rw [List.length_append]
  split
  · simp only [List.length_nil]; omega
  · rw [List.length_cons, frac_len]; omega
theorem text_num (sg : Bool) (n d : Nat) (hn : n < 9223372036854775808) (hd : d < 19) : NumT (sgn sg ++ text n d) := by
  refine ⟨sg, text n d, [], by rw [List.append_nil], ⟨text_cap n d hn hd, digs (n / 10 ^ d), DG.digs _, ?_⟩, .inl rfl⟩
  by_cases h : d = 0
  · left
    subst h
    refine ⟨?_, by simp [text]⟩
    intro hnil
    have := (digs_len (n / 10 ^ 0)).1
    rw [hnil] at this
    exact absurd this (by decide)
  · right
    refine ⟨frac d (n % 10 ^ d), frac_DG _ _, ?_, by simp [text, h]⟩
    intro hnil
    have := frac_len d (n % 10 ^ d)
    rw [hnil] at this
    simp at this
    omega
set_option maxHeartbeats 4000000 in
set_option maxRecDepth 100000 in
theorem dec_some (w : World) (g : Nat) (full l : List Int) (base d f gg h : Nat) (num : Int) (hr : Row 5 w g full) (hl : l.length ≤ full.length) (htk : full.take l.length = l) (hmx : full.length ≤ maxLen) (hb : base ≤ g) (hbs : base ≤ w.heap.size) (hln : l.length ≤ 100000000000)
    (hd : d < 10) (hlaid : AF.Laid w) (hnum : num ≠ 0) (hnum2 : -9000000000000000000 < num ∧ num < 9000000000000000000)
    (hnan : ∀ W : World, Calls Tryd.prog 28 #[.float .f64 f] W fun e w' => e = .returned (.bool false) ∧ Drawn0 W w')
    (hinf : ∀ W : World, Calls Tryd.prog 25 #[.float .f64 f, .int .i64 0] W fun e w' => e = .returned (.bool false) ∧ Drawn0 W w')
    (e1 : FloatKind.f64.format.mul f (Real.pw d) = some gg)
    (e2 : (FloatKind.f64.format.order 0 gg = some .lt ∨ FloatKind.f64.format.order 0 gg = some .eq) ∧ FloatKind.f64.format.add gg 4602678819172646912 = some h ∨ FloatKind.f64.format.order 0 gg = some .gt ∧ FloatKind.f64.format.sub gg 4602678819172646912 = some h)
    (hcv : ∀ W : World, (convert 25 2 (.float .f64 h)).run Tryd.prog W = .ok (.int .i64 num) W) :
    Calls Tryd.prog 21 #[.slice (some ⟨g, 0, none⟩) l.length full.length, .float .f64 f, .int .i64 d] w fun e w' =>
      ∃ (v' : Value) (X : List Int), e = .returned v' ∧ NumT X ∧ Bs 5 w' base v' (l ++ X) ∧ Below base w w' := by
  have HNan := Aside0.mk hnan
  have HInf := Aside0.mk hinf
  have HPow := Aside0.mk (fun (W : World) (hW : W.heap = w.heap) => Pow.pow_pos W _ _ _ d (by omega) ((hlaid.tabs.of_heap hW).t3 (d / 32) (by omega)) ((hlaid.tabs.of_heap hW).t4 (d % 32) (by omega)) (Real.pw_tab d hd).1)
  have hmul : ∀ W : World, (binOp .mul 25 (.float .f64 f) (.float .f64 (Real.pw d))).run Tryd.prog W = .ok (.float .f64 gg) W := fun W => run_float_arith W .mul 25 .f64 _ _ gg e1
  have d1 := eq_false (show ¬ (d : Int) < 0 by omega)
  have d2 := eq_false (show ¬ (17 : Int) < (d : Int) by omega)
  have d3 : decide ((d : Int) < 0) = false := decide_eq_false (by omega)
  have d4 : decide ((17 : Int) < (d : Int)) = false := decide_eq_false (by omega)
  have d5 := eq_false (show ¬ 17 < d by omega)
  have HArg := Aside0.mk (And.intro hr (And.intro hl (And.intro htk (And.intro hmx (And.intro hb (And.intro hbs hln))))))
  have HNum := Aside0.mk (And.intro hnum (And.intro hnum2 (And.intro hd hlaid)))
  clear e1 hr hl htk hmx hb hbs hln hd hlaid hnan hinf hnum hnum2
  go_enter Tryd.func21, Tryd.ntmps21
  go_upto_if 29 with (first | (go_at_call 28; refine (HNan.out _).mono ?_; rintro e w' ⟨rfl, ⟨nd, rfl⟩⟩) | (go_at_call 25; refine (HInf.out _).mono ?_; rintro e w' ⟨rfl, ⟨nd2, rfl⟩⟩) | (go_at_call 24; refine (HPow.out (World.drewN w _) rfl).mono ?_; rintro e w' ⟨rfl, ⟨nd3, rfl⟩⟩))
  go_cut [1] (fun v1 wc => v1 = .float .f64 h ∧ Aside0 (∃ m, wc = w.drewN m))
  case first =>
    rcases e2 with ⟨ho | ho, e3⟩ | ⟨ho, e3⟩
    · have hadd : ∀ W : World, (binOp .add 25 (.float .f64 gg) (.float .f64 4602678819172646912)).run Tryd.prog W = .ok (.float .f64 h) W := fun W => run_float_arith W .add 25 .f64 _ _ h e3
      rw [show (FloatKind.f64.format.order 0 gg == some Ordering.lt || FloatKind.f64.format.order 0 gg == some Ordering.eq) = true by rw [ho]; rfl]
      go_wp2_with (fail)
      go_meet
      case rel => exact ⟨rfl, ⟨_, rfl⟩⟩
    · have hadd : ∀ W : World, (binOp .add 25 (.float .f64 gg) (.float .f64 4602678819172646912)).run Tryd.prog W = .ok (.float .f64 h) W := fun W => run_float_arith W .add 25 .f64 _ _ h e3
      rw [show (FloatKind.f64.format.order 0 gg == some Ordering.lt || FloatKind.f64.format.order 0 gg == some Ordering.eq) = true by rw [ho]; rfl]
      go_wp2_with (fail)
      go_meet
      case rel => exact ⟨rfl, ⟨_, rfl⟩⟩
    · have hsub : ∀ W : World, (binOp .sub 25 (.float .f64 gg) (.float .f64 4602678819172646912)).run Tryd.prog W = .ok (.float .f64 h) W := fun W => run_float_arith W .sub 25 .f64 _ _ h e3
      rw [show (FloatKind.f64.format.order 0 gg == some Ordering.lt || FloatKind.f64.format.order 0 gg == some Ordering.eq) = false by rw [ho]; rfl]
      go_wp2_with (fail)
      go_meet
      case rel => exact ⟨rfl, ⟨_, rfl⟩⟩
  case rest =>
    clear e2
    obtain ⟨rfl, HX⟩ := hcut
    obtain ⟨m, rfl⟩ := HX.out
    go_upto_region 9 with (fail)
    go_cut [7] (fun v7 wc => v7 = .int .i64 num ∧ Aside0 (wc = w.drewN m))
    case first =>
      go_wp2_with (fail)
      go_meet
      case rel => exact ⟨rfl, ⟨rfl⟩⟩
    case rest =>
      obtain ⟨rfl, HW⟩ := hcut
      obtain rfl := HW.out
      obtain ⟨hr, hl, htk, hmx, hb, hbs, hln⟩ := HArg.out
      obtain ⟨hnum, hnum2, hd, hlaid⟩ := HNum.out
      refine use_k (by assumption) ?_
      rcases Int.lt_or_le num 0 with hn | hn
      · obtain ⟨v, rfl⟩ : ∃ v : Nat, num = -(v : Int) := ⟨num.natAbs, by omega⟩
        refine Code.wp_mono (bodyPost_mono ?_) (part6n _ (hr.drewN m) hl htk hmx hb hbs (w0 := w) (pw_below_drewN (Below.refl _ _) m) (by omega) (by omega) hln hlaid.t1)
        rintro e w' ⟨v', sg, n, d', rfl, z1, z2, k1, k2⟩
        exact ⟨v', sgn sg ++ text n d', rfl, text_num sg n d' (by omega) (by omega), by rw [← List.append_assoc]; exact k1, k2⟩
      · obtain ⟨v, rfl⟩ := Int.eq_ofNat_of_zero_le hn
        refine Code.wp_mono (bodyPost_mono ?_) (part6 _ (hr.drewN m) hl htk hmx hb hbs (w0 := w) (pw_below_drewN (Below.refl _ _) m) (by omega) (by omega) hln hlaid.t1)
        rintro e w' ⟨v', n, d', k, rfl, z1, z2, -, k1, k2⟩
        have z3 : n ≤ v := by rw [z1]; exact Nat.le_mul_of_pos_right _ (Nat.pow_pos (by decide))
        exact ⟨v', text n d', rfl, text_num false n d' (by omega) (by omega), k1, k2⟩
theorem two_pow_le {a b c : Nat} (h : a ≤ b + c) : 2 ^ a ≤ 2 ^ b * 2 ^ c := by rw [← Nat.pow_add]; exact Nat.pow_le_pow_right (by decide) h
theorem two_pow_lt {Q a b c k : Nat} (h : Q < 2 ^ a) (hk : k = a + b + c) : Q * 2 ^ b * 2 ^ c < 2 ^ k := by
  rw [hk, Nat.pow_add, Nat.pow_add]
  exact Nat.mul_lt_mul_of_pos_right (Nat.mul_lt_mul_of_pos_right h (Nat.two_pow_pos _)) (Nat.two_pow_pos _)
theorem two_pow_lt2 {X a b k : Nat} (h : X < 2 ^ a * 2 ^ b) (hk : k = a + b) : X < 2 ^ k := by rw [hk, Nat.pow_add]; exact h
/-- The rounded number: some whole number. -/
theorem num_of {fa N d : Nat} (hv : Real.Val fa (N * 2 ^ 190)) (h0 : 0 < N) (hN : N < 1099511627776) (hd : d < 9) :
    ∃ gg h vg vh : Nat, Ieee.double.mul fa (Real.pw d) = some gg ∧ Real.Val gg vg ∧ 0 < vg ∧ Ieee.double.add gg 4602678819172646912 = some h ∧ Real.Val h vh ∧ vh < 2 ^ 62 * 2 ^ 200 ∧ vh / 2 ^ 200 < 9000000000000000000 := by
  have hT : 10 ^ d ≤ 100000000 := by
    have := Nat.pow_le_pow_right (n := 10) (by decide) (show d ≤ 8 by omega)
    simpa using this
  have hT0 : 0 < 10 ^ d := Nat.pow_pos (by decide)
  have hw := Real.pw_val d (show d < 10 by omega)
  generalize 10 ^ d = T at *
  generalize Real.pw d = W at *
  have p52 : (2 : Nat) ^ 52 = 4503599627370496 := by decide
  have hNT : N * T < 2 ^ 67 := by
    have h1 : N * T ≤ 1099511627776 * 100000000 := Nat.mul_le_mul (Nat.le_of_lt hN) hT
    have h2 : (2 : Nat) ^ 67 = 147573952589676412928 := by decide
    omega
  have e1 : N * 2 ^ 190 * (T * 2 ^ 200) = N * T * 2 ^ 190 * 2 ^ 200 := by ac_rfl
  obtain ⟨gg, vg, hg, hgv, hgn⟩ := Real.mul_val hv hw (by
    rw [e1]
    have h1 : 1 * 2 ^ 190 * 2 ^ 200 ≤ N * T * 2 ^ 190 * 2 ^ 200 := Nat.mul_le_mul_right _ (Nat.mul_le_mul_right _ (Nat.mul_pos h0 hT0))
    refine Nat.le_trans ?_ h1
    rw [Nat.one_mul]
    exact two_pow_le (by omega)) 457 (by omega) (by
    rw [e1]
    exact two_pow_lt (k := 457) hNT rfl)
  rw [e1] at hgn
  have hU : 0 < 2 ^ 200 := Nat.two_pow_pos 200
  have g1 : 9007199254740992 * vg ≤ 9007199254740992 * (N * T * 2 ^ 190) + N * T * 2 ^ 190 := by
    refine Nat.le_of_mul_le_mul_right ?_ hU
    rw [Nat.add_mul, Nat.mul_assoc, Nat.mul_assoc 9007199254740992 (N * T * 2 ^ 190)]
    exact hgn.1
  have g2 : 9007199254740992 * (N * T * 2 ^ 190) ≤ 9007199254740992 * vg + N * T * 2 ^ 190 := by
    refine Nat.le_of_mul_le_mul_right ?_ hU
    rw [Nat.add_mul, Nat.mul_assoc, Nat.mul_assoc 9007199254740992 vg]
    exact hgn.2.1
  have hNT0 : 0 < N * T := Nat.mul_pos h0 hT0
  have p190 : (2 : Nat) ^ 190 = 1569275433846670190958947355801916604025588861116008628224 := by decide
  have p199 : (2 : Nat) ^ 199 = 803469022129495137770981046170581301261101496891396417650688 := by decide
  have p200 : (2 : Nat) ^ 200 = 1606938044258990275541962092341162602522202993782792835301376 := by decide
  have p255 : (2 : Nat) ^ 255 = 57896044618658097711785492504343953926634992332820282019728792003956564819968 := by decide
  have hNT2 : N * T ≤ 109951162777600000000 := by
    have h1 : N * T ≤ 1099511627776 * 100000000 := Nat.mul_le_mul (Nat.le_of_lt hN) hT
    omega
  generalize N * T = Q at *
  rw [p190] at g1 g2
  have hv0 : 0 < vg := by omega
  have hv9 : vg ≤ 200000000000000000000 * 1569275433846670190958947355801916604025588861116008628224 := by omega
  obtain ⟨h, vh, hh, hhv, hhn⟩ := Real.add_val hgv Real.half_val (by rw [p52, p199]; omega) 260 (by omega) (by
    refine two_pow_lt2 (k := 260) (a := 255) (b := 5) ?_ rfl
    rw [p199, p255]; omega)
  have hh1 := hhn.1
  rw [p199] at hh1
  have hvh : vh ≤ 400000000000000000000 * 1569275433846670190958947355801916604025588861116008628224 + 3 * 803469022129495137770981046170581301261101496891396417650688 := by omega
  refine ⟨gg, h, vg, vh, hg, hgv, hv0, hh, hhv, ?_, ?_⟩
  · rw [p200, show (2 : Nat) ^ 62 = 4611686018427387904 by decide]; omega
  · rw [p200]; omega
set_option maxHeartbeats 1000000
theorem dec_any (w : World) (g : Nat) (full l : List Int) (base d f : Nat) (hr : Row 5 w g full) (hl : l.length ≤ full.length) (htk : full.take l.length = l) (hmx : full.length ≤ maxLen) (hb : base ≤ g) (hbs : base ≤ w.heap.size) (hln : l.length ≤ 100000000000)
    (hd : d ≤ 8) (hf : FloZ f) (hlaid : AF.Laid w) :
    Calls Tryd.prog 21 #[.slice (some ⟨g, 0, none⟩) l.length full.length, .float .f64 f, .int .i64 d] w fun e w' =>
      ∃ (v' : Value) (X : List Int), e = .returned v' ∧ NumT X ∧ Bs 5 w' base v' (l ++ X) ∧ Below base w w' := by
  have hz : ∀ gg h : Nat, (∀ W : World, Calls Tryd.prog 28 #[.float .f64 f] W fun e w' => e = .returned (.bool false) ∧ Drawn0 W w') →
      (∀ W : World, Calls Tryd.prog 25 #[.float .f64 f, .int .i64 0] W fun e w' => e = .returned (.bool false) ∧ Drawn0 W w') →
      FloatKind.f64.format.mul f (Real.pw d) = some gg →
      ((FloatKind.f64.format.order 0 gg = some .lt ∨ FloatKind.f64.format.order 0 gg = some .eq) ∧ FloatKind.f64.format.add gg 4602678819172646912 = some h ∨ FloatKind.f64.format.order 0 gg = some .gt ∧ FloatKind.f64.format.sub gg 4602678819172646912 = some h) →
      ∀ num : Int, floatToIntVal .f64 h .i64 = some num → -9000000000000000000 < num ∧ num < 9000000000000000000 →
      Calls Tryd.prog 21 #[.slice (some ⟨g, 0, none⟩) l.length full.length, .float .f64 f, .int .i64 d] w fun e w' =>
        ∃ (v' : Value) (X : List Int), e = .returned v' ∧ NumT X ∧ Bs 5 w' base v' (l ++ X) ∧ Below base w w' := by
    intro gg h hnan hinf e1 e2 num hi hn2
    have hcv : ∀ W : World, (convert 25 2 (.float .f64 h)).run Tryd.prog W = .ok (.int .i64 num) W := fun W => run_convert_float_int W 25 2 .f64 .i64 h num (by rw [Tryd.underlying25]; rfl) Tryd.underlying2 hi
    by_cases h0 : num = 0
    · subst h0
      refine (append_zero w g full l base d f gg h hr hl htk hmx hb hbs hln (by omega) hlaid.tabs hnan hinf e1 e2 hcv).mono ?_
      rintro e w' ⟨v', k1, k2, k3⟩
      exact ⟨v', [48], k1, NumT.zero, k2, k3⟩
    · exact dec_some w g full l base d f gg h num hr hl htk hmx hb hbs hln (by omega) hlaid h0 hn2 hnan hinf e1 e2 hcv
  rcases hf with rfl | ⟨ng, fa, N, hf⟩
  · exact hz 0 4602678819172646912 (fun W => NearW.isNaN_zero W) (fun W => NearW.isInf_zero W) (NearW.mul_zero_pw d (by omega)) (.inl ⟨.inr (by decide), by kernel_rfl⟩) 0 (by kernel_rfl) (by decide)
  · obtain ⟨gg, h, vg, vh, e1, e2, e3, e4, e5, e6, e7⟩ := num_of hf.val hf.pos hf.top (show d < 9 by omega)
    have hpv := Real.pw_val d (show d < 10 by omega)
    have hglt : gg < 9223372036854775808 := Fin.val_lt e2 (by
      have h := Ieee.Format.mul_lt Ieee.double e1
      rw [show 2 ^ Ieee.double.width = 18446744073709551616 by decide] at h
      exact h)
    have hhlt : h < 9223372036854775808 := Fin.val_lt e5 (add_lt e4)
    have hfe := hf.eq
    cases ng with
    | false =>
      have hfe : fa = f := hfe.symm
      subst hfe
      exact hz gg h (fun W => isNaN_flo W hf) (fun W => isInf_flo W hf) e1 (.inl ⟨.inl (Real.zero_lt e2 e3), e4⟩) _ (Real.toInt_val e5 e6) ⟨by omega, by omega⟩
    | true =>
      have hfe : f = SB + fa := hfe
      have hm : FloatKind.f64.format.mul f (Real.pw d) = some (SB + gg) := by
        rw [hfe]
        exact Real.mul_neg hf.val hf.lt hpv (Nat.mul_pos hf.v0 (Nat.mul_pos (Nat.pow_pos (by decide)) (Nat.two_pow_pos _))) e1
      exact hz (SB + gg) (SB + h) (fun W => isNaN_flo W hf) (fun W => isInf_flo W hf) hm (.inr ⟨(Real.order_neg_zero e2 hglt e3).2, Real.sub_neg e2 hglt Real.half_val e3 e4⟩) _ (Real.toInt_neg e5 hhlt e6) ⟨by omega, by omega⟩
theorem write_dec (w : World) (A : Option Addr) (c : Nat) (l : List Int) (d f : Nat) (hr : Kd.C (Kd.int .u8) w A l.length l) (hln : l.length ≤ 100000000000)
    (hd : d ≤ 8) (hf : FloZ f) (hlaid : AF.Laid w) :
    Calls Tryd.prog 11 #[.slice A l.length c, .float .f64 f, .int .i64 d] w fun e w' =>
      ∃ (v' : Value) (X : List Int), e = .returned v' ∧ NumT X ∧ Bs 5 w' w.heap.size v' (l ++ X) ∧ Below w.heap.size w w' := by
  have HOwn := Aside0.mk (fun W : World => fun h : Kd.C (Kd.int .u8) W A l.length l => own_calls A c l W h (by omega))
  have HApp := Aside0.mk (fun (W : World) (g : Nat) (full : List Int) base h1 h2 h3 h4 h5 h6 h7 => dec_any W g full l base d f h1 h2 h3 h4 h5 h6 hln hd hf h7)
  have HR := Aside0.mk hr
  have HL := Aside0.mk hlaid
  clear hd hf hr hln hlaid
  go_enter Tryd.func11, Tryd.ntmps11
  go_wp2_with (first | (go_at_call 19; refine (HOwn.out _ HR.out).mono ?_; rintro e w1 ⟨v, rfl, hv, hb⟩; have hsz := (hv.lt); obtain ⟨g, full, rfl, hg, hrow, hle, hmx, htk⟩ := hv; have hsz2 : w.heap.size ≤ w1.heap.size := (by have := hrow.lt; omega); have HB := Aside0.mk (And.intro hb (And.intro hg (And.intro hrow (And.intro hle (And.intro hmx (And.intro htk hsz2)))))); clear hsz hsz2 hb hg hrow hle hmx htk) | (go_at_call 21; refine (HApp.out w1 g full w.heap.size HB.out.2.2.1 HB.out.2.2.2.1 HB.out.2.2.2.2.2.1 HB.out.2.2.2.2.1 HB.out.2.1 HB.out.2.2.2.2.2.2 (HL.out.below HB.out.1 HL.out.size HB.out.2.2.2.2.2.2)).mono ?_; rintro e w2 ⟨v', X, rfl, hx⟩; have HX := Aside0.mk hx; clear hx))
  go_ret
  obtain ⟨h1, h2, h3⟩ := HX.out
  exact ⟨v', X, rfl, h1, h2, HB.out.1.trans h3⟩
end Go.Proofs.YtmpgbakkpbmpiaaDoor.AD
