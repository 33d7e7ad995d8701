/- Plain: spec.NumberLength always answers, and where it is the whole text, the text has a number's parts; ParseInt over digits. -/
import Derived.Test.YtmpgbakkpbmpiaaDoorPFnNumberFloatLengthx1
import Derived.Test.YtmpgbakkpbmpiaaDoorPInt
namespace Go.Proofs.YtmpgbakkpbmpiaaDoor.NumL
open Go.RowKit Go.Proofs.YtmpgbakkpbmpiaaDoorW.PrintWords Go.Proofs.YtmpgbakkpbmpiaaDoorW.PrintLast Go.Proofs.YtmpgbakkpbmpiaaDoorW.PrintMore
open PFnNumberFloatLength
set_option linter.unusedVariables false
set_option linter.unusedSimpArgs false

/-- A whole number's parts: sign [0, s), digits [s, d1), perhaps a point and digits, [d1, dl), perhaps an exponent whose number begins at dl + 1. -/
structure Shape (l : List Int) (s d1 dl : Nat) : Prop where
  sg : (s = 0 ∧ rd l 0 ≠ 43 ∧ rd l 0 ≠ 45) ∨ (s = 1 ∧ rd l 0 = 43) ∨ (s = 1 ∧ rd l 0 ≠ 43 ∧ rd l 0 = 45)
  pos : 0 < l.length
  le : s ≤ d1 ∧ d1 ≤ dl ∧ dl ≤ l.length
  dig : ∀ j : Nat, s ≤ j → j < dl → j ≠ d1 → 48 ≤ rd l j ∧ rd l j ≤ 57
  dot : (dl = d1 ∧ s < d1) ∨ (rd l d1 = 46 ∧ d1 + 2 ≤ dl)
  fin : dl < l.length → (rd l dl = 101 ∨ rd l dl = 69)
/-- An exponent: behind the mark at dl perhaps a sign, then digits to the end. -/
def Expo (l : List Int) (dl : Nat) : Prop := ∃ t : Nat, (t = dl + 1 ∨ (t = dl + 2 ∧ (rd l ((dl + 1 : Nat) : Int) = 43 ∨ rd l ((dl + 1 : Nat) : Int) = 45))) ∧ t < l.length ∧ ∀ j : Nat, t ≤ j → j < l.length → 48 ≤ rd l j ∧ rd l j ≤ 57

theorem wrap_id (n : Int) (h : -9000000000000000000 ≤ n ∧ n ≤ 9000000000000000000) : wrap64 n = n := by simp only [wrap64]; omega
theorem digitAt_eq (l : List Int) (i : Int) (h : 0 ≤ i) : spec_digitAt.f l i = some (decide (i < l.length ∧ 48 ≤ rd l i ∧ rd l i ≤ 57)) := by
  unfold spec_digitAt.f
  by_cases h1 : i < l.length
  · rw [if_pos h1, if_pos h]
    by_cases h2 : 48 ≤ rd l i
    · rw [if_pos h2]; simp [h1, h2]
    · rw [if_neg h2]; simp [h2]
  · rw [if_neg h1]; simp [h1]
theorem digits_tot (l : List Int) (hl : l.length ≤ 2147483647) : ∀ (m i : Nat), i + m = l.length →
    ∃ d : Nat, i ≤ d ∧ d ≤ l.length ∧ (∀ j : Nat, i ≤ j → j < d → 48 ≤ rd l j ∧ rd l j ≤ 57) ∧ (d < l.length → ¬ (48 ≤ rd l d ∧ rd l d ≤ 57)) ∧ ∀ k, m + 1 ≤ k → spec_digitsFrom.l0 k l i = some (d : Int)
  | 0, i, h => by
    refine ⟨i, by omega, by omega, by omega, by omega, fun k hk => ?_⟩
    obtain ⟨k, rfl⟩ : ∃ k', k = k' + 1 := ⟨k - 1, by omega⟩
    simp only [spec_digitsFrom.l0]
    rw [digitAt_eq l i (by omega), decide_eq_false (by omega)]
    rfl
  | m + 1, i, h => by
    by_cases hd : 48 ≤ rd l (i : Int) ∧ rd l (i : Int) ≤ 57
    · obtain ⟨d, h1, h2, h3, h4, h5⟩ := digits_tot l hl m (i + 1) (by omega)
      refine ⟨d, by omega, h2, fun j hj hj2 => ?_, h4, fun k hk => ?_⟩
      · by_cases he : j = i
        · rw [he]; exact hd
        · exact h3 j (by omega) hj2
      · obtain ⟨k, rfl⟩ : ∃ k', k = k' + 1 := ⟨k - 1, by omega⟩
        simp only [spec_digitsFrom.l0]
        rw [digitAt_eq l i (by omega), decide_eq_true (show ((i : Int) < l.length ∧ 48 ≤ rd l i ∧ rd l i ≤ 57) from ⟨by omega, hd⟩)]
        show (if true = true then spec_digitsFrom.l0 k l (wrap64 ((i : Int) + 1)) else some (i : Int)) = _
        rw [if_pos rfl, wrap_id _ (by omega), show ((i : Int) + 1) = ((i + 1 : Nat) : Int) by omega]
        exact h5 k (by omega)
    · refine ⟨i, by omega, by omega, by omega, fun _ => hd, fun k hk => ?_⟩
      obtain ⟨k, rfl⟩ : ∃ k', k = k' + 1 := ⟨k - 1, by omega⟩
      simp only [spec_digitsFrom.l0]
      rw [digitAt_eq l i (by omega), decide_eq_false (fun h => hd h.2)]
      rfl
theorem sign_tot (l : List Int) (hl : l.length ≤ 2147483647) (i : Nat) (hi : i ≤ l.length) : ∃ s : Nat, spec_signFrom.f l i = some (s : Int) ∧ s ≤ l.length ∧
    ((s = i ∧ (i < l.length → rd l i ≠ 43 ∧ rd l i ≠ 45)) ∨ (s = i + 1 ∧ i < l.length ∧ (rd l i = 43 ∨ (rd l i ≠ 43 ∧ rd l i = 45)))) := by
  unfold spec_signFrom.f
  by_cases h1 : (i : Int) < l.length
  · rw [if_pos h1, if_pos (by omega), wrap_id _ (by omega)]
    by_cases h2 : rd l (i : Int) = 43
    · rw [if_pos h2]; exact ⟨i + 1, by simp, by omega, .inr ⟨rfl, by omega, .inl h2⟩⟩
    · rw [if_neg h2]
      by_cases h3 : rd l (i : Int) = 45
      · rw [if_pos h3]; exact ⟨i + 1, by simp, by omega, .inr ⟨rfl, by omega, .inr ⟨h2, h3⟩⟩⟩
      · rw [if_neg h3]; exact ⟨i, rfl, by omega, .inl ⟨rfl, fun _ => ⟨h2, h3⟩⟩⟩
  · rw [if_neg h1]; exact ⟨i, rfl, by omega, .inl ⟨rfl, by omega⟩⟩
/-- The number without an exponent: where it ends, and what it is made of. -/
theorem decimal_tot (l : List Int) (hl : l.length ≤ 2147483647) : ∃ dl : Nat, dl ≤ l.length ∧ (∀ k, l.length + 2 ≤ k → spec_DecimalLength.f k l = some (dl : Int)) ∧
    (dl ≠ 0 → ∃ s d1 : Nat, ((s = 0 ∧ rd l 0 ≠ 43 ∧ rd l 0 ≠ 45) ∨ (s = 1 ∧ rd l 0 = 43) ∨ (s = 1 ∧ rd l 0 ≠ 43 ∧ rd l 0 = 45)) ∧ (s ≤ d1 ∧ d1 ≤ dl) ∧ (∀ j : Nat, s ≤ j → j < dl → j ≠ d1 → 48 ≤ rd l j ∧ rd l j ≤ 57) ∧ ((dl = d1 ∧ s < d1) ∨ (rd l d1 = 46 ∧ d1 + 2 ≤ dl))) := by
  obtain ⟨s, hs, hs1, hs2⟩ := sign_tot l hl 0 (by omega)
  obtain ⟨d1, h1, h2, h3, h4, h5⟩ := digits_tot l hl (l.length - s) s (by omega)
  have hsg : 0 < l.length → ((s = 0 ∧ rd l 0 ≠ 43 ∧ rd l 0 ≠ 45) ∨ (s = 1 ∧ rd l 0 = 43) ∨ (s = 1 ∧ rd l 0 ≠ 43 ∧ rd l 0 = 45)) := by
    intro hp
    rcases hs2 with ⟨a, b⟩ | ⟨a, b, c | c⟩
    · exact .inl ⟨a, b hp⟩
    · exact .inr (.inl ⟨by omega, c⟩)
    · exact .inr (.inr ⟨by omega, c⟩)
  have hfirst : ∀ k, l.length + 2 ≤ k → spec_DecimalLength.f k l = (if (d1 : Int) < (l.length : Int) then (if 0 ≤ (d1 : Int) then (if (rd l d1) = 46 then ((spec_digitAt.f l (wrap64 ((d1 : Int) + 1))).bind fun t109 => (spec_DecimalLength.j0 k l s d1 t109)) else (spec_DecimalLength.j0 k l s d1 false)) else (none)) else (spec_DecimalLength.j0 k l s d1 false)) := by
    intro k hk
    unfold spec_DecimalLength.f
    rw [show ((0 : Int)) = ((0 : Nat) : Int) from rfl, hs, Option.bind_some]
    unfold spec_digitsFrom.f
    rw [h5 k (by omega), Option.bind_some]
  by_cases hdot : d1 < l.length ∧ rd l (d1 : Int) = 46 ∧ ((d1 : Int) + 1 < l.length ∧ 48 ≤ rd l ((d1 : Int) + 1) ∧ rd l ((d1 : Int) + 1) ≤ 57)
  · obtain ⟨a, b, c, d⟩ := hdot
    obtain ⟨d2, g1, g2, g3, g4, g5⟩ := digits_tot l hl (l.length - (d1 + 1)) (d1 + 1) (by omega)
    have hd2 : d1 + 2 ≤ d2 := by
      by_cases he : d2 = d1 + 1
      · exfalso; subst he; exact g4 (by omega) (by rw [show (((d1 + 1 : Nat)) : Int) = (d1 : Int) + 1 by omega]; exact d)
      · omega
    refine ⟨d2, g2, fun k hk => ?_, fun _ => ⟨s, d1, hsg (by omega), ⟨h1, by omega⟩, fun j hj hj2 hj3 => ?_, .inr ⟨b, hd2⟩⟩⟩
    · rw [hfirst k hk, if_pos (by omega), if_pos (by omega), if_pos b, wrap_id _ (by omega), digitAt_eq l _ (by omega), decide_eq_true (show (((d1 : Int) + 1) < l.length ∧ 48 ≤ rd l ((d1 : Int) + 1) ∧ rd l ((d1 : Int) + 1) ≤ 57) from ⟨c, d⟩), Option.bind_some]
      obtain ⟨k, rfl⟩ : ∃ k', k = k' + 1 := ⟨k - 1, by omega⟩
      simp only [spec_DecimalLength.j0, if_true]
      unfold spec_digitsFrom.f
      rw [wrap_id _ (by omega), show ((d1 : Int) + 1) = ((d1 + 1 : Nat) : Int) by omega, g5 k (by omega)]
      rfl
    · by_cases hlt : j < d1
      · exact h3 j hj hlt
      · exact g3 j (by omega) hj2
  · have hj : ∀ k, l.length + 2 ≤ k → spec_DecimalLength.f k l = spec_DecimalLength.j0 k l s d1 false := by
      intro k hk
      rw [hfirst k hk]
      by_cases a : (d1 : Int) < l.length
      · rw [if_pos a, if_pos (by omega)]
        by_cases b : rd l (d1 : Int) = 46
        · rw [if_pos b, wrap_id _ (by omega), digitAt_eq l _ (by omega), decide_eq_false (fun h => hdot ⟨by omega, b, h⟩), Option.bind_some]
        · rw [if_neg b]
      · rw [if_neg a]
    by_cases hsd : d1 = s
    · refine ⟨0, by omega, fun k hk => ?_, fun h => absurd rfl h⟩
      rw [hj k hk]
      obtain ⟨k, rfl⟩ : ∃ k', k = k' + 1 := ⟨k - 1, by omega⟩
      simp [spec_DecimalLength.j0, hsd]
    · refine ⟨d1, h2, fun k hk => ?_, fun _ => ⟨s, d1, hsg (by omega), ⟨h1, by omega⟩, fun j hj hj2 hj3 => h3 j hj hj2, .inl ⟨rfl, by omega⟩⟩⟩
      rw [hj k hk]
      obtain ⟨k, rfl⟩ : ∃ k', k = k' + 1 := ⟨k - 1, by omega⟩
      simp [spec_DecimalLength.j0]
      omega
theorem number_tot (l : List Int) (hl : l.length ≤ 2147483647) : ∃ n : Int, (∀ k, l.length + 3 ≤ k → spec_NumberLength.f k l = some n) ∧ 0 ≤ n ∧ n ≤ l.length ∧
    (n = l.length → n ≠ 0 → ∃ s d1 dl : Nat, Shape l s d1 dl ∧ (dl < l.length → Expo l dl)) := by
  obtain ⟨dl, h1, h2, h3⟩ := decimal_tot l hl
  by_cases h0 : dl = 0
  · subst h0
    refine ⟨0, fun k hk => ?_, by omega, by omega, by omega⟩
    unfold spec_NumberLength.f
    rw [h2 k (by omega), Option.bind_some, if_pos (by rfl)]
    obtain ⟨k, rfl⟩ : ∃ k', k = k' + 1 := ⟨k - 1, by omega⟩
    simp [spec_NumberLength.j0]
  obtain ⟨s, d1, hsg, hle, hdig, hdot⟩ := h3 h0
  have hshape : (dl < l.length → (rd l dl = 101 ∨ rd l dl = 69)) → Shape l s d1 dl := fun hf => ⟨hsg, by omega, ⟨hle.1, hle.2, h1⟩, hdig, hdot, hf⟩
  by_cases hend : dl = l.length
  · refine ⟨dl, fun k hk => ?_, by omega, by omega, fun _ _ => ⟨s, d1, dl, hshape (by omega), by omega⟩⟩
    unfold spec_NumberLength.f
    rw [h2 k (by omega), Option.bind_some, if_neg (by omega), if_pos (by omega)]
    obtain ⟨k, rfl⟩ : ∃ k', k = k' + 1 := ⟨k - 1, by omega⟩
    simp [spec_NumberLength.j0]
  have hj : ∀ k, l.length + 3 ≤ k → spec_NumberLength.f k l = spec_NumberLength.j0 k l dl (decide (¬ (rd l (dl : Int) = 101 ∨ rd l (dl : Int) = 69))) := by
    intro k hk
    unfold spec_NumberLength.f
    rw [h2 k (by omega), Option.bind_some, if_neg (by omega), if_neg (by omega), if_pos (by omega), if_pos (by omega)]
    by_cases a : rd l (dl : Int) = 101
    · rw [if_pos a]; simp [a]
    · rw [if_neg a]
      by_cases b : rd l (dl : Int) = 69
      · simp [a, b]
      · simp [a, b]
        rw [bne_iff_ne.mpr b]
  by_cases he : ¬ (rd l (dl : Int) = 101 ∨ rd l (dl : Int) = 69)
  · refine ⟨dl, fun k hk => ?_, by omega, by omega, by omega⟩
    rw [hj k hk, decide_eq_true he]
    obtain ⟨k, rfl⟩ : ∃ k', k = k' + 1 := ⟨k - 1, by omega⟩
    simp [spec_NumberLength.j0]
  replace he := Classical.not_not.mp he
  obtain ⟨t, ht, ht1, ht2⟩ := sign_tot l hl (dl + 1) (by omega)
  by_cases hdg : ((t : Int) < l.length ∧ 48 ≤ rd l t ∧ rd l t ≤ 57)
  · obtain ⟨d2, g1, g2, g3, g4, g5⟩ := digits_tot l hl (l.length - t) t (by omega)
    refine ⟨d2, fun k hk => ?_, by omega, by omega, fun hn _ => ⟨s, d1, dl, hshape (fun _ => he), fun _ => ⟨t, ?_, by omega, fun j hj hj2 => g3 j hj (by omega)⟩⟩⟩
    · rw [hj k hk, decide_eq_false (not_not_intro he)]
      obtain ⟨k, rfl⟩ : ∃ k', k = k' + 1 := ⟨k - 1, by omega⟩
      simp only [spec_NumberLength.j0]
      rw [if_neg (by decide), wrap_id _ (by omega), show ((dl : Int) + 1) = ((dl + 1 : Nat) : Int) by omega, ht, Option.bind_some, digitAt_eq l t (by omega), decide_eq_true hdg, Option.bind_some, if_pos rfl]
      unfold spec_digitsFrom.f
      rw [g5 k (by omega)]
      rfl
    · rcases ht2 with ⟨a, b⟩ | ⟨a, b, c⟩
      · exact .inl a
      · exact .inr ⟨by omega, c.imp id (·.2)⟩
  · refine ⟨dl, fun k hk => ?_, by omega, by omega, by omega⟩
    rw [hj k hk, decide_eq_false (not_not_intro he)]
    obtain ⟨k, rfl⟩ : ∃ k', k = k' + 1 := ⟨k - 1, by omega⟩
    simp only [spec_NumberLength.j0]
    rw [if_neg (by decide), wrap_id _ (by omega), show ((dl : Int) + 1) = ((dl + 1 : Nat) : Int) by omega, ht, Option.bind_some, digitAt_eq l t (by omega), decide_eq_false hdg, Option.bind_some, if_neg (by decide)]

theorem pint_loop (x : List Int) (neg : Bool) (s : Nat) (hs : s < x.length) (h12 : x.length ≤ 12) (hd : ∀ j : Nat, s ≤ j → j < x.length → 48 ≤ rd x j ∧ rd x j ≤ 57) :
    ∀ (m i : Nat) (n : Int), i + m = x.length → s ≤ i → 0 ≤ n → n < 10 ^ i → ∃ v, ∀ k, 2 * m + 3 ≤ k → tdstrconv_ParseInt.l0 k x i neg s n = some (v, (x.length : Int))
  | 0, i, n, h, hi, h0, hn => by
    have hp : (10 : Int) ^ i ≤ 10 ^ 12 := by
      have := Nat.pow_le_pow_right (n := 10) (by decide) (show i ≤ 12 by omega)
      exact_mod_cast this
    refine ⟨if neg then wrap64 (-(wrap64 n)) else wrap64 n, fun k hk => ?_⟩
    obtain ⟨k, rfl⟩ : ∃ k', k = k' + 1 + 1 + 1 := ⟨k - 3, by omega⟩
    simp only [tdstrconv_ParseInt.l0]
    rw [if_neg (by omega)]
    simp only [tdstrconv_ParseInt.j4]
    rw [if_neg (by omega)]
    have hx : (i : Int) = x.length := by omega
    cases neg with
    | true => simp [tdstrconv_ParseInt.j5, hx]
    | false =>
      rw [if_neg (by decide), decide_eq_false (by omega)]
      simp [tdstrconv_ParseInt.j5, hx]
  | m + 1, i, n, h, hi, h0, hn => by
    have hp : (10 : Int) ^ i ≤ 10 ^ 12 := by
      have := Nat.pow_le_pow_right (n := 10) (by decide) (show i ≤ 12 by omega)
      exact_mod_cast this
    have hdi := hd i hi (by omega)
    have hw1 : IntKind.u64.wrap (n * 10) = n * 10 := by
      simp only [IntKind.wrap_u64]; omega
    have hw2 : IntKind.u64.wrap (n * 10 + ((rd x (i : Int) - 48) % 256)) = n * 10 + (rd x (i : Int) - 48) := by
      simp only [IntKind.wrap_u64]; omega
    obtain ⟨v, hv⟩ := pint_loop x neg s hs h12 hd m (i + 1) (n * 10 + (rd x (i : Int) - 48)) (by omega) (by omega) (by omega) (by rw [Int.pow_succ]; omega)
    refine ⟨v, fun k hk => ?_⟩
    obtain ⟨k, rfl⟩ : ∃ k', k = k' + 1 + 1 := ⟨k - 2, by omega⟩
    simp only [tdstrconv_ParseInt.l0]
    rw [if_pos (by omega), if_pos (by omega), if_pos hdi.1, decide_eq_true hdi.2]
    simp only [tdstrconv_ParseInt.j3, if_true]
    rw [if_neg (by omega), hw1, if_neg (by omega), hw2, wrap_id _ (by omega), show ((i : Int) + 1) = ((i + 1 : Nat) : Int) by omega]
    exact hv k (by omega)
theorem rd_drop (l : List Int) (m j : Nat) : rd (l.drop m) j = rd l ((m + j : Nat) : Int) := by simp only [rd, Int.toNat_natCast]; simp
theorem pint_tot (x : List Int) (t : Nat) (h : t = 0 ∨ (t = 1 ∧ (rd x 0 = 43 ∨ rd x 0 = 45))) (ht : t < x.length) (h12 : x.length ≤ 12) (hd : ∀ j : Nat, t ≤ j → j < x.length → 48 ≤ rd x j ∧ rd x j ≤ 57) :
    ∃ k v, tdstrconv_ParseInt.f k x = some (v, (x.length : Int)) := by
  obtain ⟨v, hv⟩ := pint_loop x (rd x 0 == 45) t ht h12 hd (x.length - t) t 0 (by omega) (by omega) (by omega) (by rcases h with rfl | ⟨rfl, -⟩ <;> decide)
  obtain ⟨v2, hv2⟩ := pint_loop x false t ht h12 hd (x.length - t) t 0 (by omega) (by omega) (by omega) (by rcases h with rfl | ⟨rfl, -⟩ <;> decide)
  rcases h with rfl | ⟨rfl, h⟩
  · have h0 := hd 0 (by omega) (by omega)
    refine ⟨2 * x.length + 3 + 1 + 1, v2, ?_⟩
    unfold tdstrconv_ParseInt.f
    have h0' : 48 ≤ rd x 0 ∧ rd x 0 ≤ 57 := h0
    rw [if_pos (by omega), if_pos (by omega), if_neg (by omega), beq_eq_false_iff_ne.mpr (by omega)]
    simp only [tdstrconv_ParseInt.j0, tdstrconv_ParseInt.j1]
    rw [if_neg (by decide)]
    exact hv2 _ (by omega)
  · refine ⟨2 * x.length + 3 + 1 + 1, v, ?_⟩
    unfold tdstrconv_ParseInt.f
    have key : tdstrconv_ParseInt.j0 (2 * x.length + 3 + 1 + 1) x 0 false true = some (v, (x.length : Int)) := by
      simp only [tdstrconv_ParseInt.j0, tdstrconv_ParseInt.j1]
      rw [if_pos trivial, if_pos (by omega), wrap_id _ (by omega)]
      exact hv _ (by omega)
    rw [if_pos (by omega), if_pos (by omega)]
    by_cases a : rd x 0 = 43
    · rw [if_pos a]; exact key
    · rw [if_neg a, beq_iff_eq.mpr (h.resolve_left a)]; exact key
theorem expo_pint (l : List Int) (dl : Nat) (h : Expo l dl) (h12 : l.length ≤ dl + 12) : ∃ k v, tdstrconv_ParseInt.f k (l.drop (dl + 1)) = some (v, (l.length : Int) - dl - 1) ∧ dl + 1 < l.length := by
  obtain ⟨t, h1, h2, h3⟩ := h
  have hlen : (l.drop (dl + 1)).length = l.length - (dl + 1) := List.length_drop
  obtain ⟨k, v, hk⟩ := pint_tot (l.drop (dl + 1)) (t - (dl + 1)) (by
    rcases h1 with h1 | ⟨h1, h4⟩
    · exact .inl (by omega)
    · exact .inr ⟨by omega, by rw [show (0 : Int) = ((0 : Nat) : Int) from rfl, rd_drop]; exact h4⟩) (by omega) (by omega) (by
    intro j hj hj2
    rw [rd_drop]
    exact h3 (dl + 1 + j) (by omega) (by omega))
  refine ⟨k, v, ?_, by omega⟩
  rw [hk, hlen]
  congr 2
  omega
theorem few_tot (l : List Int) (hl : l.length ≤ 2147483647) : laws_fewBytes.f 3 [l] = some (decide (l.length ≤ 300)) := by
  simp only [laws_fewBytes.f, laws_fewBytes.l0, List.length_singleton]
  rw [if_pos (by decide), if_pos (by decide), if_pos (by decide)]
  have e : rd_L1 [l] 0 = l := rfl
  rw [e]
  by_cases h : (l.length : Int) > 300
  · rw [if_pos h, decide_eq_false (by omega)]
  · rw [if_neg h, decide_eq_true (by omega), if_neg (by rw [wrap_id _ (by omega)]; decide)]
end Go.Proofs.YtmpgbakkpbmpiaaDoor.NumL
