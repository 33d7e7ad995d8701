/- What is written is a number; the law FnNumberFloatText, walked. -/
import Derived.Test.YtmpgbakkpbmpiaaDoorNumL
import Derived.Test.YtmpgbakkpbmpiaaDoorMAfC
import Derived.Test.YtmpgbakkpbmpiaaDoorPFnNumberFloatTextx2
import Derived.WalkSpells
/- Plain: a text that has a number's parts and nothing else is read whole by spec.NumberLength. -/
namespace Go.Proofs.YtmpgbakkpbmpiaaDoor.NumL
open Go.RowKit Go.Proofs.YtmpgbakkpbmpiaaDoorW.PrintWords Go.Proofs.YtmpgbakkpbmpiaaDoorW.PrintLast Go.Proofs.YtmpgbakkpbmpiaaDoorW.PrintMore
open PFnNumberFloatLength
set_option linter.unusedVariables false

theorem digits_long (l : List Int) (hl : l.length ≤ 1000000000000000) : ∀ (m i : Nat), i + m = l.length →
    ∃ d : Nat, i ≤ d ∧ d ≤ l.length ∧ (∀ j : Nat, i ≤ j → j < d → 48 ≤ rd l j ∧ rd l j ≤ 57) ∧ (d < l.length → ¬ (48 ≤ rd l d ∧ rd l d ≤ 57)) ∧ ∀ k, m + 1 ≤ k → spec_digitsFrom.l0 k l i = some (d : Int)
  | 0, i, h => by
    refine ⟨i, by omega, by omega, by omega, by omega, fun k hk => ?_⟩
    obtain ⟨k, rfl⟩ : ∃ k', k = k' + 1 := ⟨k - 1, by omega⟩
    simp only [spec_digitsFrom.l0]
    rw [digitAt_eq l i (by omega), decide_eq_false (by omega)]
    rfl
  | m + 1, i, h => by
    by_cases hd : 48 ≤ rd l (i : Int) ∧ rd l (i : Int) ≤ 57
    · obtain ⟨d, h1, h2, h3, h4, h5⟩ := digits_long l hl m (i + 1) (by omega)
      refine ⟨d, by omega, h2, fun j hj hj2 => ?_, h4, fun k hk => ?_⟩
      · by_cases he : j = i
        · rw [he]; exact hd
        · exact h3 j (by omega) hj2
      · obtain ⟨k, rfl⟩ : ∃ k', k = k' + 1 := ⟨k - 1, by omega⟩
        simp only [spec_digitsFrom.l0]
        rw [digitAt_eq l i (by omega), decide_eq_true (show ((i : Int) < l.length ∧ 48 ≤ rd l i ∧ rd l i ≤ 57) from ⟨by omega, hd⟩)]
        show (if true = true then spec_digitsFrom.l0 k l (wrap64 ((i : Int) + 1)) else some (i : Int)) = _
        rw [if_pos rfl, wrap_id _ (by omega), show ((i : Int) + 1) = ((i + 1 : Nat) : Int) by omega]
        exact h5 k (by omega)
    · refine ⟨i, by omega, by omega, by omega, fun _ => hd, fun k hk => ?_⟩
      obtain ⟨k, rfl⟩ : ∃ k', k = k' + 1 := ⟨k - 1, by omega⟩
      simp only [spec_digitsFrom.l0]
      rw [digitAt_eq l i (by omega), decide_eq_false (fun h => hd h.2)]
      rfl
theorem sign_long (l : List Int) (hl : l.length ≤ 1000000000000000) (i : Nat) (hi : i ≤ l.length) : ∃ s : Nat, spec_signFrom.f l i = some (s : Int) ∧ s ≤ l.length ∧
    ((s = i ∧ (i < l.length → rd l i ≠ 43 ∧ rd l i ≠ 45)) ∨ (s = i + 1 ∧ i < l.length ∧ (rd l i = 43 ∨ (rd l i ≠ 43 ∧ rd l i = 45)))) := by
  unfold spec_signFrom.f
  by_cases h1 : (i : Int) < l.length
  · rw [if_pos h1, if_pos (by omega), wrap_id _ (by omega)]
    by_cases h2 : rd l (i : Int) = 43
    · rw [if_pos h2]; exact ⟨i + 1, by simp, by omega, .inr ⟨rfl, by omega, .inl h2⟩⟩
    · rw [if_neg h2]
      by_cases h3 : rd l (i : Int) = 45
      · rw [if_pos h3]; exact ⟨i + 1, by simp, by omega, .inr ⟨rfl, by omega, .inr ⟨h2, h3⟩⟩⟩
      · rw [if_neg h3]; exact ⟨i, rfl, by omega, .inl ⟨rfl, fun _ => ⟨h2, h3⟩⟩⟩
  · rw [if_neg h1]; exact ⟨i, rfl, by omega, .inl ⟨rfl, by omega⟩⟩
theorem digits_eq (l : List Int) (hl : l.length ≤ 1000000000000000) (i d : Nat) (hid : i ≤ d) (hd : d ≤ l.length) (hdig : ∀ j : Nat, i ≤ j → j < d → 48 ≤ rd l j ∧ rd l j ≤ 57) (hend : d < l.length → ¬ (48 ≤ rd l d ∧ rd l d ≤ 57)) :
    ∀ k, l.length - i + 1 ≤ k → spec_digitsFrom.l0 k l i = some (d : Int) := by
  obtain ⟨d', h1, h2, h3, h4, h5⟩ := digits_long l hl (l.length - i) i (by omega)
  have e : d' = d := by
    rcases Nat.lt_trichotomy d' d with h | h | h
    · exact absurd (hdig d' h1 h) (h4 (by omega))
    · exact h
    · exact absurd (h3 d hid h) (hend (by omega))
  subst e
  exact h5
theorem sign_eq (l : List Int) (hl : l.length ≤ 1000000000000000) (i s : Nat) (hi : i < l.length) (h : (s = i ∧ rd l i ≠ 43 ∧ rd l i ≠ 45) ∨ (s = i + 1 ∧ (rd l i = 43 ∨ rd l i = 45))) : spec_signFrom.f l i = some (s : Int) := by
  obtain ⟨s', h1, h2, h3⟩ := sign_long l hl i (by omega)
  rw [h1]
  rcases h with ⟨a, b⟩ | ⟨a, b⟩
  · rcases h3 with ⟨c, d⟩ | ⟨c, d, e⟩
    · rw [c, a]
    · exfalso; rcases e with e | e
      · exact b.1 e
      · exact b.2 e.2
  · rcases h3 with ⟨c, d⟩ | ⟨c, d, e⟩
    · exfalso; have := d hi; rcases b with b | b
      · exact this.1 b
      · exact this.2 b
    · rw [c, a]
theorem decimal_whole (l : List Int) (hl : l.length ≤ 1000000000000000) (s d1 dl : Nat) (hS : Shape l s d1 dl) (k : Nat) (hk : l.length + 2 ≤ k) : spec_DecimalLength.f k l = some (dl : Int) := by
  obtain ⟨k, rfl⟩ : ∃ k', k = k' + 1 := ⟨k - 1, by omega⟩
  have hpos := hS.pos
  have hle := hS.le
  have hsg := sign_eq l hl 0 s hpos (by
    rcases hS.sg with ⟨a, b, c⟩ | ⟨a, b⟩ | ⟨a, b, c⟩
    · exact .inl ⟨a, b, c⟩
    · exact .inr ⟨by omega, .inl b⟩
    · exact .inr ⟨by omega, .inr c⟩)
  have hfin := hS.fin
  have hdot := hS.dot
  have hd1 := digits_eq l hl s d1 hle.1 (by omega) (fun j h1 h2 => hS.dig j h1 (by omega) (by omega)) (fun h => by
    rcases hdot with ⟨a, b⟩ | ⟨a, b⟩
    · have := hfin (by omega)
      rw [a] at this
      omega
    · omega)
  unfold spec_DecimalLength.f
  rw [show ((0 : Int)) = ((0 : Nat) : Int) from rfl, hsg, Option.bind_some]
  unfold spec_digitsFrom.f
  rw [hd1 _ (by omega), Option.bind_some]
  rcases hdot with ⟨a, b⟩ | ⟨a, b⟩
  · subst a
    have hj : spec_DecimalLength.j0 (k + 1) l s dl false = some (dl : Int) := by
      simp only [spec_DecimalLength.j0, Bool.false_eq_true, if_false]
      rw [if_neg (by omega)]
    by_cases c : (dl : Int) < l.length
    · have := hfin (by omega)
      rw [if_pos c, if_pos (by omega), if_neg (by omega)]
      exact hj
    · rw [if_neg c]
      exact hj
  · have h2 := hS.dig (d1 + 1) (by omega) (by omega) (by omega)
    have e1 : ((d1 + 1 : Nat) : Int) = (d1 : Int) + 1 := by omega
    rw [e1] at h2
    have hd2 := digits_eq l hl (d1 + 1) dl (by omega) hle.2.2 (fun j h1 h2 => hS.dig j (by omega) h2 (by omega)) (fun h => by have := hfin h; omega)
    rw [if_pos (by omega), if_pos (by omega), if_pos a, wrap_id _ (by omega), digitAt_eq l _ (by omega), decide_eq_true (show (((d1 : Int) + 1) < l.length ∧ 48 ≤ rd l ((d1 : Int) + 1) ∧ rd l ((d1 : Int) + 1) ≤ 57) from ⟨by omega, h2⟩), Option.bind_some]
    simp only [spec_DecimalLength.j0, if_true]
    unfold spec_digitsFrom.f
    rw [wrap_id _ (by omega), ← e1, hd2 k (by omega)]
    rfl
/-- A text of a number's parts is read whole. -/
theorem number_whole (l : List Int) (hl : l.length ≤ 1000000000000000) (s d1 dl : Nat) (hS : Shape l s d1 dl) (hE : dl < l.length → Expo l dl) (k : Nat) (hk : l.length + 3 ≤ k) : spec_NumberLength.f k l = some (l.length : Int) := by
  have hdl := decimal_whole l hl s d1 dl hS k (by omega)
  obtain ⟨k, rfl⟩ : ∃ k', k = k' + 1 := ⟨k - 1, by omega⟩
  have hle := hS.le
  have hdot := hS.dot
  unfold spec_NumberLength.f
  rw [hdl, Option.bind_some, if_neg (by omega)]
  by_cases c : dl = l.length
  · rw [if_pos (by omega)]
    simp [spec_NumberLength.j0, c]
  · have hlt : dl < l.length := by omega
    obtain ⟨t, ht, htl, htd⟩ := hE hlt
    have hfin := hS.fin hlt
    have hj : spec_NumberLength.j0 (k + 1) l dl false = some (l.length : Int) := by
      have e1 : ((dl + 1 : Nat) : Int) = (dl : Int) + 1 := by omega
      have hs := sign_eq l hl (dl + 1) t (by omega) (by
        rcases ht with ht | ⟨ht, h⟩
        · have := htd (dl + 1) (by omega) (by omega)
          exact .inl ⟨ht, by omega, by omega⟩
        · exact .inr ⟨by omega, h⟩)
      have hd := digits_eq l hl t l.length (by omega) (Nat.le_refl _) htd (fun h => by omega)
      have ht0 := htd t (Nat.le_refl _) htl
      simp only [spec_NumberLength.j0, Bool.false_eq_true, if_false]
      rw [wrap_id _ (by omega), ← e1, hs, Option.bind_some, digitAt_eq l _ (by omega), decide_eq_true (show ((t : Int) < l.length ∧ 48 ≤ rd l t ∧ rd l t ≤ 57) from ⟨by omega, ht0⟩), Option.bind_some, if_pos rfl]
      unfold spec_digitsFrom.f
      rw [hd k (by omega)]
      rfl
    rw [if_neg (by omega), if_pos (by omega), if_pos (by omega)]
    by_cases h101 : rd l (dl : Int) = 101
    · rw [if_pos h101]; exact hj
    · rw [if_neg h101]
      have h69 : rd l (dl : Int) = 69 := by omega
      rw [h69]
      exact hj
end Go.Proofs.YtmpgbakkpbmpiaaDoor.NumL
/- Plain: what is written is a number, whole; a text is the same as itself. -/
namespace Go.Proofs.YtmpgbakkpbmpiaaDoor.NumT
open Go.RowKit Go.Proofs.YtmpgbakkpbmpiaaDoorW.PrintWords Go.Proofs.YtmpgbakkpbmpiaaDoorW.PrintLast Go.Proofs.YtmpgbakkpbmpiaaDoorW.PrintMore
open NumL AF
set_option linter.unusedVariables false

theorem rd_left (a b : List Int) (j : Nat) (h : j < a.length) : rd (a ++ b) (j : Int) = rd a (j : Int) := by
  simp only [rd, Int.toNat_natCast, List.getD_eq_getElem?_getD]
  rw [List.getElem?_append_left h]
theorem rd_right (a b : List Int) (j : Nat) : rd (a ++ b) ((a.length + j : Nat) : Int) = rd b (j : Int) := by
  simp only [rd, Int.toNat_natCast, List.getD_eq_getElem?_getD]
  rw [List.getElem?_append_right (by omega), Nat.add_sub_cancel_left]
theorem rd_DG {l : List Int} (h : DG l) (j : Nat) (hj : j < l.length) : 48 ≤ rd l (j : Int) ∧ rd l (j : Int) ≤ 57 := by
  simp only [rd, Int.toNat_natCast, List.getD_eq_getElem?_getD]
  rw [List.getElem?_eq_getElem hj]
  exact h _ (List.getElem_mem hj)
theorem rd_cons (x : Int) (l : List Int) (j : Nat) : rd (x :: l) ((j + 1 : Nat) : Int) = rd l (j : Int) := by
  simp only [rd, Int.toNat_natCast, List.getD_eq_getElem?_getD]
  rw [List.getElem?_cons_succ]
theorem rd_head (x : Int) (l : List Int) : rd (x :: l) ((0 : Nat) : Int) = x := rfl
/-- A whole part, a point, decimals. -/
def Mant (M : List Int) : Prop := ∃ ds, DG ds ∧ ((ds ≠ [] ∧ M = ds) ∨ ∃ fs, DG fs ∧ fs ≠ [] ∧ M = ds ++ 46 :: fs)
/-- Noughts in the exponent's place belong to the digits. -/
theorem mant_app {M E : List Int} (hM : Mant M) (hE : DG E) : Mant (M ++ E) := by
  obtain ⟨ds, h1, h2⟩ := hM
  rcases h2 with ⟨h2, rfl⟩ | ⟨fs, h2, h3, rfl⟩
  · exact ⟨M ++ E, h1.append hE, .inl ⟨by intro h; exact h2 (List.append_eq_nil_iff.1 h).1, rfl⟩⟩
  · exact ⟨ds, h1, .inr ⟨fs ++ E, h2.append hE, by intro h; exact h3 (List.append_eq_nil_iff.1 h).1, by rw [List.append_assoc]; rfl⟩⟩
theorem num_form {X : List Int} (h : NumT X) : ∃ (ng : Bool) (M E : List Int), X.length ≤ 10000000000000 ∧ X = sgn ng ++ (M ++ E) ∧ Mant M ∧ (E = [] ∨ ∃ ds, DG ds ∧ ds ≠ [] ∧ (E = 101 :: ds ∨ E = 101 :: 45 :: ds)) := by
  obtain ⟨ng, M, E, rfl, ⟨hL, hM⟩, hE⟩ := h
  have hs : (sgn ng).length ≤ 1 := by cases ng <;> decide
  rcases hE with rfl | rfl | rfl | ⟨ds, g1, g2, g3, g4⟩
  · exact ⟨ng, M, [], by simp only [List.length_append, List.length_nil]; omega, by rw [List.append_assoc], hM, .inl rfl⟩
  · exact ⟨ng, M ++ [48], [], by simp only [List.length_append, List.length_cons, List.length_nil]; omega, by rw [List.append_assoc, List.append_nil], mant_app hM (DG.nil.cons (by decide)), .inl rfl⟩
  · exact ⟨ng, M ++ [48, 48], [], by simp only [List.length_append, List.length_cons, List.length_nil]; omega, by rw [List.append_assoc, List.append_nil], mant_app hM ((DG.nil.cons (by decide)).cons (by decide)), .inl rfl⟩
  · exact ⟨ng, M, E, by rcases g4 with rfl | rfl <;> (simp only [List.length_append, List.length_cons]; omega), by rw [List.append_assoc], hM, .inr ⟨ds, g1, g2, g4⟩⟩
theorem mant_parts {M : List Int} (h : Mant M) : ∃ k, k ≤ M.length ∧ 0 < M.length ∧ (∀ j : Nat, j < M.length → j ≠ k → 48 ≤ rd M (j : Int) ∧ rd M (j : Int) ≤ 57) ∧ ((k = M.length ∧ 0 < k) ∨ (rd M (k : Int) = 46 ∧ k + 2 ≤ M.length)) := by
  obtain ⟨ds, h1, ⟨h2, rfl⟩ | ⟨fs, h2, h3, rfl⟩⟩ := h
  · have hp := List.length_pos_iff.2 h2
    exact ⟨M.length, Nat.le_refl _, hp, fun j hj _ => rd_DG h1 j hj, .inl ⟨rfl, hp⟩⟩
  · have hp := List.length_pos_iff.2 h3
    have hl : (ds ++ 46 :: fs).length = ds.length + (fs.length + 1) := by rw [List.length_append, List.length_cons]
    refine ⟨ds.length, by omega, by omega, fun j hj hne => ?_, .inr ⟨?_, by omega⟩⟩
    · rcases Nat.lt_or_ge j ds.length with hlt | hge
      · rw [rd_left _ _ _ hlt]; exact rd_DG h1 j hlt
      · obtain ⟨i, rfl⟩ : ∃ i, j = ds.length + (i + 1) := ⟨j - ds.length - 1, by omega⟩
        rw [rd_right, rd_cons]
        exact rd_DG h2 i (by omega)
    · have := rd_right ds (46 :: fs) 0
      rw [Nat.add_zero] at this
      rw [this]; rfl
theorem num_shape {X : List Int} (h : NumT X) : (0 < X.length ∧ X.length ≤ 10000000000000) ∧ ∃ s d1 dl, Shape X s d1 dl ∧ (dl < X.length → Expo X dl) := by
  obtain ⟨ng, M, E, hXl, rfl, hM, hE⟩ := num_form h
  obtain ⟨k, k1, k2, k3, k4⟩ := mant_parts hM
  obtain ⟨S, hS⟩ : ∃ S, S = sgn ng := ⟨_, rfl⟩
  rw [← hS] at hXl ⊢
  have hl : (S ++ (M ++ E)).length = S.length + (M.length + E.length) := by rw [List.length_append, List.length_append]
  have rM : ∀ j : Nat, j < M.length → rd (S ++ (M ++ E)) ((S.length + j : Nat) : Int) = rd M (j : Int) := fun j hj => by rw [rd_right, rd_left _ _ _ hj]
  have rE : ∀ j : Nat, rd (S ++ (M ++ E)) ((S.length + M.length + j : Nat) : Int) = rd E (j : Int) := fun j => by rw [Nat.add_assoc, rd_right, rd_right]
  refine ⟨⟨by omega, hXl⟩, S.length, S.length + k, S.length + M.length, ⟨?_, by omega, ⟨by omega, by omega, by omega⟩, ?_, ?_, ?_⟩, ?_⟩
  · cases ng with
    | false =>
      left
      have hS0 : S = [] := hS
      have h0 := rM 0 k2
      rw [hS0] at h0 ⊢
      refine ⟨rfl, ?_⟩
      have h1 : rd ([] ++ (M ++ E)) 0 = rd M 0 := h0
      rw [h1]
      have h2 : (48 ≤ rd M 0 ∧ rd M 0 ≤ 57) ∨ rd M 0 = 46 := by
        by_cases hk : 0 = k
        · right
          rcases k4 with ⟨a, b⟩ | ⟨a, b⟩
          · omega
          · rw [← hk] at a; exact a
        · left
          exact k3 0 k2 hk
      omega
    | true =>
      right; right
      have hS0 : S = [45] := hS
      rw [hS0]
      exact ⟨rfl, by show ¬ ((45 : Int) = 43); decide, rfl⟩
  · intro j hj1 hj2 hj3
    obtain ⟨i, rfl⟩ : ∃ i, j = S.length + i := ⟨j - S.length, by omega⟩
    rw [rM i (by omega)]
    exact k3 i (by omega) (by omega)
  · rcases k4 with ⟨a, b⟩ | ⟨a, b⟩
    · left; exact ⟨by omega, by omega⟩
    · right; exact ⟨by rw [rM k (by omega)]; exact a, by omega⟩
  · intro hlt
    have h0 := rE 0
    rw [Nat.add_zero] at h0
    rw [h0]
    rcases hE with rfl | ⟨ds, -, -, rfl | rfl⟩
    · simp at hl hlt
    · left; rfl
    · left; rfl
  · intro hlt
    rcases hE with rfl | ⟨ds, g1, g2, rfl | rfl⟩
    · simp at hl hlt
    · have hp := List.length_pos_iff.2 g2
      rw [List.length_cons] at hl
      refine ⟨S.length + M.length + 1, .inl rfl, by omega, fun j hj1 hj2 => ?_⟩
      obtain ⟨i, rfl⟩ : ∃ i, j = S.length + M.length + (i + 1) := ⟨j - (S.length + M.length + 1), by omega⟩
      rw [rE, rd_cons]
      exact rd_DG g1 i (by omega)
    · have hp := List.length_pos_iff.2 g2
      rw [List.length_cons, List.length_cons] at hl
      refine ⟨S.length + M.length + 2, .inr ⟨rfl, .inr ?_⟩, by omega, fun j hj1 hj2 => ?_⟩
      · rw [rE 1]; rfl
      · obtain ⟨i, rfl⟩ : ∃ i, j = S.length + M.length + (i + 1 + 1) := ⟨j - (S.length + M.length + 2), by omega⟩
        rw [rE, rd_cons, rd_cons]
        exact rd_DG g1 i (by omega)
/-- The length of what is written is the number's. -/
theorem num_len {X : List Int} (h : NumT X) : PFnNumberFloatLength.spec_NumberLength.f (X.length + 3) X = some (X.length : Int) := by
  obtain ⟨⟨-, hl⟩, s, d1, dl, hS, hE⟩ := num_shape h
  exact number_whole X (by omega) s d1 dl hS hE _ (Nat.le_refl _)
theorem same_loop (l : List Int) (hl : l.length ≤ 2147483647) : ∀ (m i : Nat), i + m = l.length → PFnNumberFloatText.spec_SameBytes.l0 (m + 1) l l (l.length : Int) (i : Int) = some true
  | 0, i, h => by
    unfold PFnNumberFloatText.spec_SameBytes.l0
    rw [if_neg (by omega)]
  | m + 1, i, h => by
    unfold PFnNumberFloatText.spec_SameBytes.l0
    rw [if_pos (by omega), if_pos (by omega), if_pos (by omega), if_pos (by omega), if_pos rfl]
    rw [show wrap64 ((i : Int) + 1) = ((i + 1 : Nat) : Int) by simp only [wrap64]; omega]
    exact same_loop l hl m (i + 1) (by omega)
theorem same_self (l : List Int) (hl : l.length ≤ 2147483647) : PFnNumberFloatText.spec_SameBytes.f (l.length + 1) l l = some true := by
  unfold PFnNumberFloatText.spec_SameBytes.f
  rw [if_pos rfl]
  exact same_loop l hl l.length 0 (by omega)
end Go.Proofs.YtmpgbakkpbmpiaaDoor.NumT
/- FnNumberFloatText, the law walked. -/
namespace Go.Proofs.YtmpgbakkpbmpiaaDoor.TxW
open Go.RowKit Go.Proofs.YtmpgbakkpbmpiaaDoorW.PrintWords Go.Proofs.YtmpgbakkpbmpiaaDoorW.PrintLast Go.Proofs.YtmpgbakkpbmpiaaDoorW.PrintMore
open NumL Brow AF NumT
set_option linter.unusedVariables false
set_option linter.unusedSimpArgs false

theorem few_lit {W : World} {A : Option Addr} {c : Nat} {l : List Int} (hr : Kd.C (Kd.int .u8) W A l.length l) (hc : l.length ≤ c) :
    Kd.C (Kd.slice 5 (Kd.int .u8)) (W.alloc (.cells #[.slice A l.length c] 22)) (some ⟨W.heap.size, 0, none⟩) [l].length [l] := by
  refine ⟨rfl, by simp, fun _ => ⟨_, rfl, fun j p hj => ?_⟩⟩
  obtain rfl : j = 0 := by
    have := (List.getElem?_eq_some_iff.1 hj).1
    simpa using this
  obtain rfl : l = p := by simpa using hj
  refine ⟨[.slice A l.length c], rfl, ⟨A, c, rfl, hc, Kd.C_alloc hr _⟩, fun i u hu => ?_⟩
  match i, hu with
  | 0, hu =>
    have : u = .slice A l.length c := by simpa using hu.symm
    subst this
    simp only [Nat.zero_mul, Nat.add_zero, Addr.add_zero']
    simp only [World.cell?, heap_alloc_new]
    rfl
  | i + 1, hu => simp at hu

section
variable (w : World) (A : Option Addr) (c : Nat) (l : List Int) (a p d : Int)
theorem law_long (h : l.length > 2147483647) : Calls Tryd.prog 5 #[.slice A l.length c, .int .i64 a, .int .i64 p, .int .i64 d] w fun e w' => e = .returned (.bool true) ∧ Below w.heap.size w w' := by
  have hd : decide (2147483647 < l.length) = true := decide_eq_true h
  have hd' : decide ((2147483647 : Int) < l.length) = true := decide_eq_true (by omega)
  have hd2 := eq_true (show (2147483647 : Int) < l.length by omega)
  go_enter Tryd.func5, Tryd.ntmps5
  go_wp2_with (fail)
  go_ret
  exact ⟨rfl, by repeat (first | exact Below.refl _ _ | apply pw_below_drewN)⟩
set_option maxHeartbeats 1000000
theorem law_off (hl : l.length ≤ 2147483647) (hn : ¬ (-1000000000 ≤ a ∧ a ≤ 1000000000 ∧ 0 ≤ p ∧ p < 1024)) : Calls Tryd.prog 5 #[.slice A l.length c, .int .i64 a, .int .i64 p, .int .i64 d] w fun e w' => e = .returned (.bool true) ∧ Below w.heap.size w w' := by
  have HM := Aside0.mk (fun W : World => Mix.mixed_any W a p hn)
  have hd : decide (2147483647 < l.length) = false := decide_eq_false (by omega)
  have hd' : decide ((2147483647 : Int) < l.length) = false := decide_eq_false (by omega)
  have hd2 := eq_false (show ¬ (2147483647 : Int) < l.length by omega)
  clear hn hl
  go_enter Tryd.func5, Tryd.ntmps5
  go_wp2_with (go_at_call 9; refine (HM.out _).mono ?_; rintro e w' ⟨⟨f, rfl⟩, ⟨nd, rfl⟩⟩)
  go_ret
  exact ⟨rfl, by repeat (first | exact Below.refl _ _ | apply pw_below_drewN)⟩
theorem law_off2 (hl : l.length ≤ 2147483647) (hn : d < 0 ∨ 8 < d) : Calls Tryd.prog 5 #[.slice A l.length c, .int .i64 a, .int .i64 p, .int .i64 d] w fun e w' => e = .returned (.bool true) ∧ Below w.heap.size w w' := by
  have HM := Aside0.mk (fun W : World => NearW.mixed_free W a p)
  have hd : decide (2147483647 < l.length) = false := decide_eq_false (by omega)
  have hd' : decide ((2147483647 : Int) < l.length) = false := decide_eq_false (by omega)
  have hd2 := eq_false (show ¬ (2147483647 : Int) < l.length by omega)
  clear hl
  go_enter Tryd.func5, Tryd.ntmps5
  go_upto_region 4 with (go_at_call 9; refine (HM.out _).mono ?_; rintro e w' ⟨⟨f, b, rfl⟩, ⟨nd, rfl⟩⟩)
  cases b with
  | false =>
    go_wp2_with (fail)
    go_ret
    exact ⟨rfl, by repeat (first | exact Below.refl _ _ | apply pw_below_drewN)⟩
  | true =>
    by_cases h0 : d < 0
    · have c1 : decide (d < 0) = true := decide_eq_true h0
      go_wp2_with (fail)
      go_ret
      exact ⟨rfl, by repeat (first | exact Below.refl _ _ | apply pw_below_drewN)⟩
    · have c1 : decide (d < 0) = false := decide_eq_false h0
      have c2 : decide (8 < d) = true := decide_eq_true (hn.resolve_left h0)
      go_wp2_with (fail)
      go_ret
      exact ⟨rfl, by repeat (first | exact Below.refl _ _ | apply pw_below_drewN)⟩
end
end Go.Proofs.YtmpgbakkpbmpiaaDoor.TxW
/- FnNumberFloatText, the law. -/
namespace Go.Proofs.YtmpgbakkpbmpiaaDoor.TxW
open Go.RowKit Go.Proofs.YtmpgbakkpbmpiaaDoorW.PrintWords Go.Proofs.YtmpgbakkpbmpiaaDoorW.PrintLast Go.Proofs.YtmpgbakkpbmpiaaDoorW.PrintMore
open NumL Brow AF NumT
set_option linter.unusedVariables false
set_option linter.unusedSimpArgs false

theorem mixed_some (a : Int) (p : Nat) (ha : -1000000000 ≤ a) (ha2 : a ≤ 1000000000) (hp : p < 1024) : ∃ f, FloZ f ∧ ∀ W : World, Calls Tryd.prog 9 #[.int .i64 a, .int .i64 p] W fun e w' => e = .returned (.tuple #[.float .f64 f, .bool true]) ∧ Drawn0 W w' := by
  by_cases h0 : 1024 * a + p = 0
  · obtain rfl : a = 0 := by omega
    obtain rfl : p = 0 := by omega
    exact ⟨0, .inl rfl, fun W => Mix.mixed_ok W 0 0 0 0 (by decide) (by decide) (by decide) (by decide)⟩
  · obtain ⟨q, f, fa, N, ng, h1, h2, h3⟩ := Flo.mixed_flo a p ha ha2 hp h0
    exact ⟨f, .inr ⟨ng, fa, N, h3⟩, fun W => Flo.mixed_int W a p q f ha ha2 hp h1 h2⟩
theorem idx0 (x y : Value) (W : World) : (Instr.index 33 (.agg #[x, y]) (.int .i64 0)).run Tryd.prog W = .ok x W := by kernel_rfl
theorem idx1 (x y : Value) (W : World) : (Instr.index 33 (.agg #[x, y]) (.int .i64 1)).run Tryd.prog W = .ok y W := by kernel_rfl
theorem zero_add_addr (g n : Nat) : (⟨g, 0, none⟩ : Addr).add n = ⟨g, n, none⟩ := by simp [Addr.add]; exact fun h => h.symm
/-- What is checked of a text. -/
theorem checks (W : World) (A : Option Addr) (c : Nat) (l X : List Int) (g c1 : Nat) (hr : Kd.C (Kd.int .u8) W A l.length l) (hc : l.length ≤ c) (hX : NumT X) (hl : l.length ≤ 2147483647)
    (h1 : Kd.C (Kd.int .u8) W (some ⟨g, 0, none⟩) (l ++ X).length (l ++ X)) (h2 : (l ++ X).length ≤ c1) :
    Calls Tryd.prog 13 #[.slice (some ⟨g, 0, none⟩) l.length c1, .slice A l.length c] W (fun e w' => e = .returned (.bool true) ∧ Drawn0 W w') ∧
    Calls Tryd.prog 6 #[.slice (some ⟨g, l.length, none⟩) X.length (c1 - l.length)] W (fun e w' => e = .returned (.int .i64 (X.length : Int)) ∧ Drawn0 W w') := by
  have hX0 := (num_shape hX).1.1
  rw [List.length_append] at h2
  constructor
  · have h := Kd.C_take h1 (m := l.length) (by rw [List.length_append]; omega)
    rw [List.take_left] at h
    exact PFnNumberFloatText.spec_SameBytes.calls (l.length + 1) _ c1 l A c l true W h (by omega) hr hc (same_self l hl)
  · have h := Kd.C_drop (c := c1) h1 (m := l.length) (by rw [List.length_append]; omega) (by rw [List.length_append]; omega)
    rw [List.drop_left, if_neg (by omega)] at h
    have h : Kd.C (Kd.int .u8) W (some ((⟨g, 0, none⟩ : Addr).add (l.length * 1))) X.length X := h
    rw [Nat.mul_one, zero_add_addr] at h
    exact PFnNumberFloatLength.spec_NumberLength.calls (X.length + 3) _ (c1 - l.length) X (X.length : Int) W h (by omega) (num_len hX)
section
variable (w : World) (A : Option Addr) (c : Nat) (l : List Int) (a : Int) (p d : Nat)
set_option maxHeartbeats 1000000
theorem law_in (hr : Kd.C (Kd.int .u8) w A l.length l) (hc : l.length ≤ c) (hl : l.length ≤ 2147483647) (ha : -1000000000 ≤ a) (ha2 : a ≤ 1000000000) (hp : p < 1024) (hd8 : d ≤ 8) (hlaid : Laid w) :
    Calls Tryd.prog 5 #[.slice A l.length c, .int .i64 a, .int .i64 p, .int .i64 d] w fun e w' => e = .returned (.bool true) ∧ Below w.heap.size w w' := by
  obtain ⟨f, hf, hm⟩ := mixed_some a p ha ha2 hp
  have HM := Aside0.mk hm
  have HR := Aside0.mk hr
  have HC := Aside0.mk hc
  have HLn := Aside0.mk hl
  have HL := Aside0.mk hlaid
  have HWf := Aside0.mk (fun (W : World) h1 h3 => write_float W A c l d f h1 (by omega) hd8 hf h3)
  have HWd := Aside0.mk (fun (W : World) h1 h3 => AD.write_dec W A c l d f h1 (by omega) hd8 hf h3)
  have e1 : decide (2147483647 < l.length) = false := decide_eq_false (by omega)
  have e2 : decide ((2147483647 : Int) < l.length) = false := decide_eq_false (by omega)
  have e3 := eq_false (show ¬ (2147483647 : Int) < l.length by omega)
  have e4 : decide ((d : Int) < 0) = false := decide_eq_false (by omega)
  have e5 : decide ((8 : Int) < (d : Int)) = false := decide_eq_false (by omega)
  have e6 := eq_false (show ¬ (d : Int) < 0 by omega)
  have e7 := eq_false (show ¬ (8 : Int) < (d : Int) by omega)
  have e8 := eq_false (show ¬ 8 < d by omega)
  clear hr hc ha ha2 hp hd8 hlaid hf hm
  go_enter Tryd.func5, Tryd.ntmps5
  go_upto_region 4 with (go_at_call 9; refine (HM.out _).mono ?_; rintro e w' ⟨rfl, ⟨nd, rfl⟩⟩)
  have HF := Aside0.mk (show ∀ r, decide (l.length ≤ 300) = r → Calls Tryd.prog 7 #[.slice (some ⟨w.heap.size, 0, none⟩) 1 1] ((w.drewN nd).alloc (.cells #[.slice A l.length c] 22)) (fun e w' => e = .returned (.bool r) ∧ Drawn0 ((w.drewN nd).alloc (.cells #[.slice A l.length c] 22)) w') from
    fun r hrf => PFnNumberFloatLength.laws_fewBytes.calls 3 (some ⟨w.heap.size, 0, none⟩) 1 [l] r _ (few_lit (c := c) (Kd.C_drewN HR.out nd) HC.out) (Nat.le_refl _) (by rw [few_tot l HLn.out, hrf]))
  by_cases h300 : l.length ≤ 300
  · have HF2 := Aside0.mk (HF.out true (decide_eq_true h300))
    have H300 := Aside0.mk h300
    clear HF h300
    go_upto_region 6 with (go_at_call 7; refine HF2.out.mono ?_; rintro e w' ⟨rfl, ⟨nd3, rfl⟩⟩)
    obtain ⟨W6, hW6⟩ : ∃ W6, W6 = ((w.drewN nd).alloc (.cells #[.slice A l.length c] 22)).drewN nd3 := ⟨_, rfl⟩
    rw [← hW6]
    have hb6 : Below w.heap.size w W6 := by rw [hW6]; repeat (first | exact Below.refl _ _ | (refine pw_below_drewN ?_ _) | (refine below_alloc ?_ _))
    have h6 := hb6.size
    have hr6 := Kd.C_below HR.out hb6
    have H6 := Aside0.mk (And.intro hb6 (And.intro hr6 (HL.out.below hb6 HL.out.size h6)))
    clear hW6 hb6 hr6 h6 HF2 HM
    go_upto_block 0 with (first
      | (go_at_call 12; refine (HWf.out _ H6.out.2.1 H6.out.2.2).mono ?_; rintro e w1 ⟨v1, X1, rfl, hx1, hx2, hx3⟩; obtain ⟨g1, full1, rfl, hg1, hrow1, hle1, hmx1, htk1⟩ := hx2; obtain ⟨N1, hN1⟩ : ∃ N, N = (l ++ X1).length := ⟨_, rfl⟩; obtain ⟨c1, hc1⟩ : ∃ c, c = full1.length := ⟨_, rfl⟩; rw [← hN1, ← hc1]; have HNc1 := Aside0.mk (And.intro hN1 hc1); have h61 := hx3.size; have HB1 := Aside0.mk (And.intro hx1 (And.intro hrow1 (And.intro hle1 (And.intro hmx1 (And.intro htk1 hx3))))); have H7 := Aside0.mk (And.intro (Kd.C_below H6.out.2.1 hx3) (H6.out.2.2.below hx3 H6.out.2.2.size h61)); clear hx1 hx3 hg1 hrow1 hle1 hmx1 htk1 h61 hN1 hc1)
      | (go_at_call 11; refine (HWd.out _ H7.out.1 H7.out.2).mono ?_; rintro e w2 ⟨v2, X2, rfl, hx1, hx2, hx3⟩; obtain ⟨g2, full2, rfl, hg2, hrow2, hle2, hmx2, htk2⟩ := hx2; obtain ⟨N2, hN2⟩ : ∃ N, N = (l ++ X2).length := ⟨_, rfl⟩; obtain ⟨c2, hc2⟩ : ∃ c, c = full2.length := ⟨_, rfl⟩; rw [← hN2, ← hc2]; have HNc2 := Aside0.mk (And.intro hN2 hc2); have HB2 := Aside0.mk (And.intro hx1 (And.intro hrow2 (And.intro hle2 (And.intro hmx2 (And.intro htk2 hx3))))); clear hx1 hx3 hg2 hrow2 hle2 hmx2 htk2 hN2 hc2))
    have hb12 : Below w.heap.size w w2 := (H6.out.1.trans (HB1.out.2.2.2.2.2.mono H6.out.1.size)).trans (HB2.out.2.2.2.2.2.mono (Nat.le_trans H6.out.1.size HB1.out.2.2.2.2.2.size))
    have hrw := Kd.C_below HR.out hb12
    have hl1 : (l ++ X1).length ≤ full1.length := HB1.out.2.2.1
    have hl2 : (l ++ X2).length ≤ full2.length := HB2.out.2.2.1
    have hC1 : Kd.C (Kd.int .u8) w2 (some ⟨g1, 0, none⟩) (l ++ X1).length (l ++ X1) := by
      have h := (HB1.out.2.1.belowAll HB2.out.2.2.2.2.2).reads (l ++ X1).length hl1 (by have := HB1.out.2.2.2.1; simpa [maxLen] using this)
      rw [HB1.out.2.2.2.2.1] at h
      exact h
    have hC2 : Kd.C (Kd.int .u8) w2 (some ⟨g2, 0, none⟩) (l ++ X2).length (l ++ X2) := by
      have h := HB2.out.2.1.reads (l ++ X2).length hl2 (by have := HB2.out.2.2.2.1; simpa [maxLen] using this)
      rw [HB2.out.2.2.2.2.1] at h
      exact h
    have HK1 := Aside0.mk (fun m : Nat => checks (w2.drewN m) A c l X1 g1 full1.length (Kd.C_drewN hrw m) HC.out HB1.out.1 HLn.out (Kd.C_drewN hC1 m) hl1)
    have HK2 := Aside0.mk (fun m : Nat => checks (w2.drewN m) A c l X2 g2 full2.length (Kd.C_drewN hrw m) HC.out HB2.out.1 HLn.out (Kd.C_drewN hC2 m) hl2)
    have n1 := num_shape HB1.out.1
    have n2 := num_shape HB2.out.1
    have HS := Aside0.mk (show (0 < X1.length ∧ X1.length ≤ 10000000000000) ∧ (0 < X2.length ∧ X2.length ≤ 10000000000000) from ⟨n1.1, n2.1⟩)
    have HBw := Aside0.mk hb12
    obtain ⟨hN1, hc1⟩ := HNc1.out
    obtain ⟨hN2, hc2⟩ := HNc2.out
    rw [← hc1] at HK1 hl1
    rw [← hc2] at HK2 hl2
    rw [List.length_append] at hl1 hl2 hN1 hN2
    have hx1 : X1.length = N1 - l.length := by omega
    have hx2 : X2.length = N2 - l.length := by omega
    obtain ⟨x1, hy1⟩ : ∃ x1, x1 = X1.length := ⟨_, rfl⟩
    obtain ⟨x2, hy2⟩ : ∃ x2, x2 = X2.length := ⟨_, rfl⟩
    rw [← hy1] at HK1
    rw [← hy2] at HK2
    have HY := Aside0.mk (show (x1 = N1 - l.length ∧ N1 = l.length + x1 ∧ 0 < x1 ∧ N1 ≤ c1 ∧ x1 ≤ 10000000000000) ∧ (x2 = N2 - l.length ∧ N2 = l.length + x2 ∧ 0 < x2 ∧ N2 ≤ c2 ∧ x2 ≤ 10000000000000) from by have hs := HS.out; omega)
    have HE := Aside0.mk (And.intro hN1 (And.intro hN2 (And.intro hl1 hl2)))
    clear hb12 hrw hl1 hl2 hC1 hC2 n1 n2 hN1 hN2 hc1 hc2 hx1 hx2 hy1 hy2 HNc1 HNc2 e1 e2 e3 e4 e5 e6 e7 e8 hl HR HC HWf HWd H6 H7 HL
    clear HB1 HB2
    go_wp2_with (fail)
    go_loopg [12, 47] 2 (fun kq v12 v47 w' => ∃ i : Nat, v47 = .int .i64 (i : Int) ∧ i + kq = 2 ∧ Aside0 (∃ m, w' = w2.drewN m))
    case atStart => exact ⟨0, rfl, rfl, ⟨0, rfl⟩⟩
    case round =>
      obtain ⟨i, rfl, hi, HW⟩ := hrel
      obtain ⟨m, rfl⟩ := HW.out
      cases gk with
      | zero =>
        obtain rfl : i = 2 := by omega
        clear hi
        go_wp2_with (fail)
        go_ret
        exact ⟨rfl, pw_below_drewN HBw.out m⟩
      | succ k1 =>
        cases k1 with
        | zero =>
          obtain rfl : i = 1 := by omega
          clear hi
          have hl9 := HLn.out
          have i0 := fun W : World => idx0 (.slice (some ⟨g1, 0, none⟩) N1 c1) (.slice (some ⟨g2, 0, none⟩) N2 c2) W
          have i1 := fun W : World => idx1 (.slice (some ⟨g1, 0, none⟩) N1 c1) (.slice (some ⟨g2, 0, none⟩) N2 c2) W
          have f1 := eq_false (show ¬ ((N2 : Int) ≤ (l.length : Int)) by have := HY.out.2; omega)
          have f2 := eq_false (show ¬ (N2 ≤ l.length) by have := HY.out.2; omega)
          have f3 := decide_eq_false (show ¬ ((N2 : Int) ≤ (l.length : Int)) by have := HY.out.2; omega)
          have f4 := eq_true (show l.length ≤ c2 by have := HY.out.2; omega)
          have f5 := eq_true (show l.length ≤ N2 by have := HY.out.2; omega)
          have f6 := eq_true (show N2 ≤ c2 by have := HY.out.2; omega)
          have f7 : N2 - l.length = x2 := by have := HY.out.2; omega
          have f8 := eq_false (show ¬ (c2 = l.length) by have := HY.out.2; omega)
          have f9 : wrap64 ((N2 : Int) - (l.length : Int)) = (x2 : Int) := w64 (by have := HY.out.2; omega) (by omega) (by have := HY.out.2; omega)
          clear hl9
          go_wp2_with (first | (go_at_call 13; with_reducible refine ((HK2.out _).1).mono ?_; rintro e w' ⟨rfl, ⟨nd7, rfl⟩⟩) | (go_at_call 6; with_reducible refine ((HK2.out _).2).mono ?_; rintro e w' ⟨rfl, ⟨nd8, rfl⟩⟩))
          go_roundg 0
          case measure => decide
          case rel => exact ⟨2, rfl, rfl, ⟨_, rfl⟩⟩
        | succ k2 =>
          obtain rfl : k2 = 0 := by omega
          obtain rfl : i = 0 := by omega
          clear hi
          have hl9 := HLn.out
          have i0 := fun W : World => idx0 (.slice (some ⟨g1, 0, none⟩) N1 c1) (.slice (some ⟨g2, 0, none⟩) N2 c2) W
          have i1 := fun W : World => idx1 (.slice (some ⟨g1, 0, none⟩) N1 c1) (.slice (some ⟨g2, 0, none⟩) N2 c2) W
          have f1 := eq_false (show ¬ ((N1 : Int) ≤ (l.length : Int)) by have := HY.out.1; omega)
          have f2 := eq_false (show ¬ (N1 ≤ l.length) by have := HY.out.1; omega)
          have f3 := decide_eq_false (show ¬ ((N1 : Int) ≤ (l.length : Int)) by have := HY.out.1; omega)
          have f4 := eq_true (show l.length ≤ c1 by have := HY.out.1; omega)
          have f5 := eq_true (show l.length ≤ N1 by have := HY.out.1; omega)
          have f6 := eq_true (show N1 ≤ c1 by have := HY.out.1; omega)
          have f7 : N1 - l.length = x1 := by have := HY.out.1; omega
          have f8 := eq_false (show ¬ (c1 = l.length) by have := HY.out.1; omega)
          have f9 : wrap64 ((N1 : Int) - (l.length : Int)) = (x1 : Int) := w64 (by have := HY.out.1; omega) (by omega) (by have := HY.out.1; omega)
          clear hl9
          go_wp2_with (first | (go_at_call 13; with_reducible refine ((HK1.out _).1).mono ?_; rintro e w' ⟨rfl, ⟨nd7, rfl⟩⟩) | (go_at_call 6; with_reducible refine ((HK1.out _).2).mono ?_; rintro e w' ⟨rfl, ⟨nd8, rfl⟩⟩))
          go_roundg 1
          case measure => decide
          case rel => exact ⟨1, rfl, rfl, ⟨_, rfl⟩⟩
  · have HF2 := Aside0.mk (HF.out false (decide_eq_false h300))
    clear HF h300
    go_wp2_with (go_at_call 7; refine HF2.out.mono ?_; rintro e w' ⟨rfl, ⟨nd3, rfl⟩⟩)
    go_ret
    exact ⟨rfl, by repeat (first | exact Below.refl _ _ | (refine pw_below_drewN ?_ _) | (refine below_alloc ?_ _))⟩
/-- THE LAW. -/
theorem law (a p d : Int) (hr : Kd.C (Kd.int .u8) w A l.length l) (hc : l.length ≤ c) (hlaid : Laid w) :
    Calls Tryd.prog 5 #[.slice A l.length c, .int .i64 a, .int .i64 p, .int .i64 d] w fun e w' => e = .returned (.bool true) ∧ Below w.heap.size w w' := by
  by_cases hl : l.length > 2147483647
  · exact law_long w A c l a p d hl
  have hl : l.length ≤ 2147483647 := by omega
  by_cases hn : ¬ (-1000000000 ≤ a ∧ a ≤ 1000000000 ∧ 0 ≤ p ∧ p < 1024)
  · exact law_off w A c l a p d hl hn
  have hn := Decidable.not_not.1 hn
  by_cases hd : d < 0 ∨ 8 < d
  · exact law_off2 w A c l a p d hl hd
  obtain ⟨p', rfl⟩ := Int.eq_ofNat_of_zero_le hn.2.2.1
  obtain ⟨d', rfl⟩ := Int.eq_ofNat_of_zero_le (show 0 ≤ d by omega)
  exact law_in w A c l a p' d' hr hc hl hn.1 hn.2.1 (by omega) (by omega) hlaid
end
end Go.Proofs.YtmpgbakkpbmpiaaDoor.TxW
