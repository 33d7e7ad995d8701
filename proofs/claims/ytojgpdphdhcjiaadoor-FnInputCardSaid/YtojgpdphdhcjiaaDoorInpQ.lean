/- The reference's answers are always told (or it says that a step leads out). -/
import Derived.Test.YtojgpdphdhcjiaaDoorAnswers
import Derived.Test.YtojgpdphdhcjiaaDoorInpP
namespace Go.Proofs.YtojgpdphdhcjiaaDoor.InpM
open Go.RowKit Go.Proofs.YtojgpdphdhcjiaaDoorW.PrintWords Go.Proofs.YtojgpdphdhcjiaaDoorW.PrintLast Go.Proofs.YtojgpdphdhcjiaaDoorW.PrintMore
open PFnInput
set_option linter.unusedVariables false

theorem answers_eval (l : List Int) (l1 : List S26) (hl : l.length ≤ 1000000) (hb : ∀ j, 0 ≤ rd l j ∧ rd l j ≤ 255) (hl1 : l1.length ≤ 1000000) (h9 : ∀ i : Int, 0 ≤ i → i < l1.length → (rd_T26 l1 i).f0 = 9 → (rd_T26 l1 i).f1 = 0) (d : Nat) :
    ∀ (k : Nat) (x6 : List S46) (i b a : Int), d + 11 ≤ k → 0 ≤ i → i + d = l1.length → x6.length + d ≤ 1000000 → 0 ≤ b → b ≤ a → a ≤ l.length → ∃ r, spec_Answers.l0 k l x6 l1 (l1.length : Int) i b a = some r := by
  induction d with
  | zero =>
    intro k x6 i b a hk h0 hi hx hb0 hab hal
    obtain ⟨k, rfl⟩ : ∃ m, k = m + 1 := ⟨k - 1, by omega⟩
    refine ⟨(x6, true), ?_⟩
    simp only [spec_Answers.l0]
    rw [if_neg (by omega)]
  | succ d ih =>
    intro k x6 i b a hk h0 hi hx hb0 hab hal
    obtain ⟨k, rfl⟩ : ∃ m, k = m + 1 := ⟨k - 1, by omega⟩
    simp only [spec_Answers.l0]
    rw [if_pos (by omega), if_pos h0, if_pos (by omega)]
    obtain ⟨m, rfl⟩ : ∃ m, k = m + 10 := ⟨k - 10, by omega⟩
    obtain ⟨b', a', num, sz, txt, ok, hf, hok⟩ := next_eval l b a (rd_T26 l1 i).f0 (rd_T26 l1 i).f1 m hl hb0 hab hal hb (h9 i h0 (by omega))
    rw [hf, Option.bind_some]
    cases ok with
    | false => exact ⟨_, by rw [if_neg (by simp)]⟩
    | true =>
      obtain ⟨_, h1, h2, h3⟩ := hok rfl
      rw [if_pos rfl, if_pos (by omega), w64 (i + 1) (by omega) (by omega)]
      exact ih _ _ _ _ _ (by omega) (by omega) (by omega) (by simp; omega) h1 h2 h3

/-- One round of the answers, told from behind. -/
theorem answers_round (l : List Int) (l1 : List S26) (hl : l.length ≤ 1000000) (hb : ∀ j, 0 ≤ rd l j ∧ rd l j ≤ 255) (hl1 : l1.length ≤ 1000000) (h9 : ∀ i : Int, 0 ≤ i → i < l1.length → (rd_T26 l1 i).f0 = 9 → (rd_T26 l1 i).f1 = 0)
    (k : Nat) (x6 : List S46) (i b a : Int) (r1 : List S46) (h0 : 0 ≤ i) (hi : i < l1.length) (hb0 : 0 ≤ b) (hab : b ≤ a) (hal : a ≤ l.length)
    (H : spec_Answers.l0 (k + 1) l x6 l1 (l1.length : Int) i b a = some (r1, true)) :
    ∃ b' a' num sz txt, StepOk l b a (rd_T26 l1 i).f0 (rd_T26 l1 i).f1 b' a' num sz txt ∧ 0 ≤ b' ∧ b' ≤ a' ∧ a' ≤ l.length ∧ x6.length < 4398046511104 ∧ spec_Answers.l0 k l (x6 ++ [⟨num, sz, txt⟩]) l1 (l1.length : Int) (i + 1) b' a' = some (r1, true) := by
  simp only [spec_Answers.l0] at H
  rw [if_pos hi, if_pos h0, if_pos hi] at H
  obtain ⟨b', a', num, sz, txt, ok, hf, hok⟩ := next_eval l b a (rd_T26 l1 i).f0 (rd_T26 l1 i).f1 k hl hb0 hab hal hb (h9 i h0 hi)
  obtain ⟨⟨t1, t2, t3, t4, t5, t6⟩, hA, H⟩ := Option.bind_eq_some_iff.mp H
  have hB := at_rounds (fun k => spec_Next.mono l b a (rd_T26 l1 i).f0 (rd_T26 l1 i).f1 k) (show k ≤ k + 10 by omega) hA
  rw [hB] at hf
  simp only [Option.some.injEq, Prod.mk.injEq] at hf
  obtain ⟨rfl, rfl, rfl, rfl, rfl, rfl⟩ := hf
  cases t6 with
  | false => simp at H
  | true =>
    obtain ⟨hs, h1, h2, h3⟩ := hok rfl
    simp only [if_true] at H
    by_cases hx : x6.length < 4398046511104
    · rw [if_pos hx, w64 (i + 1) (by omega) (by omega)] at H
      exact ⟨_, _, _, _, _, hs, h1, h2, h3, hx, H⟩
    · rw [if_neg hx] at H
      cases H
theorem answers_end (l : List Int) (l1 : List S26) (k : Nat) (x6 : List S46) (i b a : Int) (r1 : List S46) (hi : ¬ i < l1.length)
    (H : spec_Answers.l0 (k + 1) l x6 l1 (l1.length : Int) i b a = some (r1, true)) : x6 = r1 := by
  simp only [spec_Answers.l0] at H
  rw [if_neg hi] at H
  simp only [Option.some.injEq, Prod.mk.injEq, and_true] at H
  exact H
end Go.Proofs.YtojgpdphdhcjiaaDoor.InpM
