/- PeekRune and MoveRune at a character that is written as it should be. -/
import Derived.Test.YtojgpdphdhcjiaaDoorInpS
namespace Go.Proofs.YtojgpdphdhcjiaaDoor.InpM
open Go.RowKit Go.Proofs.YtojgpdphdhcjiaaDoorW.PrintWords Go.Proofs.YtojgpdphdhcjiaaDoorW.PrintLast Go.Proofs.YtojgpdphdhcjiaaDoorW.PrintMore
open PFnInput
set_option linter.unusedVariables false
section
variable (gz gb : Nat) (F : Value) (p st : Nat) (l0 : List Int) (cap : Nat) (w : World)
  (hz : w.heap[gz]? = some (.cells #[.slice (some ⟨gb, 0, none⟩) (l0 ++ [0]).length cap, .int .i64 p, .int .i64 st, .nilIface, F] 74 (0, 0)))
  (hb : ∀ i : Nat, i < (l0 ++ [0]).length → w.cell? ⟨gb, i, none⟩ = some (.int .u8 (rd (l0 ++ [0]) i))) (hl : l0.length ≤ 300) (hby : ∀ j, 0 ≤ rd l0 j ∧ rd l0 j ≤ 255)
include hz hb hl hby
theorem peekRune_ok (r n : Int) (h : RuneOk l0 p r n) :
    (Calls Tryd.prog 28 #[.pointer (some ⟨gz, 0, none⟩), .int .i64 0] w fun e w' => e = .returned (.tuple #[.int .i32 r, .int .i64 n]) ∧ Drawn0 w w') ∧ 0 ≤ r ∧ r < 2147483648 := by
  obtain ⟨hp, h⟩ := h
  have el : (l0 ++ [(0 : Int)]).length = l0.length + 1 := by simp
  have b0 := hby p
  have b1 := hby (p + 1)
  have b2 := hby (p + 2)
  have b3 := hby (p + 3)
  have r0 := rd_snoc l0 p (by omega) hp
  rcases h with ⟨rfl, h1, h2⟩ | ⟨rfl, h1, h2, h3, h4⟩ | ⟨rfl, h1, h2, h3, h4⟩ | ⟨rfl, h1, h2, h3, h4⟩
  · have c := peekRune1 gz gb F p st (l0 ++ [0]) cap w hz hb (by omega) (by rw [r0]; omega) (by omega)
    rw [r0, show wrap32 (rd l0 p) = r from by rw [h2]; unfold wrap32; omega] at c
    exact ⟨c, by omega, by omega⟩
  · have r1 := rd_snoc l0 (p + 1) (by omega) (by omega)
    have c := peekRune2 gz gb F p st (l0 ++ [0]) cap w hz hb (by omega) (by rw [r0]; omega) (by rw [r0]; omega) (by omega) (by rw [r0]; omega) (by rw [r1]; omega) (by rw [r1]; omega)
    rw [r0, r1, ← h4] at c
    exact ⟨c, by omega, by omega⟩
  · have r1 := rd_snoc l0 (p + 1) (by omega) (by omega)
    have r2 := rd_snoc l0 (p + 2) (by omega) (by omega)
    have c := peekRune3 gz gb F p st (l0 ++ [0]) cap w hz hb (by omega) (by rw [r0]; omega) (by rw [r0]; omega) (by omega) (by rw [r0]; omega) (by rw [r1]; omega) (by rw [r1]; omega) (by rw [r2]; omega) (by rw [r2]; omega)
    rw [r0, r1, r2, ← h4] at c
    exact ⟨c, by omega, by omega⟩
  · have r1 := rd_snoc l0 (p + 1) (by omega) (by omega)
    have r2 := rd_snoc l0 (p + 2) (by omega) (by omega)
    have r3 := rd_snoc l0 (p + 3) (by omega) (by omega)
    have c := peekRune4 gz gb F p st (l0 ++ [0]) cap w hz hb (by omega) (by rw [r0]; omega) (by rw [r0]; omega) (by omega) (by rw [r0]; omega) (by rw [r1]; omega) (by rw [r1]; omega) (by rw [r2]; omega) (by rw [r2]; omega) (by rw [r3]; omega) (by rw [r3]; omega)
    rw [r0, r1, r2, r3, ← h4] at c
    exact ⟨c, by omega, by omega⟩
omit hby in
theorem moveRune_ok (r n : Int) (h : RuneOk l0 p r n) :
    Calls Tryd.prog 29 #[.pointer (some ⟨gz, 0, none⟩)] w fun e w' => e = .returned (.tuple #[]) ∧ ∃ m, w' = (w.drewN m).setCell ⟨gz, 1, none⟩ (.int .i64 (p + n)) := by
  obtain ⟨hp, h⟩ := h
  have el : (l0 ++ [(0 : Int)]).length = l0.length + 1 := by simp
  have r0 := rd_snoc l0 p (by omega) hp
  rcases h with ⟨rfl, h1, h2⟩ | ⟨rfl, h1, h2, h3, h4⟩ | ⟨rfl, h1, h2, h3, h4⟩ | ⟨rfl, h1, h2, h3, h4⟩
  · exact moveRune1 gz gb F p st (l0 ++ [0]) cap w hz hb (by omega) (by rw [r0]; omega) (by omega)
  · exact moveRune2 gz gb F p st (l0 ++ [0]) cap w hz hb (by omega) (by rw [r0]; omega) (by rw [r0]; omega) (by omega)
  · exact moveRune3 gz gb F p st (l0 ++ [0]) cap w hz hb (by omega) (by rw [r0]; omega) (by rw [r0]; omega) (by omega)
  · exact moveRune4 gz gb F p st (l0 ++ [0]) cap w hz hb (by omega) (by rw [r0]; omega) (by omega)
end
end Go.Proofs.YtojgpdphdhcjiaaDoor.InpM
