/- The character at the reader's place, and going on by it (tdparse.Input.PeekRune, MoveRune), by how many bytes it has. -/
import Derived.Test.YtojgpdphdhcjiaaDoorInpM
namespace Go.Proofs.YtojgpdphdhcjiaaDoor.InpM
open Go.RowKit Go.Proofs.YtojgpdphdhcjiaaDoorW.PrintWords Go.Proofs.YtojgpdphdhcjiaaDoorW.PrintLast Go.Proofs.YtojgpdphdhcjiaaDoorW.PrintMore
set_option linter.unusedVariables false
set_option linter.unusedSimpArgs false
theorem ret_rune {a b c : Int} (h : a = b) : Ending.returned (.tuple #[.int .i32 a, .int .i64 c]) = .returned (.tuple #[.int .i32 b, .int .i64 c]) := by rw [h]
section
variable (gz gb : Nat) (F : Value) (p st : Nat) (bs : List Int) (cap : Nat) (w : World)
  (hz : w.heap[gz]? = some (.cells #[.slice (some ⟨gb, 0, none⟩) bs.length cap, .int .i64 p, .int .i64 st, .nilIface, F] 74 (0, 0)))
  (hb : ∀ i : Nat, i < bs.length → w.cell? ⟨gb, i, none⟩ = some (.int .u8 (rd bs i))) (hl : bs.length ≤ 1000000)
include hz hb hl
theorem peek_at (j : Nat) (nd : Nat) (hj : p + j < bs.length) (i : Int) (hi : i = j) :
    Calls Tryd.prog 22 #[.pointer (some ⟨gz, 0, none⟩), .int .i64 i] (w.drewN nd) fun e w' => e = .returned (.int .u8 (rd bs ((p + j : Nat) : Int))) ∧ ∃ n, w' = w.drewN n := by
  subst hi
  have hw : wrap64 ((j : Int) + p) = ((p + j : Nat) : Int) := by unfold wrap64; omega
  refine (peek_calls gz gb F p st bs cap (w.drewN nd) hz j hb (by rw [hw]; omega) (by rw [hw]; omega)).mono ?_
  rintro e w' ⟨he, ⟨n, hn⟩⟩
  rw [hw] at he
  exact ⟨he, nd + n, by rw [hn, World.drewN_drewN]⟩
set_option maxHeartbeats 400000
theorem peekRune1 (h1 : rd bs p < 192) (hp : p < bs.length) :
    Calls Tryd.prog 28 #[.pointer (some ⟨gz, 0, none⟩), .int .i64 0] w fun e w' => e = .returned (.tuple #[.int .i32 (wrap32 (rd bs p)), .int .i64 1]) ∧ Drawn0 w w' := by
  have Hc := Aside0.mk (peek_at gz gb F p st bs cap w hz hb hl 0 0 (by omega) 0 rfl)
  have c0 : w.cell? ⟨gz, 0, none⟩ = some (.slice (some ⟨gb, 0, none⟩) bs.length cap) := (blk_cell hz 0).trans rfl
  have c1 : w.cell? ⟨gz, 1, none⟩ = some (.int .i64 p) := (blk_cell hz 1).trans rfl
  clear hz hb
  have hd : decide (rd bs p < 192) = true := decide_eq_true h1
  go_enter Tryd.func28, Tryd.ntmps28
  go_wp2_with (go_at_call 22; refine Hc.out.mono ?_; rintro e w' ⟨rfl, n, rfl⟩)
  go_quiet (fail)
  go_wp2
  go_ret2
  exact ⟨rfl, by repeat (first | exact Drawn0.refl _ | apply Drawn0.step)⟩
theorem peekRune2 (h1 : 192 ≤ rd bs p) (h2 : rd bs p < 224) (hp : p + 2 < bs.length) (g0 : 0 ≤ rd bs p) (g1 : 0 ≤ rd bs (p + 1)) (k1 : rd bs (p + 1) < 256) :
    Calls Tryd.prog 28 #[.pointer (some ⟨gz, 0, none⟩), .int .i64 0] w fun e w' => e = .returned (.tuple #[.int .i32 (rd bs p % 32 * 64 + rd bs (p + 1) % 64), .int .i64 2]) ∧ Drawn0 w w' := by
  have Hc0 := Aside0.mk (fun nd => peek_at gz gb F p st bs cap w hz hb hl 0 nd (by omega) 0 rfl)
  have Hc1 := Aside0.mk (fun nd => peek_at gz gb F p st bs cap w hz hb hl 1 nd (by omega) 1 rfl)
  have c0 : w.cell? ⟨gz, 0, none⟩ = some (.slice (some ⟨gb, 0, none⟩) bs.length cap) := (blk_cell hz 0).trans rfl
  have c1 : w.cell? ⟨gz, 1, none⟩ = some (.int .i64 p) := (blk_cell hz 1).trans rfl
  clear hz hb
  have hd0 : decide (rd bs p < 192) = false := decide_eq_false (by omega)
  have hq0 : decide ((bs.length : Int) - 1 - p < 2) = false := decide_eq_false (by omega)
  have hd2 : decide (rd bs p < 224) = true := decide_eq_true (by omega)
  go_enter Tryd.func28, Tryd.ntmps28
  go_wp2_with (go_at_call 22; refine (Hc0.out 0).mono ?_; rintro e w' ⟨rfl, n, rfl⟩)
  go_quiet (fail)
  go_wp2_with (fail)
  go_quiet (fail)
  go_wp2_with (fail)
  refine (Hc1.out _).mono ?_
  rintro e w' ⟨rfl, n, rfl⟩
  go_wp2
  go_ret2
  exact ⟨ret_rune rfl, by repeat (first | exact Drawn0.refl _ | apply Drawn0.step)⟩
theorem peekRune3 (h1 : 224 ≤ rd bs p) (h2 : rd bs p < 240) (hp : p + 3 < bs.length) (g0 : 0 ≤ rd bs p) (g1 : 0 ≤ rd bs (p + 1)) (k1 : rd bs (p + 1) < 256) (g2 : 0 ≤ rd bs (p + 2)) (k2 : rd bs (p + 2) < 256) :
    Calls Tryd.prog 28 #[.pointer (some ⟨gz, 0, none⟩), .int .i64 0] w fun e w' => e = .returned (.tuple #[.int .i32 (rd bs p % 16 * 4096 + rd bs (p + 1) % 64 * 64 + rd bs (p + 2) % 64), .int .i64 3]) ∧ Drawn0 w w' := by
  have Hc0 := Aside0.mk (fun nd => peek_at gz gb F p st bs cap w hz hb hl 0 nd (by omega) 0 rfl)
  have Hc1 := Aside0.mk (fun nd => peek_at gz gb F p st bs cap w hz hb hl 1 nd (by omega) 1 rfl)
  have Hc2 := Aside0.mk (fun nd => peek_at gz gb F p st bs cap w hz hb hl 2 nd (by omega) 2 rfl)
  have c0 : w.cell? ⟨gz, 0, none⟩ = some (.slice (some ⟨gb, 0, none⟩) bs.length cap) := (blk_cell hz 0).trans rfl
  have c1 : w.cell? ⟨gz, 1, none⟩ = some (.int .i64 p) := (blk_cell hz 1).trans rfl
  clear hz hb
  have hd0 : decide (rd bs p < 192) = false := decide_eq_false (by omega)
  have hq0 : decide ((bs.length : Int) - 1 - p < 2) = false := decide_eq_false (by omega)
  have hd1 : decide (rd bs p < 224) = false := decide_eq_false (by omega)
  have hq1 : decide ((bs.length : Int) - 1 - p < 3) = false := decide_eq_false (by omega)
  have hd3 : decide (rd bs p < 240) = true := decide_eq_true (by omega)
  go_enter Tryd.func28, Tryd.ntmps28
  go_wp2_with (go_at_call 22; refine (Hc0.out 0).mono ?_; rintro e w' ⟨rfl, n, rfl⟩)
  go_quiet (fail)
  go_wp2_with (fail)
  go_quiet (fail)
  go_wp2_with (fail)
  go_quiet (fail)
  go_wp2_with (fail)
  refine (Hc1.out _).mono ?_
  rintro e w' ⟨rfl, n, rfl⟩
  go_wp2_with (fail)
  refine (Hc2.out _).mono ?_
  rintro e w' ⟨rfl, n, rfl⟩
  go_wp2
  go_ret2
  exact ⟨ret_rune rfl, by repeat (first | exact Drawn0.refl _ | apply Drawn0.step)⟩
theorem peekRune4 (h1 : 240 ≤ rd bs p) (h2 : rd bs p < 248) (hp : p + 4 < bs.length) (g0 : 0 ≤ rd bs p) (g1 : 0 ≤ rd bs (p + 1)) (k1 : rd bs (p + 1) < 256) (g2 : 0 ≤ rd bs (p + 2)) (k2 : rd bs (p + 2) < 256) (g3 : 0 ≤ rd bs (p + 3)) (k3 : rd bs (p + 3) < 256) :
    Calls Tryd.prog 28 #[.pointer (some ⟨gz, 0, none⟩), .int .i64 0] w fun e w' => e = .returned (.tuple #[.int .i32 (rd bs p % 8 * 262144 + rd bs (p + 1) % 64 * 4096 + rd bs (p + 2) % 64 * 64 + rd bs (p + 3) % 64), .int .i64 4]) ∧ Drawn0 w w' := by
  have Hc0 := Aside0.mk (fun nd => peek_at gz gb F p st bs cap w hz hb hl 0 nd (by omega) 0 rfl)
  have Hc1 := Aside0.mk (fun nd => peek_at gz gb F p st bs cap w hz hb hl 1 nd (by omega) 1 rfl)
  have Hc2 := Aside0.mk (fun nd => peek_at gz gb F p st bs cap w hz hb hl 2 nd (by omega) 2 rfl)
  have Hc3 := Aside0.mk (fun nd => peek_at gz gb F p st bs cap w hz hb hl 3 nd (by omega) 3 rfl)
  have c0 : w.cell? ⟨gz, 0, none⟩ = some (.slice (some ⟨gb, 0, none⟩) bs.length cap) := (blk_cell hz 0).trans rfl
  have c1 : w.cell? ⟨gz, 1, none⟩ = some (.int .i64 p) := (blk_cell hz 1).trans rfl
  clear hz hb
  have hd0 : decide (rd bs p < 192) = false := decide_eq_false (by omega)
  have hq0 : decide ((bs.length : Int) - 1 - p < 2) = false := decide_eq_false (by omega)
  have hd1 : decide (rd bs p < 224) = false := decide_eq_false (by omega)
  have hq1 : decide ((bs.length : Int) - 1 - p < 3) = false := decide_eq_false (by omega)
  have hd2 : decide (rd bs p < 240) = false := decide_eq_false (by omega)
  have hq2 : decide ((bs.length : Int) - 1 - p < 4) = false := decide_eq_false (by omega)
  go_enter Tryd.func28, Tryd.ntmps28
  go_wp2_with (go_at_call 22; refine (Hc0.out 0).mono ?_; rintro e w' ⟨rfl, n, rfl⟩)
  go_quiet (fail)
  go_wp2_with (fail)
  go_quiet (fail)
  go_wp2_with (fail)
  go_quiet (fail)
  go_wp2_with (fail)
  refine (Hc1.out _).mono ?_
  rintro e w' ⟨rfl, n, rfl⟩
  go_wp2_with (fail)
  refine (Hc2.out _).mono ?_
  rintro e w' ⟨rfl, n, rfl⟩
  go_wp2_with (fail)
  refine (Hc3.out _).mono ?_
  rintro e w' ⟨rfl, n, rfl⟩
  go_wp2
  go_ret2
  exact ⟨ret_rune rfl, by repeat (first | exact Drawn0.refl _ | apply Drawn0.step)⟩
theorem moveRune1 (h2 : rd bs p < 192) (hp : p + 1 < bs.length) :
    Calls Tryd.prog 29 #[.pointer (some ⟨gz, 0, none⟩)] w fun e w' => e = .returned (.tuple #[]) ∧ ∃ n, w' = (w.drewN n).setCell ⟨gz, 1, none⟩ (.int .i64 (p + 1)) := by
  have Hc0 := Aside0.mk (fun nd => peek_at gz gb F p st bs cap w hz hb hl 0 nd (by omega) 0 rfl)
  have c0 : w.cell? ⟨gz, 0, none⟩ = some (.slice (some ⟨gb, 0, none⟩) bs.length cap) := (blk_cell hz 0).trans rfl
  have c1 : w.cell? ⟨gz, 1, none⟩ = some (.int .i64 p) := (blk_cell hz 1).trans rfl
  have f1 := blk_frozen hz 1
  clear hz hb
  have hd1 : decide (rd bs p < 192) = true := decide_eq_true (by omega)
  go_enter Tryd.func29, Tryd.ntmps29
  go_wp2_with (go_at_call 22; refine (Hc0.out 0).mono ?_; rintro e w' ⟨rfl, n, rfl⟩)
  go_quiet (fail)
  go_wp2
  go_end0
  exact ⟨rfl, _, rfl⟩
theorem moveRune2 (h1 : 192 ≤ rd bs p) (h2 : rd bs p < 224) (hp : p + 2 < bs.length) :
    Calls Tryd.prog 29 #[.pointer (some ⟨gz, 0, none⟩)] w fun e w' => e = .returned (.tuple #[]) ∧ ∃ n, w' = (w.drewN n).setCell ⟨gz, 1, none⟩ (.int .i64 (p + 2)) := by
  have Hc0 := Aside0.mk (fun nd => peek_at gz gb F p st bs cap w hz hb hl 0 nd (by omega) 0 rfl)
  have c0 : w.cell? ⟨gz, 0, none⟩ = some (.slice (some ⟨gb, 0, none⟩) bs.length cap) := (blk_cell hz 0).trans rfl
  have c1 : w.cell? ⟨gz, 1, none⟩ = some (.int .i64 p) := (blk_cell hz 1).trans rfl
  have f1 := blk_frozen hz 1
  clear hz hb
  have hd0 : decide (rd bs p < 192) = false := decide_eq_false (by omega)
  have hq0 : decide ((bs.length : Int) - 1 - p < 2) = false := decide_eq_false (by omega)
  have hd2 : decide (rd bs p < 224) = true := decide_eq_true (by omega)
  go_enter Tryd.func29, Tryd.ntmps29
  go_wp2_with (go_at_call 22; refine (Hc0.out 0).mono ?_; rintro e w' ⟨rfl, n, rfl⟩)
  go_quiet (fail)
  go_wp2
  go_quiet (fail)
  go_wp2
  go_end0
  exact ⟨rfl, _, rfl⟩
theorem moveRune3 (h1 : 224 ≤ rd bs p) (h2 : rd bs p < 240) (hp : p + 3 < bs.length) :
    Calls Tryd.prog 29 #[.pointer (some ⟨gz, 0, none⟩)] w fun e w' => e = .returned (.tuple #[]) ∧ ∃ n, w' = (w.drewN n).setCell ⟨gz, 1, none⟩ (.int .i64 (p + 3)) := by
  have Hc0 := Aside0.mk (fun nd => peek_at gz gb F p st bs cap w hz hb hl 0 nd (by omega) 0 rfl)
  have c0 : w.cell? ⟨gz, 0, none⟩ = some (.slice (some ⟨gb, 0, none⟩) bs.length cap) := (blk_cell hz 0).trans rfl
  have c1 : w.cell? ⟨gz, 1, none⟩ = some (.int .i64 p) := (blk_cell hz 1).trans rfl
  have f1 := blk_frozen hz 1
  clear hz hb
  have hd0 : decide (rd bs p < 192) = false := decide_eq_false (by omega)
  have hq0 : decide ((bs.length : Int) - 1 - p < 2) = false := decide_eq_false (by omega)
  have hd1 : decide (rd bs p < 224) = false := decide_eq_false (by omega)
  have hq1 : decide ((bs.length : Int) - 1 - p < 3) = false := decide_eq_false (by omega)
  have hd3 : decide (rd bs p < 240) = true := decide_eq_true (by omega)
  go_enter Tryd.func29, Tryd.ntmps29
  go_wp2_with (go_at_call 22; refine (Hc0.out 0).mono ?_; rintro e w' ⟨rfl, n, rfl⟩)
  go_quiet (fail)
  go_wp2
  go_quiet (fail)
  go_wp2
  go_quiet (fail)
  go_wp2
  go_end0
  exact ⟨rfl, _, rfl⟩
theorem moveRune4 (h1 : 240 ≤ rd bs p) (hp : p + 4 < bs.length) :
    Calls Tryd.prog 29 #[.pointer (some ⟨gz, 0, none⟩)] w fun e w' => e = .returned (.tuple #[]) ∧ ∃ n, w' = (w.drewN n).setCell ⟨gz, 1, none⟩ (.int .i64 (p + 4)) := by
  have Hc0 := Aside0.mk (fun nd => peek_at gz gb F p st bs cap w hz hb hl 0 nd (by omega) 0 rfl)
  have c0 : w.cell? ⟨gz, 0, none⟩ = some (.slice (some ⟨gb, 0, none⟩) bs.length cap) := (blk_cell hz 0).trans rfl
  have c1 : w.cell? ⟨gz, 1, none⟩ = some (.int .i64 p) := (blk_cell hz 1).trans rfl
  have f1 := blk_frozen hz 1
  clear hz hb
  have hd0 : decide (rd bs p < 192) = false := decide_eq_false (by omega)
  have hq0 : decide ((bs.length : Int) - 1 - p < 2) = false := decide_eq_false (by omega)
  have hd1 : decide (rd bs p < 224) = false := decide_eq_false (by omega)
  have hq1 : decide ((bs.length : Int) - 1 - p < 3) = false := decide_eq_false (by omega)
  have hd2 : decide (rd bs p < 240) = false := decide_eq_false (by omega)
  have hq2 : decide ((bs.length : Int) - 1 - p < 4) = false := decide_eq_false (by omega)
  go_enter Tryd.func29, Tryd.ntmps29
  go_wp2_with (go_at_call 22; refine (Hc0.out 0).mono ?_; rintro e w' ⟨rfl, n, rfl⟩)
  go_quiet (fail)
  go_wp2
  go_quiet (fail)
  go_wp2
  go_quiet (fail)
  go_wp2
  go_end0
  exact ⟨rfl, _, rfl⟩
end
end Go.Proofs.YtojgpdphdhcjiaaDoor.InpM
