/- The methods of the reader of selections (tdparse.Input), each walked once: what it does to the reader's block, what it hands back. -/
import Derived.Test.YtojgpdphdhcjiaaDoorPFnInputx4
import Derived.LaidEql
import Derived.LaidEqlPtr
namespace Go.Proofs.YtojgpdphdhcjiaaDoor.InpM
open Go.RowKit Go.Proofs.YtojgpdphdhcjiaaDoorW.PrintWords Go.Proofs.YtojgpdphdhcjiaaDoorW.PrintLast Go.Proofs.YtojgpdphdhcjiaaDoorW.PrintMore
set_option linter.unusedVariables false
set_option linter.unusedSimpArgs false

theorem cut3 {P : Program} (t e : TypeId) {i : TypeInfo} (ht : P.underlying t = some (.slice e)) (hi : P.info? e = some i) (hsz : i.size = 1) (A : Option Addr) (c : Nat) (xs : List Int) (a b : Int) (h0 : 0 ≤ a) (h1 : a ≤ b) (hm : b ≤ xs.length) (hc : xs.length ≤ c) :
    ∃ A' : Option Addr, (∀ W : World, (Instr.slice t (.slice A xs.length c) (some (.int .i64 a)) (some (.int .i64 b)) (some (.int .i64 b))).run P W = .ok (.slice A' (b.toNat - a.toNat) (b.toNat - a.toNat)) W) ∧
      (∀ w : World, Kd.C (Kd.int .u8) w A xs.length xs → Kd.C (Kd.int .u8) w A' (b.toNat - a.toNat) ((xs.take b.toNat).drop a.toNat)) := by
  have hlt : (xs.take b.toNat).length = b.toNat := by rw [List.length_take]; omega
  refine ⟨if b.toNat = a.toNat then A else A.map (·.add a.toNat), fun W => ?_, fun w h => ?_⟩
  · have hel : P.elem t = e := by simp [Program.elem, ht]
    have hu : P.underlying t = some (.slice (P.elem t)) := by rw [hel]; exact ht
    rw [run_slice_lhm W t A xs.length c hu .i64 .i64 .i64 a b b h0 h1 (Int.le_refl _) (by omega), hel]
    simp [sizeOf, typeInfo, hi, hsz, sliced, Result.andThen]
  · have h2 := ((Kd.reads_of_C (d := (0 : Int)) h).take_ b.toNat (by omega)).drop_ (c := b.toNat) a.toNat (by omega) (by omega)
    exact Kd.C_of_reads h2

/-- The cut's bytes as a string. -/
theorem cut3_str {w : World} {A' : Option Addr} {n c : Nat} {xs : List Int} (h : Kd.C (Kd.int .u8) w A' n xs) :
    (convert 22 9 (.slice A' n c)).run Tryd.prog w = .ok (.string (strOfNums xs)) w := by
  exact Kd.C_string Tryd.underlying22 Tryd.underlying5 Tryd.underlying9 h

section
variable (gz : Nat) (V F : Value) (pos st n : Int) (w : World) (hz : w.heap[gz]? = some (.cells #[V, .int .i64 pos, .int .i64 st, .nilIface, F] 74 (0, 0)))
include hz
set_option maxHeartbeats 400000
theorem move_calls :
    Calls Tryd.prog 18 #[.pointer (some ⟨gz, 0, none⟩), .int .i64 n] w fun e w' => e = .returned (.tuple #[]) ∧ w.setCell ⟨gz, 1, none⟩ (.int .i64 (wrap64 (pos + n))) = w' := by
  have c1 : w.cell? ⟨gz, 1, none⟩ = some (.int .i64 pos) := (blk_cell hz 1).trans rfl
  have f1 := blk_frozen hz 1
  clear hz
  go_enter Tryd.func18, Tryd.ntmps18
  go_wp2
  go_end0
  exact ⟨rfl, rfl⟩
theorem rewind_calls :
    Calls Tryd.prog 19 #[.pointer (some ⟨gz, 0, none⟩), .int .i64 n] w fun e w' => e = .returned (.tuple #[]) ∧ w.setCell ⟨gz, 1, none⟩ (.int .i64 (wrap64 (st + n))) = w' := by
  have c1 : w.cell? ⟨gz, 1, none⟩ = some (.int .i64 pos) := (blk_cell hz 1).trans rfl
  have c2 : w.cell? ⟨gz, 2, none⟩ = some (.int .i64 st) := (blk_cell hz 2).trans rfl
  have f1 := blk_frozen hz 1
  clear hz
  go_enter Tryd.func19, Tryd.ntmps19
  go_wp2
  go_end0
  exact ⟨rfl, rfl⟩
theorem skip_calls :
    Calls Tryd.prog 21 #[.pointer (some ⟨gz, 0, none⟩)] w fun e w' => e = .returned (.tuple #[]) ∧ w.setCell ⟨gz, 2, none⟩ (.int .i64 pos) = w' := by
  have c1 : w.cell? ⟨gz, 1, none⟩ = some (.int .i64 pos) := (blk_cell hz 1).trans rfl
  have c2 : w.cell? ⟨gz, 2, none⟩ = some (.int .i64 st) := (blk_cell hz 2).trans rfl
  have f1 := blk_frozen hz 2
  clear hz
  go_enter Tryd.func21, Tryd.ntmps21
  go_wp2
  go_end0
  exact ⟨rfl, rfl⟩
theorem reset_calls :
    Calls Tryd.prog 30 #[.pointer (some ⟨gz, 0, none⟩)] w fun e w' => e = .returned (.tuple #[]) ∧ (w.setCell ⟨gz, 2, none⟩ (.int .i64 0)).setCell ⟨gz, 1, none⟩ (.int .i64 0) = w' := by
  have c1 : w.cell? ⟨gz, 1, none⟩ = some (.int .i64 pos) := (blk_cell hz 1).trans rfl
  have c2 : w.cell? ⟨gz, 2, none⟩ = some (.int .i64 st) := (blk_cell hz 2).trans rfl
  have f1 := blk_frozen hz 2
  have f2 := blk_frozen hz 1
  clear hz
  go_enter Tryd.func30, Tryd.ntmps30
  go_wp2
  go_end0
  exact ⟨rfl, rfl⟩
theorem offset_calls :
    Calls Tryd.prog 27 #[.pointer (some ⟨gz, 0, none⟩)] w fun e w' => e = .returned (.int .i64 pos) ∧ Drawn0 w w' := by
  have c1 : w.cell? ⟨gz, 1, none⟩ = some (.int .i64 pos) := (blk_cell hz 1).trans rfl
  clear hz
  go_enter Tryd.func27, Tryd.ntmps27
  go_wp2
  go_ret
  exact ⟨rfl, by repeat (first | exact Drawn0.refl _ | apply Drawn0.step)⟩
theorem pos_calls :
    Calls Tryd.prog 26 #[.pointer (some ⟨gz, 0, none⟩)] w fun e w' => e = .returned (.int .i64 (wrap64 (pos - st))) ∧ Drawn0 w w' := by
  have c1 : w.cell? ⟨gz, 1, none⟩ = some (.int .i64 pos) := (blk_cell hz 1).trans rfl
  have c2 : w.cell? ⟨gz, 2, none⟩ = some (.int .i64 st) := (blk_cell hz 2).trans rfl
  clear hz
  go_enter Tryd.func26, Tryd.ntmps26
  go_wp2
  go_quiet (fail)
  go_wp2
  go_ret
  exact ⟨rfl, by repeat (first | exact Drawn0.refl _ | apply Drawn0.step)⟩
end
section
variable (gz gb : Nat) (F : Value) (pos st : Int) (bs : List Int) (cap : Nat) (w : World)
  (hz : w.heap[gz]? = some (.cells #[.slice (some ⟨gb, 0, none⟩) bs.length cap, .int .i64 pos, .int .i64 st, .nilIface, F] 74 (0, 0)))
include hz
theorem peek_calls (i : Int) (hb : ∀ i : Nat, i < bs.length → w.cell? ⟨gb, i, none⟩ = some (.int .u8 (rd bs i))) (h0 : 0 ≤ wrap64 (i + pos)) (h1 : wrap64 (i + pos) < bs.length) :
    Calls Tryd.prog 22 #[.pointer (some ⟨gz, 0, none⟩), .int .i64 i] w fun e w' => e = .returned (.int .u8 (rd bs (wrap64 (i + pos)))) ∧ Drawn0 w w' := by
  have c0 : w.cell? ⟨gz, 0, none⟩ = some (.slice (some ⟨gb, 0, none⟩) bs.length cap) := (blk_cell hz 0).trans rfl
  have c1 : w.cell? ⟨gz, 1, none⟩ = some (.int .i64 pos) := (blk_cell hz 1).trans rfl
  clear hz
  obtain ⟨p, hp⟩ : ∃ p, wrap64 (i + pos) = p := ⟨_, rfl⟩
  rw [hp] at h0 h1 ⊢
  have Hp := Aside0.mk hp
  obtain ⟨q, rfl⟩ := Int.eq_ofNat_of_zero_le h0
  have hc := hb q (by omega)
  clear hb
  have h1b : decide ((q : Int) < bs.length) = true := decide_eq_true h1
  have h1c : q < bs.length := by omega
  clear h0
  go_enter Tryd.func22, Tryd.ntmps22
  go_wp2
  go_ret
  exact ⟨rfl, by repeat (first | exact Drawn0.refl _ | apply Drawn0.step)⟩
theorem peekErr_nil_calls (i : Int) (h : ((bs.length : Int) - 1 ≤ wrap64 (pos + i)) = False) (hl : bs.length ≤ 1000000) :
    Calls Tryd.prog 24 #[.pointer (some ⟨gz, 0, none⟩), .int .i64 i] w fun e w' => e = .returned .nilIface ∧ Drawn0 w w' := by
  have c0 : w.cell? ⟨gz, 0, none⟩ = some (.slice (some ⟨gb, 0, none⟩) bs.length cap) := (blk_cell hz 0).trans rfl
  have c1 : w.cell? ⟨gz, 1, none⟩ = some (.int .i64 pos) := (blk_cell hz 1).trans rfl
  have c3 : w.cell? ⟨gz, 3, none⟩ = some .nilIface := (blk_cell hz 3).trans rfl
  clear hz
  have hd : decide ((bs.length : Int) - 1 ≤ wrap64 (pos + i)) = false := decide_eq_false (by rw [h]; exact not_false)
  go_enter Tryd.func24, Tryd.ntmps24
  go_wp2
  go_quiet (fail)
  go_wp2
  go_ret
  exact ⟨rfl, by repeat (first | exact Drawn0.refl _ | apply Drawn0.step)⟩
theorem peekErr_eof_calls (i : Int) (T : TypeId) (ev : Value) (hg : w.cell? ⟨0, 0, none⟩ = some (.iface T ev)) (h : ((bs.length : Int) - 1 ≤ wrap64 (pos + i)) = True) (hl : bs.length ≤ 1000000) :
    Calls Tryd.prog 24 #[.pointer (some ⟨gz, 0, none⟩), .int .i64 i] w fun e w' => e = .returned (.iface T ev) ∧ Drawn0 w w' := by
  have c0 : w.cell? ⟨gz, 0, none⟩ = some (.slice (some ⟨gb, 0, none⟩) bs.length cap) := (blk_cell hz 0).trans rfl
  have c1 : w.cell? ⟨gz, 1, none⟩ = some (.int .i64 pos) := (blk_cell hz 1).trans rfl
  have c3 : w.cell? ⟨gz, 3, none⟩ = some .nilIface := (blk_cell hz 3).trans rfl
  clear hz
  have hd : decide ((bs.length : Int) - 1 ≤ wrap64 (pos + i)) = true := decide_eq_true (by rw [h]; exact trivial)
  go_enter Tryd.func24, Tryd.ntmps24
  go_wp2
  go_quiet (fail)
  go_wp2

  go_ret
  exact ⟨rfl, by repeat (first | exact Drawn0.refl _ | apply Drawn0.step)⟩

theorem lexeme_calls (A' : Option Addr) (hcut : ∀ W : World, (Instr.slice 22 (.slice (some ⟨gb, 0, none⟩) bs.length cap) (some (.int .i64 st)) (some (.int .i64 pos)) (some (.int .i64 pos))).run Tryd.prog W = .ok (.slice A' (pos.toNat - st.toNat) (pos.toNat - st.toNat)) W) :
    Calls Tryd.prog 25 #[.pointer (some ⟨gz, 0, none⟩)] w fun e w' => e = .returned (.slice A' (pos.toNat - st.toNat) (pos.toNat - st.toNat)) ∧ Drawn0 w w' := by
  have c0 : w.cell? ⟨gz, 0, none⟩ = some (.slice (some ⟨gb, 0, none⟩) bs.length cap) := (blk_cell hz 0).trans rfl
  have c1 : w.cell? ⟨gz, 1, none⟩ = some (.int .i64 pos) := (blk_cell hz 1).trans rfl
  have c2 : w.cell? ⟨gz, 2, none⟩ = some (.int .i64 st) := (blk_cell hz 2).trans rfl
  clear hz
  obtain ⟨n, hn⟩ : ∃ n, pos.toNat - st.toNat = n := ⟨_, rfl⟩
  rw [hn] at hcut ⊢
  clear hn
  go_enter Tryd.func25, Tryd.ntmps25
  go_wp2
  go_quiet (fail)
  go_wp2
  go_ret
  exact ⟨rfl, by repeat (first | exact Drawn0.refl _ | apply Drawn0.step)⟩
theorem shift_calls (A' : Option Addr) (hcut : ∀ W : World, (Instr.slice 22 (.slice (some ⟨gb, 0, none⟩) bs.length cap) (some (.int .i64 st)) (some (.int .i64 pos)) (some (.int .i64 pos))).run Tryd.prog W = .ok (.slice A' (pos.toNat - st.toNat) (pos.toNat - st.toNat)) W) :
    Calls Tryd.prog 20 #[.pointer (some ⟨gz, 0, none⟩)] w fun e w' => e = .returned (.slice A' (pos.toNat - st.toNat) (pos.toNat - st.toNat)) ∧ ∃ n, w' = (w.drewN n).setCell ⟨gz, 2, none⟩ (.int .i64 pos) := by
  have c0 : w.cell? ⟨gz, 0, none⟩ = some (.slice (some ⟨gb, 0, none⟩) bs.length cap) := (blk_cell hz 0).trans rfl
  have c1 : w.cell? ⟨gz, 1, none⟩ = some (.int .i64 pos) := (blk_cell hz 1).trans rfl
  have c2 : w.cell? ⟨gz, 2, none⟩ = some (.int .i64 st) := (blk_cell hz 2).trans rfl
  have f2 := blk_frozen hz 2
  clear hz
  obtain ⟨n, hn⟩ : ∃ n, pos.toNat - st.toNat = n := ⟨_, rfl⟩
  rw [hn] at hcut ⊢
  clear hn
  go_enter Tryd.func20, Tryd.ntmps20
  go_wp2
  go_quiet (fail)
  go_wp2

  go_ret
  exact ⟨rfl, _, rfl⟩
end
end Go.Proofs.YtojgpdphdhcjiaaDoor.InpM
