-- PRINTED BY print.sh 35421559b90ae4d0a3588c463048766b98c2df88dd9212a6774a882060cdf62d: not written by this session
import Derived.Test.YtojgpdphdhcjiaaDoorPFnInputx0
import Derived.Test.YtojgpdphdhcjiaaDoorPFnInputx1
namespace Go.Proofs.YtojgpdphdhcjiaaDoor.PFnInput
open Go.RowKit Go.Proofs.YtojgpdphdhcjiaaDoorW.PrintWords Go.Proofs.YtojgpdphdhcjiaaDoorW.PrintLast Go.Proofs.YtojgpdphdhcjiaaDoorW.PrintMore
attribute [local go_sem] max2_int min2_int max_two min_two max_three min_three max_four min_four   -- for this text's walks alone
set_option linter.unusedVariables false
set_option linter.unusedSimpArgs false

attribute [local go_sem high] eqA46
/-! ### laws_sameAnswers: function 7 -/
def laws_sameAnswers.l0 : Nat → List (S46) → List (S46) → Int → Int → Option (Bool)
  | 0, _, _, _, _ => none
  | k + 1, x1, x12, x13, x14 => if x14 < x13 then (if 0 ≤ x14 then (if x14 < (x12.length : Int) then (if x14 < (x1.length : Int) then (if (!(((rd_T46 x12 x14).f0) == ((rd_T46 x1 x14).f0)) || (!(((rd_T46 x12 x14).f1) == ((rd_T46 x1 x14).f1)) || (!((((rd_T46 x12 x14).f2).toList) == (((rd_T46 x1 x14).f2).toList))))) = true then (some false) else (laws_sameAnswers.l0 k x1 x12 x13 (wrap64 (x14 + 1)))) else (none)) else (none)) else (none)) else (some true)
def laws_sameAnswers.f (k : Nat) (l0 : List (S46)) (l1 : List (S46)) : Option (Bool) := if (l0.length : Int) = (l1.length : Int) then (laws_sameAnswers.l0 k l1 l0 (l0.length : Int) 0) else (some false)
theorem laws_sameAnswers.mono_l : ∀ k, (∀ y0 y1 y2 y3, LeO (laws_sameAnswers.l0 k y0 y1 y2 y3) (laws_sameAnswers.l0 (k + 1) y0 y1 y2 y3))
  | 0 => fun _ _ _ _ r h => by simp [laws_sameAnswers.l0] at h
  | k + 1 => by
    have ih0 := laws_sameAnswers.mono_l k
    · intro y0 y1 y2 y3
      unfold laws_sameAnswers.l0
      repeat' first
      | (with_reducible exact ih0 _ _ _ _)
      | (with_reducible exact LeO.refl _)
      | (with_reducible exact LeO.none _)
      | (with_reducible refine LeO.ite ?_ ?_)
      | (with_reducible refine LeO.bind ?_ (fun _ => ?_))
      | exact ih0 _ _ _ _
      | exact LeO.none _
      | refine LeO.ite ?_ ?_
      | refine LeO.bind ?_ (fun _ => ?_)
theorem laws_sameAnswers.mono : ∀ a0 a1 k, LeO (laws_sameAnswers.f k a0 a1) (laws_sameAnswers.f (k + 1) a0 a1) := by
  intro a0 a1 k
  have ih0 := laws_sameAnswers.mono_l k
  unfold laws_sameAnswers.f
  repeat' first
      | (with_reducible exact ih0 _ _ _ _)
      | (with_reducible exact LeO.refl _)
      | (with_reducible exact LeO.none _)
      | (with_reducible refine LeO.ite ?_ ?_)
      | (with_reducible refine LeO.bind ?_ (fun _ => ?_))
      | exact ih0 _ _ _ _
      | exact LeO.none _
      | refine LeO.ite ?_ ?_
      | refine LeO.bind ?_ (fun _ => ?_)
set_option maxHeartbeats 8000000 in
set_option maxRecDepth 100000 in
theorem laws_sameAnswers.calls (k : Nat) (A0 : Option Addr) (c0 : Nat) (l0 : List (S46)) (A1 : Option Addr) (c1 : Nat) (l1 : List (S46)) (r : Bool) (w : World) (hr0 : Kd.C k46 w A0 l0.length l0) (hc0 : l0.length ≤ c0) (hr1 : Kd.C k46 w A1 l1.length l1) (hc1 : l1.length ≤ c1) (h : laws_sameAnswers.f k l0 l1 = some r) :
    Calls Tryd.prog 7 #[.slice A0 l0.length c0, .slice A1 l1.length c1] w fun e w' => e = .returned (.bool r) ∧ Below w.heap.size w w' := by
  have hu46 := Tryd.underlying46
  have HR0 := Aside0.mk hr0
  have HC0 := Aside0.mk hc0
  clear hr0 hc0
  have HR1 := Aside0.mk hr1
  have HC1 := Aside0.mk hc1
  clear hr1 hc1
  have HB := Aside0.mk (Below.refl w.heap.size w)
  have H : (if (l0.length : Int) = (l1.length : Int) then (laws_sameAnswers.l0 k l1 l0 (l0.length : Int) 0) else (some false)) = some r := h
  clear h
  by_cases c3 : (l0.length : Int) = (l1.length : Int)
  · rw [if_pos c3] at H
    have c3b0 : ((l0.length : Int) == (l1.length : Int)) = true := beq_iff_eq.mpr c3
    have c3b1 : ((l0.length : Int) != (l1.length : Int)) = false := bne_eq_false_iff_eq.mpr c3
    have c3b2 : (l0.length == l1.length) = true := by first | simpa using c3 | (simp at c3 ⊢; omega)
    clear c3
    have H' := Aside0.mk H
    clear H
    go_enter Tryd.func7, Tryd.ntmps7
    go_wp2
    repeat (go_quiet (fail); try go_wp2)
    go_loopg [14] k (fun kq v14 w' => ∃ (x14_1 : Int), v14 = .int .i64 x14_1 ∧ Aside0 (laws_sameAnswers.l0 kq l1 l0 (l0.length : Int) x14_1 = some r) ∧ Aside0 (kq ≤ k) ∧ Aside0 (Below w.heap.size w w'))
    case atStart => exact ⟨(0), (by first | rfl | (simp; done) | (simp [*]; done)), H', ⟨Nat.le_refl _⟩, ⟨by repeat (first | (with_reducible first | exact HB.out | apply below_alloc | apply pw_below_drewN | apply below_drew1) | exact HB.out)⟩⟩
    case round =>
      clear H'
      try clear c1
      try clear p2
      try clear c3
      try clear c3b0
      try clear c3b1
      try clear c3b2
      obtain ⟨x14_1, rfl, HA, HK1, HB⟩ := hrel
      cases gk with
      | zero => exact absurd HA.out (by simp [laws_sameAnswers.l0])
      | succ k1 =>
        have H := HA.out
        clear HA
        simp only [laws_sameAnswers.l0] at H
        by_cases c4 : x14_1 < (l0.length : Int)
        · rw [if_pos c4] at H
          have c4b0 : decide (x14_1 < (l0.length : Int)) = true := decide_eq_true c4
          clear c4
          by_cases c5 : 0 ≤ x14_1
          · rw [if_pos c5] at H
            have c5b0 : decide (0 ≤ x14_1) = true := decide_eq_true c5
            clear c5
            by_cases c6 : x14_1 < (l0.length : Int)
            · rw [if_pos c6] at H
              have c6b0 : decide (x14_1 < (l0.length : Int)) = true := decide_eq_true c6
              clear c6
              by_cases c7 : x14_1 < (l1.length : Int)
              · rw [if_pos c7] at H
                have c7b0 : decide (x14_1 < (l1.length : Int)) = true := decide_eq_true c7
                clear c7
                by_cases c8 : (!(((rd_T46 l0 x14_1).f0) == ((rd_T46 l1 x14_1).f0)) || (!(((rd_T46 l0 x14_1).f1) == ((rd_T46 l1 x14_1).f1)) || (!((((rd_T46 l0 x14_1).f2).toList) == (((rd_T46 l1 x14_1).f2).toList))))) = true
                · rw [if_pos c8] at H
                  have c8b0 : (!(((rd_T46 l0 x14_1).f0) == ((rd_T46 l1 x14_1).f0)) || (!(((rd_T46 l0 x14_1).f1) == ((rd_T46 l1 x14_1).f1)) || (!((((rd_T46 l0 x14_1).f2).toList) == (((rd_T46 l1 x14_1).f2).toList))))) = true := c8
                  clear c8
                  obtain rfl := Option.some.inj H
                  have p127 : 0 ≤ (x14_1 : Int) := of_decide_eq_true (by first | (with_reducible assumption) | assumption)
                  have q127 : x14_1 < (l0.length : Int) := of_decide_eq_true (by first | (with_reducible assumption) | assumption)
                  obtain ⟨ad127, e127, hx127_0, hx127_1, hx127_2⟩ := at_T46 HR0.out x14_1 p127 q127
                  cases e127
                  replace hx127_0 := (HB.out.cell (World.block_lt_of_cell? w _ hx127_0)).trans hx127_0
                  replace hx127_1 := (HB.out.cell (World.block_lt_of_cell? w _ hx127_1)).trans hx127_1
                  replace hx127_2 := (HB.out.cell (World.block_lt_of_cell? w _ hx127_2)).trans hx127_2
                  replace p127 := eq_true p127
                  replace q127 := eq_true q127
                  go_wp2_with (first | ((with_reducible refine gate_dst (N := 6) rfl ?_); refine box_event ?hg (N := 6) ?hd (cs := #[.int .i64 0, .int .i64 0, .string (⟨#[]⟩ : ByteArray)]) (t := 46) ?hr ?_; (case hd => rfl); (case hg => rfl); (case hr => first | (go_simp; done) | (go_simp; rfl)); intro gb128 hg w9 hbox hb; have n0_ := Aside0.mk (below_step (by repeat (first | (with_reducible first | exact HB.out | apply below_alloc | apply pw_below_drewN | apply below_drew1) | exact HB.out)) hb); have n1_ := Aside0.mk (hbox); have n2_ := Aside0.mk ((by rw [hg]; exact (below_size (by repeat (first | (with_reducible first | exact HB.out | apply below_alloc | apply pw_below_drewN | apply below_drew1) | exact HB.out))) : w.heap.size ≤ gb128)); have n3_ := Aside0.mk ((by rw [hg]; exact (below_size (by repeat (first | (with_reducible first | exact HB.out | apply below_alloc | apply pw_below_drewN | apply below_drew1) | exact HB.out))) : w.heap.size ≤ gb128)); clear HB; have HB := n0_; have BK128 := n1_; have GW128 := n2_; have GE128 := n3_; clear n0_ n1_ n2_ n3_; clear hb hbox hg; have hcz10_0 : w9.cell? ⟨gb128, 0, none⟩ = some (.int .i64 0) := (blk_cell BK128.out 0).trans rfl; have hcz10_1 : w9.cell? ⟨gb128, 1, none⟩ = some (.int .i64 0) := (blk_cell BK128.out 1).trans rfl; have hcz10_2 : w9.cell? ⟨gb128, 2, none⟩ = some (.string (⟨#[]⟩ : ByteArray)) := (blk_cell BK128.out 2).trans rfl; have hfz10_0 := blk_frozen BK128.out 0; have hfz10_1 := blk_frozen BK128.out 1; have hfz10_2 := blk_frozen BK128.out 2; have p129 : 0 ≤ (x14_1 : Int) := of_decide_eq_true (by first | (with_reducible assumption) | assumption); have q129 : x14_1 < (l1.length : Int) := of_decide_eq_true (by first | (with_reducible assumption) | assumption); obtain ⟨ad129, e129, hx129_0, hx129_1, hx129_2⟩ := at_T46 HR1.out x14_1 p129 q129; cases e129; have hn129_0 : ad129.block ≠ gb128 := Nat.ne_of_lt (Nat.lt_of_lt_of_le (by have := World.block_lt_of_cell? _ _ hx129_0; first | rwa [add_block] at this | exact this) GW128.out); have hn129_1 : ad129.block ≠ gb128 := Nat.ne_of_lt (Nat.lt_of_lt_of_le (by have := World.block_lt_of_cell? _ _ hx129_0; first | rwa [add_block] at this | exact this) GW128.out); have hn129_2 : ad129.block ≠ gb128 := Nat.ne_of_lt (Nat.lt_of_lt_of_le (by have := World.block_lt_of_cell? _ _ hx129_0; first | rwa [add_block] at this | exact this) GW128.out); replace hx129_0 := (HB.out.cell (World.block_lt_of_cell? w _ hx129_0)).trans hx129_0; replace hx129_1 := (HB.out.cell (World.block_lt_of_cell? w _ hx129_1)).trans hx129_1; replace hx129_2 := (HB.out.cell (World.block_lt_of_cell? w _ hx129_2)).trans hx129_2; replace hx129_0 := (cell_far (p := ⟨gb128, 0, none⟩) (by first | (rw [add_block]; exact hn129_0) | (show (Addr.add _ _).block ≠ _; rw [add_block]; exact hn129_0) | exact hn129_0) (.int .i64 ((rd_T46 l0 x14_1).f0))).trans hx129_0; replace hx129_1 := (cell_far (p := ⟨gb128, 0, none⟩) (by first | (rw [add_block]; exact hn129_0) | (show (Addr.add _ _).block ≠ _; rw [add_block]; exact hn129_0) | exact hn129_0) (.int .i64 ((rd_T46 l0 x14_1).f0))).trans hx129_1; replace hx129_2 := (cell_far (p := ⟨gb128, 0, none⟩) (by first | (rw [add_block]; exact hn129_0) | (show (Addr.add _ _).block ≠ _; rw [add_block]; exact hn129_0) | exact hn129_0) (.int .i64 ((rd_T46 l0 x14_1).f0))).trans hx129_2; replace hx129_0 := (cell_far (p := ⟨gb128, 1, none⟩) (by first | (rw [add_block]; exact hn129_1) | (show (Addr.add _ _).block ≠ _; rw [add_block]; exact hn129_1) | exact hn129_1) (.int .i64 ((rd_T46 l0 x14_1).f1))).trans hx129_0; replace hx129_1 := (cell_far (p := ⟨gb128, 1, none⟩) (by first | (rw [add_block]; exact hn129_1) | (show (Addr.add _ _).block ≠ _; rw [add_block]; exact hn129_1) | exact hn129_1) (.int .i64 ((rd_T46 l0 x14_1).f1))).trans hx129_1; replace hx129_2 := (cell_far (p := ⟨gb128, 1, none⟩) (by first | (rw [add_block]; exact hn129_1) | (show (Addr.add _ _).block ≠ _; rw [add_block]; exact hn129_1) | exact hn129_1) (.int .i64 ((rd_T46 l0 x14_1).f1))).trans hx129_2; replace hx129_0 := (cell_far (p := ⟨gb128, 2, none⟩) (by first | (rw [add_block]; exact hn129_2) | (show (Addr.add _ _).block ≠ _; rw [add_block]; exact hn129_2) | exact hn129_2) (.string ((rd_T46 l0 x14_1).f2))).trans hx129_0; replace hx129_1 := (cell_far (p := ⟨gb128, 2, none⟩) (by first | (rw [add_block]; exact hn129_2) | (show (Addr.add _ _).block ≠ _; rw [add_block]; exact hn129_2) | exact hn129_2) (.string ((rd_T46 l0 x14_1).f2))).trans hx129_1; replace hx129_2 := (cell_far (p := ⟨gb128, 2, none⟩) (by first | (rw [add_block]; exact hn129_2) | (show (Addr.add _ _).block ≠ _; rw [add_block]; exact hn129_2) | exact hn129_2) (.string ((rd_T46 l0 x14_1).f2))).trans hx129_2; (try have hy129_0 := fun (n_ : Nat) => (show (((((w9.drewN n_).setCell ⟨gb128, 0, none⟩ (.int .i64 ((rd_T46 l0 x14_1).f0))).setCell ⟨gb128, 1, none⟩ (.int .i64 ((rd_T46 l0 x14_1).f1))).setCell ⟨gb128, 2, none⟩ (.string ((rd_T46 l0 x14_1).f2)))).cell? _ = some _ from hx129_0)); (try have hy129_1 := fun (n_ : Nat) => (show (((((w9.drewN n_).setCell ⟨gb128, 0, none⟩ (.int .i64 ((rd_T46 l0 x14_1).f0))).setCell ⟨gb128, 1, none⟩ (.int .i64 ((rd_T46 l0 x14_1).f1))).setCell ⟨gb128, 2, none⟩ (.string ((rd_T46 l0 x14_1).f2)))).cell? _ = some _ from hx129_1)); (try have hy129_2 := fun (n_ : Nat) => (show (((((w9.drewN n_).setCell ⟨gb128, 0, none⟩ (.int .i64 ((rd_T46 l0 x14_1).f0))).setCell ⟨gb128, 1, none⟩ (.int .i64 ((rd_T46 l0 x14_1).f1))).setCell ⟨gb128, 2, none⟩ (.string ((rd_T46 l0 x14_1).f2)))).cell? _ = some _ from hx129_2)); clear hn129_0; clear hn129_1; clear hn129_2; replace p129 := eq_true p129; replace q129 := eq_true q129))
                  repeat (go_quiet (first | ((with_reducible refine gate_dst (N := 6) rfl ?_); refine box_event ?hg (N := 6) ?hd (cs := #[.int .i64 0, .int .i64 0, .string (⟨#[]⟩ : ByteArray)]) (t := 46) ?hr ?_; (case hd => rfl); (case hg => rfl); (case hr => first | (go_simp; done) | (go_simp; rfl)); intro gb128 hg w9 hbox hb; have n0_ := Aside0.mk (below_step (by repeat (first | (with_reducible first | exact HB.out | apply below_alloc | apply pw_below_drewN | apply below_drew1) | exact HB.out)) hb); have n1_ := Aside0.mk (hbox); have n2_ := Aside0.mk ((by rw [hg]; exact (below_size (by repeat (first | (with_reducible first | exact HB.out | apply below_alloc | apply pw_below_drewN | apply below_drew1) | exact HB.out))) : w.heap.size ≤ gb128)); have n3_ := Aside0.mk ((by rw [hg]; exact (below_size (by repeat (first | (with_reducible first | exact HB.out | apply below_alloc | apply pw_below_drewN | apply below_drew1) | exact HB.out))) : w.heap.size ≤ gb128)); clear HB; have HB := n0_; have BK128 := n1_; have GW128 := n2_; have GE128 := n3_; clear n0_ n1_ n2_ n3_; clear hb hbox hg; have hcz10_0 : w9.cell? ⟨gb128, 0, none⟩ = some (.int .i64 0) := (blk_cell BK128.out 0).trans rfl; have hcz10_1 : w9.cell? ⟨gb128, 1, none⟩ = some (.int .i64 0) := (blk_cell BK128.out 1).trans rfl; have hcz10_2 : w9.cell? ⟨gb128, 2, none⟩ = some (.string (⟨#[]⟩ : ByteArray)) := (blk_cell BK128.out 2).trans rfl; have hfz10_0 := blk_frozen BK128.out 0; have hfz10_1 := blk_frozen BK128.out 1; have hfz10_2 := blk_frozen BK128.out 2; have p129 : 0 ≤ (x14_1 : Int) := of_decide_eq_true (by first | (with_reducible assumption) | assumption); have q129 : x14_1 < (l1.length : Int) := of_decide_eq_true (by first | (with_reducible assumption) | assumption); obtain ⟨ad129, e129, hx129_0, hx129_1, hx129_2⟩ := at_T46 HR1.out x14_1 p129 q129; cases e129; have hn129_0 : ad129.block ≠ gb128 := Nat.ne_of_lt (Nat.lt_of_lt_of_le (by have := World.block_lt_of_cell? _ _ hx129_0; first | rwa [add_block] at this | exact this) GW128.out); have hn129_1 : ad129.block ≠ gb128 := Nat.ne_of_lt (Nat.lt_of_lt_of_le (by have := World.block_lt_of_cell? _ _ hx129_0; first | rwa [add_block] at this | exact this) GW128.out); have hn129_2 : ad129.block ≠ gb128 := Nat.ne_of_lt (Nat.lt_of_lt_of_le (by have := World.block_lt_of_cell? _ _ hx129_0; first | rwa [add_block] at this | exact this) GW128.out); replace hx129_0 := (HB.out.cell (World.block_lt_of_cell? w _ hx129_0)).trans hx129_0; replace hx129_1 := (HB.out.cell (World.block_lt_of_cell? w _ hx129_1)).trans hx129_1; replace hx129_2 := (HB.out.cell (World.block_lt_of_cell? w _ hx129_2)).trans hx129_2; replace hx129_0 := (cell_far (p := ⟨gb128, 0, none⟩) (by first | (rw [add_block]; exact hn129_0) | (show (Addr.add _ _).block ≠ _; rw [add_block]; exact hn129_0) | exact hn129_0) (.int .i64 ((rd_T46 l0 x14_1).f0))).trans hx129_0; replace hx129_1 := (cell_far (p := ⟨gb128, 0, none⟩) (by first | (rw [add_block]; exact hn129_0) | (show (Addr.add _ _).block ≠ _; rw [add_block]; exact hn129_0) | exact hn129_0) (.int .i64 ((rd_T46 l0 x14_1).f0))).trans hx129_1; replace hx129_2 := (cell_far (p := ⟨gb128, 0, none⟩) (by first | (rw [add_block]; exact hn129_0) | (show (Addr.add _ _).block ≠ _; rw [add_block]; exact hn129_0) | exact hn129_0) (.int .i64 ((rd_T46 l0 x14_1).f0))).trans hx129_2; replace hx129_0 := (cell_far (p := ⟨gb128, 1, none⟩) (by first | (rw [add_block]; exact hn129_1) | (show (Addr.add _ _).block ≠ _; rw [add_block]; exact hn129_1) | exact hn129_1) (.int .i64 ((rd_T46 l0 x14_1).f1))).trans hx129_0; replace hx129_1 := (cell_far (p := ⟨gb128, 1, none⟩) (by first | (rw [add_block]; exact hn129_1) | (show (Addr.add _ _).block ≠ _; rw [add_block]; exact hn129_1) | exact hn129_1) (.int .i64 ((rd_T46 l0 x14_1).f1))).trans hx129_1; replace hx129_2 := (cell_far (p := ⟨gb128, 1, none⟩) (by first | (rw [add_block]; exact hn129_1) | (show (Addr.add _ _).block ≠ _; rw [add_block]; exact hn129_1) | exact hn129_1) (.int .i64 ((rd_T46 l0 x14_1).f1))).trans hx129_2; replace hx129_0 := (cell_far (p := ⟨gb128, 2, none⟩) (by first | (rw [add_block]; exact hn129_2) | (show (Addr.add _ _).block ≠ _; rw [add_block]; exact hn129_2) | exact hn129_2) (.string ((rd_T46 l0 x14_1).f2))).trans hx129_0; replace hx129_1 := (cell_far (p := ⟨gb128, 2, none⟩) (by first | (rw [add_block]; exact hn129_2) | (show (Addr.add _ _).block ≠ _; rw [add_block]; exact hn129_2) | exact hn129_2) (.string ((rd_T46 l0 x14_1).f2))).trans hx129_1; replace hx129_2 := (cell_far (p := ⟨gb128, 2, none⟩) (by first | (rw [add_block]; exact hn129_2) | (show (Addr.add _ _).block ≠ _; rw [add_block]; exact hn129_2) | exact hn129_2) (.string ((rd_T46 l0 x14_1).f2))).trans hx129_2; (try have hy129_0 := fun (n_ : Nat) => (show (((((w9.drewN n_).setCell ⟨gb128, 0, none⟩ (.int .i64 ((rd_T46 l0 x14_1).f0))).setCell ⟨gb128, 1, none⟩ (.int .i64 ((rd_T46 l0 x14_1).f1))).setCell ⟨gb128, 2, none⟩ (.string ((rd_T46 l0 x14_1).f2)))).cell? _ = some _ from hx129_0)); (try have hy129_1 := fun (n_ : Nat) => (show (((((w9.drewN n_).setCell ⟨gb128, 0, none⟩ (.int .i64 ((rd_T46 l0 x14_1).f0))).setCell ⟨gb128, 1, none⟩ (.int .i64 ((rd_T46 l0 x14_1).f1))).setCell ⟨gb128, 2, none⟩ (.string ((rd_T46 l0 x14_1).f2)))).cell? _ = some _ from hx129_1)); (try have hy129_2 := fun (n_ : Nat) => (show (((((w9.drewN n_).setCell ⟨gb128, 0, none⟩ (.int .i64 ((rd_T46 l0 x14_1).f0))).setCell ⟨gb128, 1, none⟩ (.int .i64 ((rd_T46 l0 x14_1).f1))).setCell ⟨gb128, 2, none⟩ (.string ((rd_T46 l0 x14_1).f2)))).cell? _ = some _ from hx129_2)); clear hn129_0; clear hn129_1; clear hn129_2; replace p129 := eq_true p129; replace q129 := eq_true q129)); try go_wp2_with (first | ((with_reducible refine gate_dst (N := 6) rfl ?_); refine box_event ?hg (N := 6) ?hd (cs := #[.int .i64 0, .int .i64 0, .string (⟨#[]⟩ : ByteArray)]) (t := 46) ?hr ?_; (case hd => rfl); (case hg => rfl); (case hr => first | (go_simp; done) | (go_simp; rfl)); intro gb128 hg w9 hbox hb; have n0_ := Aside0.mk (below_step (by repeat (first | (with_reducible first | exact HB.out | apply below_alloc | apply pw_below_drewN | apply below_drew1) | exact HB.out)) hb); have n1_ := Aside0.mk (hbox); have n2_ := Aside0.mk ((by rw [hg]; exact (below_size (by repeat (first | (with_reducible first | exact HB.out | apply below_alloc | apply pw_below_drewN | apply below_drew1) | exact HB.out))) : w.heap.size ≤ gb128)); have n3_ := Aside0.mk ((by rw [hg]; exact (below_size (by repeat (first | (with_reducible first | exact HB.out | apply below_alloc | apply pw_below_drewN | apply below_drew1) | exact HB.out))) : w.heap.size ≤ gb128)); clear HB; have HB := n0_; have BK128 := n1_; have GW128 := n2_; have GE128 := n3_; clear n0_ n1_ n2_ n3_; clear hb hbox hg; have hcz10_0 : w9.cell? ⟨gb128, 0, none⟩ = some (.int .i64 0) := (blk_cell BK128.out 0).trans rfl; have hcz10_1 : w9.cell? ⟨gb128, 1, none⟩ = some (.int .i64 0) := (blk_cell BK128.out 1).trans rfl; have hcz10_2 : w9.cell? ⟨gb128, 2, none⟩ = some (.string (⟨#[]⟩ : ByteArray)) := (blk_cell BK128.out 2).trans rfl; have hfz10_0 := blk_frozen BK128.out 0; have hfz10_1 := blk_frozen BK128.out 1; have hfz10_2 := blk_frozen BK128.out 2; have p129 : 0 ≤ (x14_1 : Int) := of_decide_eq_true (by first | (with_reducible assumption) | assumption); have q129 : x14_1 < (l1.length : Int) := of_decide_eq_true (by first | (with_reducible assumption) | assumption); obtain ⟨ad129, e129, hx129_0, hx129_1, hx129_2⟩ := at_T46 HR1.out x14_1 p129 q129; cases e129; have hn129_0 : ad129.block ≠ gb128 := Nat.ne_of_lt (Nat.lt_of_lt_of_le (by have := World.block_lt_of_cell? _ _ hx129_0; first | rwa [add_block] at this | exact this) GW128.out); have hn129_1 : ad129.block ≠ gb128 := Nat.ne_of_lt (Nat.lt_of_lt_of_le (by have := World.block_lt_of_cell? _ _ hx129_0; first | rwa [add_block] at this | exact this) GW128.out); have hn129_2 : ad129.block ≠ gb128 := Nat.ne_of_lt (Nat.lt_of_lt_of_le (by have := World.block_lt_of_cell? _ _ hx129_0; first | rwa [add_block] at this | exact this) GW128.out); replace hx129_0 := (HB.out.cell (World.block_lt_of_cell? w _ hx129_0)).trans hx129_0; replace hx129_1 := (HB.out.cell (World.block_lt_of_cell? w _ hx129_1)).trans hx129_1; replace hx129_2 := (HB.out.cell (World.block_lt_of_cell? w _ hx129_2)).trans hx129_2; replace hx129_0 := (cell_far (p := ⟨gb128, 0, none⟩) (by first | (rw [add_block]; exact hn129_0) | (show (Addr.add _ _).block ≠ _; rw [add_block]; exact hn129_0) | exact hn129_0) (.int .i64 ((rd_T46 l0 x14_1).f0))).trans hx129_0; replace hx129_1 := (cell_far (p := ⟨gb128, 0, none⟩) (by first | (rw [add_block]; exact hn129_0) | (show (Addr.add _ _).block ≠ _; rw [add_block]; exact hn129_0) | exact hn129_0) (.int .i64 ((rd_T46 l0 x14_1).f0))).trans hx129_1; replace hx129_2 := (cell_far (p := ⟨gb128, 0, none⟩) (by first | (rw [add_block]; exact hn129_0) | (show (Addr.add _ _).block ≠ _; rw [add_block]; exact hn129_0) | exact hn129_0) (.int .i64 ((rd_T46 l0 x14_1).f0))).trans hx129_2; replace hx129_0 := (cell_far (p := ⟨gb128, 1, none⟩) (by first | (rw [add_block]; exact hn129_1) | (show (Addr.add _ _).block ≠ _; rw [add_block]; exact hn129_1) | exact hn129_1) (.int .i64 ((rd_T46 l0 x14_1).f1))).trans hx129_0; replace hx129_1 := (cell_far (p := ⟨gb128, 1, none⟩) (by first | (rw [add_block]; exact hn129_1) | (show (Addr.add _ _).block ≠ _; rw [add_block]; exact hn129_1) | exact hn129_1) (.int .i64 ((rd_T46 l0 x14_1).f1))).trans hx129_1; replace hx129_2 := (cell_far (p := ⟨gb128, 1, none⟩) (by first | (rw [add_block]; exact hn129_1) | (show (Addr.add _ _).block ≠ _; rw [add_block]; exact hn129_1) | exact hn129_1) (.int .i64 ((rd_T46 l0 x14_1).f1))).trans hx129_2; replace hx129_0 := (cell_far (p := ⟨gb128, 2, none⟩) (by first | (rw [add_block]; exact hn129_2) | (show (Addr.add _ _).block ≠ _; rw [add_block]; exact hn129_2) | exact hn129_2) (.string ((rd_T46 l0 x14_1).f2))).trans hx129_0; replace hx129_1 := (cell_far (p := ⟨gb128, 2, none⟩) (by first | (rw [add_block]; exact hn129_2) | (show (Addr.add _ _).block ≠ _; rw [add_block]; exact hn129_2) | exact hn129_2) (.string ((rd_T46 l0 x14_1).f2))).trans hx129_1; replace hx129_2 := (cell_far (p := ⟨gb128, 2, none⟩) (by first | (rw [add_block]; exact hn129_2) | (show (Addr.add _ _).block ≠ _; rw [add_block]; exact hn129_2) | exact hn129_2) (.string ((rd_T46 l0 x14_1).f2))).trans hx129_2; (try have hy129_0 := fun (n_ : Nat) => (show (((((w9.drewN n_).setCell ⟨gb128, 0, none⟩ (.int .i64 ((rd_T46 l0 x14_1).f0))).setCell ⟨gb128, 1, none⟩ (.int .i64 ((rd_T46 l0 x14_1).f1))).setCell ⟨gb128, 2, none⟩ (.string ((rd_T46 l0 x14_1).f2)))).cell? _ = some _ from hx129_0)); (try have hy129_1 := fun (n_ : Nat) => (show (((((w9.drewN n_).setCell ⟨gb128, 0, none⟩ (.int .i64 ((rd_T46 l0 x14_1).f0))).setCell ⟨gb128, 1, none⟩ (.int .i64 ((rd_T46 l0 x14_1).f1))).setCell ⟨gb128, 2, none⟩ (.string ((rd_T46 l0 x14_1).f2)))).cell? _ = some _ from hx129_1)); (try have hy129_2 := fun (n_ : Nat) => (show (((((w9.drewN n_).setCell ⟨gb128, 0, none⟩ (.int .i64 ((rd_T46 l0 x14_1).f0))).setCell ⟨gb128, 1, none⟩ (.int .i64 ((rd_T46 l0 x14_1).f1))).setCell ⟨gb128, 2, none⟩ (.string ((rd_T46 l0 x14_1).f2)))).cell? _ = some _ from hx129_2)); clear hn129_0; clear hn129_1; clear hn129_2; replace p129 := eq_true p129; replace q129 := eq_true q129)))
                  go_ret
                  exact ⟨by first | rfl | (simp [errW_none, errW_some] <;> rfl) | (simp [*, errW_none, errW_some] <;> rfl), by repeat (first | (with_reducible first | exact HB.out | apply below_alloc | apply pw_below_drewN | apply below_drew1 | refine below_set ?_ GE128.out) | exact HB.out)⟩
                · rw [if_neg c8] at H
                  have c8b0 : (!(((rd_T46 l0 x14_1).f0) == ((rd_T46 l1 x14_1).f0)) || (!(((rd_T46 l0 x14_1).f1) == ((rd_T46 l1 x14_1).f1)) || (!((((rd_T46 l0 x14_1).f2).toList) == (((rd_T46 l1 x14_1).f2).toList))))) = false := by simpa using c8
                  clear c8
                  have H' := Aside0.mk H
                  clear H
                  have p127 : 0 ≤ (x14_1 : Int) := of_decide_eq_true (by first | (with_reducible assumption) | assumption)
                  have q127 : x14_1 < (l0.length : Int) := of_decide_eq_true (by first | (with_reducible assumption) | assumption)
                  obtain ⟨ad127, e127, hx127_0, hx127_1, hx127_2⟩ := at_T46 HR0.out x14_1 p127 q127
                  cases e127
                  replace hx127_0 := (HB.out.cell (World.block_lt_of_cell? w _ hx127_0)).trans hx127_0
                  replace hx127_1 := (HB.out.cell (World.block_lt_of_cell? w _ hx127_1)).trans hx127_1
                  replace hx127_2 := (HB.out.cell (World.block_lt_of_cell? w _ hx127_2)).trans hx127_2
                  replace p127 := eq_true p127
                  replace q127 := eq_true q127
                  go_wp2_with (first | ((with_reducible refine gate_dst (N := 6) rfl ?_); refine box_event ?hg (N := 6) ?hd (cs := #[.int .i64 0, .int .i64 0, .string (⟨#[]⟩ : ByteArray)]) (t := 46) ?hr ?_; (case hd => rfl); (case hg => rfl); (case hr => first | (go_simp; done) | (go_simp; rfl)); intro gb128 hg w11 hbox hb; have n0_ := Aside0.mk (below_step (by repeat (first | (with_reducible first | exact HB.out | apply below_alloc | apply pw_below_drewN | apply below_drew1) | exact HB.out)) hb); have n1_ := Aside0.mk (hbox); have n2_ := Aside0.mk ((by rw [hg]; exact (below_size (by repeat (first | (with_reducible first | exact HB.out | apply below_alloc | apply pw_below_drewN | apply below_drew1) | exact HB.out))) : w.heap.size ≤ gb128)); have n3_ := Aside0.mk ((by rw [hg]; exact (below_size (by repeat (first | (with_reducible first | exact HB.out | apply below_alloc | apply pw_below_drewN | apply below_drew1) | exact HB.out))) : w.heap.size ≤ gb128)); clear HB; have HB := n0_; have BK128 := n1_; have GW128 := n2_; have GE128 := n3_; clear n0_ n1_ n2_ n3_; clear hb hbox hg; have hcz12_0 : w11.cell? ⟨gb128, 0, none⟩ = some (.int .i64 0) := (blk_cell BK128.out 0).trans rfl; have hcz12_1 : w11.cell? ⟨gb128, 1, none⟩ = some (.int .i64 0) := (blk_cell BK128.out 1).trans rfl; have hcz12_2 : w11.cell? ⟨gb128, 2, none⟩ = some (.string (⟨#[]⟩ : ByteArray)) := (blk_cell BK128.out 2).trans rfl; have hfz12_0 := blk_frozen BK128.out 0; have hfz12_1 := blk_frozen BK128.out 1; have hfz12_2 := blk_frozen BK128.out 2; have p129 : 0 ≤ (x14_1 : Int) := of_decide_eq_true (by first | (with_reducible assumption) | assumption); have q129 : x14_1 < (l1.length : Int) := of_decide_eq_true (by first | (with_reducible assumption) | assumption); obtain ⟨ad129, e129, hx129_0, hx129_1, hx129_2⟩ := at_T46 HR1.out x14_1 p129 q129; cases e129; have hn129_0 : ad129.block ≠ gb128 := Nat.ne_of_lt (Nat.lt_of_lt_of_le (by have := World.block_lt_of_cell? _ _ hx129_0; first | rwa [add_block] at this | exact this) GW128.out); have hn129_1 : ad129.block ≠ gb128 := Nat.ne_of_lt (Nat.lt_of_lt_of_le (by have := World.block_lt_of_cell? _ _ hx129_0; first | rwa [add_block] at this | exact this) GW128.out); have hn129_2 : ad129.block ≠ gb128 := Nat.ne_of_lt (Nat.lt_of_lt_of_le (by have := World.block_lt_of_cell? _ _ hx129_0; first | rwa [add_block] at this | exact this) GW128.out); replace hx129_0 := (HB.out.cell (World.block_lt_of_cell? w _ hx129_0)).trans hx129_0; replace hx129_1 := (HB.out.cell (World.block_lt_of_cell? w _ hx129_1)).trans hx129_1; replace hx129_2 := (HB.out.cell (World.block_lt_of_cell? w _ hx129_2)).trans hx129_2; replace hx129_0 := (cell_far (p := ⟨gb128, 0, none⟩) (by first | (rw [add_block]; exact hn129_0) | (show (Addr.add _ _).block ≠ _; rw [add_block]; exact hn129_0) | exact hn129_0) (.int .i64 ((rd_T46 l0 x14_1).f0))).trans hx129_0; replace hx129_1 := (cell_far (p := ⟨gb128, 0, none⟩) (by first | (rw [add_block]; exact hn129_0) | (show (Addr.add _ _).block ≠ _; rw [add_block]; exact hn129_0) | exact hn129_0) (.int .i64 ((rd_T46 l0 x14_1).f0))).trans hx129_1; replace hx129_2 := (cell_far (p := ⟨gb128, 0, none⟩) (by first | (rw [add_block]; exact hn129_0) | (show (Addr.add _ _).block ≠ _; rw [add_block]; exact hn129_0) | exact hn129_0) (.int .i64 ((rd_T46 l0 x14_1).f0))).trans hx129_2; replace hx129_0 := (cell_far (p := ⟨gb128, 1, none⟩) (by first | (rw [add_block]; exact hn129_1) | (show (Addr.add _ _).block ≠ _; rw [add_block]; exact hn129_1) | exact hn129_1) (.int .i64 ((rd_T46 l0 x14_1).f1))).trans hx129_0; replace hx129_1 := (cell_far (p := ⟨gb128, 1, none⟩) (by first | (rw [add_block]; exact hn129_1) | (show (Addr.add _ _).block ≠ _; rw [add_block]; exact hn129_1) | exact hn129_1) (.int .i64 ((rd_T46 l0 x14_1).f1))).trans hx129_1; replace hx129_2 := (cell_far (p := ⟨gb128, 1, none⟩) (by first | (rw [add_block]; exact hn129_1) | (show (Addr.add _ _).block ≠ _; rw [add_block]; exact hn129_1) | exact hn129_1) (.int .i64 ((rd_T46 l0 x14_1).f1))).trans hx129_2; replace hx129_0 := (cell_far (p := ⟨gb128, 2, none⟩) (by first | (rw [add_block]; exact hn129_2) | (show (Addr.add _ _).block ≠ _; rw [add_block]; exact hn129_2) | exact hn129_2) (.string ((rd_T46 l0 x14_1).f2))).trans hx129_0; replace hx129_1 := (cell_far (p := ⟨gb128, 2, none⟩) (by first | (rw [add_block]; exact hn129_2) | (show (Addr.add _ _).block ≠ _; rw [add_block]; exact hn129_2) | exact hn129_2) (.string ((rd_T46 l0 x14_1).f2))).trans hx129_1; replace hx129_2 := (cell_far (p := ⟨gb128, 2, none⟩) (by first | (rw [add_block]; exact hn129_2) | (show (Addr.add _ _).block ≠ _; rw [add_block]; exact hn129_2) | exact hn129_2) (.string ((rd_T46 l0 x14_1).f2))).trans hx129_2; (try have hy129_0 := fun (n_ : Nat) => (show (((((w11.drewN n_).setCell ⟨gb128, 0, none⟩ (.int .i64 ((rd_T46 l0 x14_1).f0))).setCell ⟨gb128, 1, none⟩ (.int .i64 ((rd_T46 l0 x14_1).f1))).setCell ⟨gb128, 2, none⟩ (.string ((rd_T46 l0 x14_1).f2)))).cell? _ = some _ from hx129_0)); (try have hy129_1 := fun (n_ : Nat) => (show (((((w11.drewN n_).setCell ⟨gb128, 0, none⟩ (.int .i64 ((rd_T46 l0 x14_1).f0))).setCell ⟨gb128, 1, none⟩ (.int .i64 ((rd_T46 l0 x14_1).f1))).setCell ⟨gb128, 2, none⟩ (.string ((rd_T46 l0 x14_1).f2)))).cell? _ = some _ from hx129_1)); (try have hy129_2 := fun (n_ : Nat) => (show (((((w11.drewN n_).setCell ⟨gb128, 0, none⟩ (.int .i64 ((rd_T46 l0 x14_1).f0))).setCell ⟨gb128, 1, none⟩ (.int .i64 ((rd_T46 l0 x14_1).f1))).setCell ⟨gb128, 2, none⟩ (.string ((rd_T46 l0 x14_1).f2)))).cell? _ = some _ from hx129_2)); clear hn129_0; clear hn129_1; clear hn129_2; replace p129 := eq_true p129; replace q129 := eq_true q129))
                  repeat (go_quiet (first | ((with_reducible refine gate_dst (N := 6) rfl ?_); refine box_event ?hg (N := 6) ?hd (cs := #[.int .i64 0, .int .i64 0, .string (⟨#[]⟩ : ByteArray)]) (t := 46) ?hr ?_; (case hd => rfl); (case hg => rfl); (case hr => first | (go_simp; done) | (go_simp; rfl)); intro gb128 hg w11 hbox hb; have n0_ := Aside0.mk (below_step (by repeat (first | (with_reducible first | exact HB.out | apply below_alloc | apply pw_below_drewN | apply below_drew1) | exact HB.out)) hb); have n1_ := Aside0.mk (hbox); have n2_ := Aside0.mk ((by rw [hg]; exact (below_size (by repeat (first | (with_reducible first | exact HB.out | apply below_alloc | apply pw_below_drewN | apply below_drew1) | exact HB.out))) : w.heap.size ≤ gb128)); have n3_ := Aside0.mk ((by rw [hg]; exact (below_size (by repeat (first | (with_reducible first | exact HB.out | apply below_alloc | apply pw_below_drewN | apply below_drew1) | exact HB.out))) : w.heap.size ≤ gb128)); clear HB; have HB := n0_; have BK128 := n1_; have GW128 := n2_; have GE128 := n3_; clear n0_ n1_ n2_ n3_; clear hb hbox hg; have hcz12_0 : w11.cell? ⟨gb128, 0, none⟩ = some (.int .i64 0) := (blk_cell BK128.out 0).trans rfl; have hcz12_1 : w11.cell? ⟨gb128, 1, none⟩ = some (.int .i64 0) := (blk_cell BK128.out 1).trans rfl; have hcz12_2 : w11.cell? ⟨gb128, 2, none⟩ = some (.string (⟨#[]⟩ : ByteArray)) := (blk_cell BK128.out 2).trans rfl; have hfz12_0 := blk_frozen BK128.out 0; have hfz12_1 := blk_frozen BK128.out 1; have hfz12_2 := blk_frozen BK128.out 2; have p129 : 0 ≤ (x14_1 : Int) := of_decide_eq_true (by first | (with_reducible assumption) | assumption); have q129 : x14_1 < (l1.length : Int) := of_decide_eq_true (by first | (with_reducible assumption) | assumption); obtain ⟨ad129, e129, hx129_0, hx129_1, hx129_2⟩ := at_T46 HR1.out x14_1 p129 q129; cases e129; have hn129_0 : ad129.block ≠ gb128 := Nat.ne_of_lt (Nat.lt_of_lt_of_le (by have := World.block_lt_of_cell? _ _ hx129_0; first | rwa [add_block] at this | exact this) GW128.out); have hn129_1 : ad129.block ≠ gb128 := Nat.ne_of_lt (Nat.lt_of_lt_of_le (by have := World.block_lt_of_cell? _ _ hx129_0; first | rwa [add_block] at this | exact this) GW128.out); have hn129_2 : ad129.block ≠ gb128 := Nat.ne_of_lt (Nat.lt_of_lt_of_le (by have := World.block_lt_of_cell? _ _ hx129_0; first | rwa [add_block] at this | exact this) GW128.out); replace hx129_0 := (HB.out.cell (World.block_lt_of_cell? w _ hx129_0)).trans hx129_0; replace hx129_1 := (HB.out.cell (World.block_lt_of_cell? w _ hx129_1)).trans hx129_1; replace hx129_2 := (HB.out.cell (World.block_lt_of_cell? w _ hx129_2)).trans hx129_2; replace hx129_0 := (cell_far (p := ⟨gb128, 0, none⟩) (by first | (rw [add_block]; exact hn129_0) | (show (Addr.add _ _).block ≠ _; rw [add_block]; exact hn129_0) | exact hn129_0) (.int .i64 ((rd_T46 l0 x14_1).f0))).trans hx129_0; replace hx129_1 := (cell_far (p := ⟨gb128, 0, none⟩) (by first | (rw [add_block]; exact hn129_0) | (show (Addr.add _ _).block ≠ _; rw [add_block]; exact hn129_0) | exact hn129_0) (.int .i64 ((rd_T46 l0 x14_1).f0))).trans hx129_1; replace hx129_2 := (cell_far (p := ⟨gb128, 0, none⟩) (by first | (rw [add_block]; exact hn129_0) | (show (Addr.add _ _).block ≠ _; rw [add_block]; exact hn129_0) | exact hn129_0) (.int .i64 ((rd_T46 l0 x14_1).f0))).trans hx129_2; replace hx129_0 := (cell_far (p := ⟨gb128, 1, none⟩) (by first | (rw [add_block]; exact hn129_1) | (show (Addr.add _ _).block ≠ _; rw [add_block]; exact hn129_1) | exact hn129_1) (.int .i64 ((rd_T46 l0 x14_1).f1))).trans hx129_0; replace hx129_1 := (cell_far (p := ⟨gb128, 1, none⟩) (by first | (rw [add_block]; exact hn129_1) | (show (Addr.add _ _).block ≠ _; rw [add_block]; exact hn129_1) | exact hn129_1) (.int .i64 ((rd_T46 l0 x14_1).f1))).trans hx129_1; replace hx129_2 := (cell_far (p := ⟨gb128, 1, none⟩) (by first | (rw [add_block]; exact hn129_1) | (show (Addr.add _ _).block ≠ _; rw [add_block]; exact hn129_1) | exact hn129_1) (.int .i64 ((rd_T46 l0 x14_1).f1))).trans hx129_2; replace hx129_0 := (cell_far (p := ⟨gb128, 2, none⟩) (by first | (rw [add_block]; exact hn129_2) | (show (Addr.add _ _).block ≠ _; rw [add_block]; exact hn129_2) | exact hn129_2) (.string ((rd_T46 l0 x14_1).f2))).trans hx129_0; replace hx129_1 := (cell_far (p := ⟨gb128, 2, none⟩) (by first | (rw [add_block]; exact hn129_2) | (show (Addr.add _ _).block ≠ _; rw [add_block]; exact hn129_2) | exact hn129_2) (.string ((rd_T46 l0 x14_1).f2))).trans hx129_1; replace hx129_2 := (cell_far (p := ⟨gb128, 2, none⟩) (by first | (rw [add_block]; exact hn129_2) | (show (Addr.add _ _).block ≠ _; rw [add_block]; exact hn129_2) | exact hn129_2) (.string ((rd_T46 l0 x14_1).f2))).trans hx129_2; (try have hy129_0 := fun (n_ : Nat) => (show (((((w11.drewN n_).setCell ⟨gb128, 0, none⟩ (.int .i64 ((rd_T46 l0 x14_1).f0))).setCell ⟨gb128, 1, none⟩ (.int .i64 ((rd_T46 l0 x14_1).f1))).setCell ⟨gb128, 2, none⟩ (.string ((rd_T46 l0 x14_1).f2)))).cell? _ = some _ from hx129_0)); (try have hy129_1 := fun (n_ : Nat) => (show (((((w11.drewN n_).setCell ⟨gb128, 0, none⟩ (.int .i64 ((rd_T46 l0 x14_1).f0))).setCell ⟨gb128, 1, none⟩ (.int .i64 ((rd_T46 l0 x14_1).f1))).setCell ⟨gb128, 2, none⟩ (.string ((rd_T46 l0 x14_1).f2)))).cell? _ = some _ from hx129_1)); (try have hy129_2 := fun (n_ : Nat) => (show (((((w11.drewN n_).setCell ⟨gb128, 0, none⟩ (.int .i64 ((rd_T46 l0 x14_1).f0))).setCell ⟨gb128, 1, none⟩ (.int .i64 ((rd_T46 l0 x14_1).f1))).setCell ⟨gb128, 2, none⟩ (.string ((rd_T46 l0 x14_1).f2)))).cell? _ = some _ from hx129_2)); clear hn129_0; clear hn129_1; clear hn129_2; replace p129 := eq_true p129; replace q129 := eq_true q129)); try go_wp2_with (first | ((with_reducible refine gate_dst (N := 6) rfl ?_); refine box_event ?hg (N := 6) ?hd (cs := #[.int .i64 0, .int .i64 0, .string (⟨#[]⟩ : ByteArray)]) (t := 46) ?hr ?_; (case hd => rfl); (case hg => rfl); (case hr => first | (go_simp; done) | (go_simp; rfl)); intro gb128 hg w11 hbox hb; have n0_ := Aside0.mk (below_step (by repeat (first | (with_reducible first | exact HB.out | apply below_alloc | apply pw_below_drewN | apply below_drew1) | exact HB.out)) hb); have n1_ := Aside0.mk (hbox); have n2_ := Aside0.mk ((by rw [hg]; exact (below_size (by repeat (first | (with_reducible first | exact HB.out | apply below_alloc | apply pw_below_drewN | apply below_drew1) | exact HB.out))) : w.heap.size ≤ gb128)); have n3_ := Aside0.mk ((by rw [hg]; exact (below_size (by repeat (first | (with_reducible first | exact HB.out | apply below_alloc | apply pw_below_drewN | apply below_drew1) | exact HB.out))) : w.heap.size ≤ gb128)); clear HB; have HB := n0_; have BK128 := n1_; have GW128 := n2_; have GE128 := n3_; clear n0_ n1_ n2_ n3_; clear hb hbox hg; have hcz12_0 : w11.cell? ⟨gb128, 0, none⟩ = some (.int .i64 0) := (blk_cell BK128.out 0).trans rfl; have hcz12_1 : w11.cell? ⟨gb128, 1, none⟩ = some (.int .i64 0) := (blk_cell BK128.out 1).trans rfl; have hcz12_2 : w11.cell? ⟨gb128, 2, none⟩ = some (.string (⟨#[]⟩ : ByteArray)) := (blk_cell BK128.out 2).trans rfl; have hfz12_0 := blk_frozen BK128.out 0; have hfz12_1 := blk_frozen BK128.out 1; have hfz12_2 := blk_frozen BK128.out 2; have p129 : 0 ≤ (x14_1 : Int) := of_decide_eq_true (by first | (with_reducible assumption) | assumption); have q129 : x14_1 < (l1.length : Int) := of_decide_eq_true (by first | (with_reducible assumption) | assumption); obtain ⟨ad129, e129, hx129_0, hx129_1, hx129_2⟩ := at_T46 HR1.out x14_1 p129 q129; cases e129; have hn129_0 : ad129.block ≠ gb128 := Nat.ne_of_lt (Nat.lt_of_lt_of_le (by have := World.block_lt_of_cell? _ _ hx129_0; first | rwa [add_block] at this | exact this) GW128.out); have hn129_1 : ad129.block ≠ gb128 := Nat.ne_of_lt (Nat.lt_of_lt_of_le (by have := World.block_lt_of_cell? _ _ hx129_0; first | rwa [add_block] at this | exact this) GW128.out); have hn129_2 : ad129.block ≠ gb128 := Nat.ne_of_lt (Nat.lt_of_lt_of_le (by have := World.block_lt_of_cell? _ _ hx129_0; first | rwa [add_block] at this | exact this) GW128.out); replace hx129_0 := (HB.out.cell (World.block_lt_of_cell? w _ hx129_0)).trans hx129_0; replace hx129_1 := (HB.out.cell (World.block_lt_of_cell? w _ hx129_1)).trans hx129_1; replace hx129_2 := (HB.out.cell (World.block_lt_of_cell? w _ hx129_2)).trans hx129_2; replace hx129_0 := (cell_far (p := ⟨gb128, 0, none⟩) (by first | (rw [add_block]; exact hn129_0) | (show (Addr.add _ _).block ≠ _; rw [add_block]; exact hn129_0) | exact hn129_0) (.int .i64 ((rd_T46 l0 x14_1).f0))).trans hx129_0; replace hx129_1 := (cell_far (p := ⟨gb128, 0, none⟩) (by first | (rw [add_block]; exact hn129_0) | (show (Addr.add _ _).block ≠ _; rw [add_block]; exact hn129_0) | exact hn129_0) (.int .i64 ((rd_T46 l0 x14_1).f0))).trans hx129_1; replace hx129_2 := (cell_far (p := ⟨gb128, 0, none⟩) (by first | (rw [add_block]; exact hn129_0) | (show (Addr.add _ _).block ≠ _; rw [add_block]; exact hn129_0) | exact hn129_0) (.int .i64 ((rd_T46 l0 x14_1).f0))).trans hx129_2; replace hx129_0 := (cell_far (p := ⟨gb128, 1, none⟩) (by first | (rw [add_block]; exact hn129_1) | (show (Addr.add _ _).block ≠ _; rw [add_block]; exact hn129_1) | exact hn129_1) (.int .i64 ((rd_T46 l0 x14_1).f1))).trans hx129_0; replace hx129_1 := (cell_far (p := ⟨gb128, 1, none⟩) (by first | (rw [add_block]; exact hn129_1) | (show (Addr.add _ _).block ≠ _; rw [add_block]; exact hn129_1) | exact hn129_1) (.int .i64 ((rd_T46 l0 x14_1).f1))).trans hx129_1; replace hx129_2 := (cell_far (p := ⟨gb128, 1, none⟩) (by first | (rw [add_block]; exact hn129_1) | (show (Addr.add _ _).block ≠ _; rw [add_block]; exact hn129_1) | exact hn129_1) (.int .i64 ((rd_T46 l0 x14_1).f1))).trans hx129_2; replace hx129_0 := (cell_far (p := ⟨gb128, 2, none⟩) (by first | (rw [add_block]; exact hn129_2) | (show (Addr.add _ _).block ≠ _; rw [add_block]; exact hn129_2) | exact hn129_2) (.string ((rd_T46 l0 x14_1).f2))).trans hx129_0; replace hx129_1 := (cell_far (p := ⟨gb128, 2, none⟩) (by first | (rw [add_block]; exact hn129_2) | (show (Addr.add _ _).block ≠ _; rw [add_block]; exact hn129_2) | exact hn129_2) (.string ((rd_T46 l0 x14_1).f2))).trans hx129_1; replace hx129_2 := (cell_far (p := ⟨gb128, 2, none⟩) (by first | (rw [add_block]; exact hn129_2) | (show (Addr.add _ _).block ≠ _; rw [add_block]; exact hn129_2) | exact hn129_2) (.string ((rd_T46 l0 x14_1).f2))).trans hx129_2; (try have hy129_0 := fun (n_ : Nat) => (show (((((w11.drewN n_).setCell ⟨gb128, 0, none⟩ (.int .i64 ((rd_T46 l0 x14_1).f0))).setCell ⟨gb128, 1, none⟩ (.int .i64 ((rd_T46 l0 x14_1).f1))).setCell ⟨gb128, 2, none⟩ (.string ((rd_T46 l0 x14_1).f2)))).cell? _ = some _ from hx129_0)); (try have hy129_1 := fun (n_ : Nat) => (show (((((w11.drewN n_).setCell ⟨gb128, 0, none⟩ (.int .i64 ((rd_T46 l0 x14_1).f0))).setCell ⟨gb128, 1, none⟩ (.int .i64 ((rd_T46 l0 x14_1).f1))).setCell ⟨gb128, 2, none⟩ (.string ((rd_T46 l0 x14_1).f2)))).cell? _ = some _ from hx129_1)); (try have hy129_2 := fun (n_ : Nat) => (show (((((w11.drewN n_).setCell ⟨gb128, 0, none⟩ (.int .i64 ((rd_T46 l0 x14_1).f0))).setCell ⟨gb128, 1, none⟩ (.int .i64 ((rd_T46 l0 x14_1).f1))).setCell ⟨gb128, 2, none⟩ (.string ((rd_T46 l0 x14_1).f2)))).cell? _ = some _ from hx129_2)); clear hn129_0; clear hn129_1; clear hn129_2; replace p129 := eq_true p129; replace q129 := eq_true q129)))
                  go_roundg k1
                  case measure => have := HK1.out; omega
                  case rel => exact ⟨(wrap64 (x14_1 + 1)), (by first | rfl | (simp; done) | (simp [*]; done)), H', ⟨by have := HK1.out; omega⟩, ⟨by repeat (first | (with_reducible first | exact HB.out | apply below_alloc | apply pw_below_drewN | apply below_drew1 | refine below_set ?_ GE128.out) | exact HB.out)⟩⟩
              · rw [if_neg c7] at H
                exact absurd H (by simp)
            · rw [if_neg c6] at H
              exact absurd H (by simp)
          · rw [if_neg c5] at H
            exact absurd H (by simp)
        · rw [if_neg c4] at H
          have c4b0 : decide (x14_1 < (l0.length : Int)) = false := decide_eq_false c4
          clear c4
          obtain rfl := Option.some.inj H
          go_wp2
          repeat (go_quiet (fail); try go_wp2)
          go_ret
          exact ⟨by first | rfl | (simp [errW_none, errW_some] <;> rfl) | (simp [*, errW_none, errW_some] <;> rfl), by repeat (first | (with_reducible first | exact HB.out | apply below_alloc | apply pw_below_drewN | apply below_drew1) | exact HB.out)⟩
  · rw [if_neg c3] at H
    have c3b0 : ((l0.length : Int) == (l1.length : Int)) = false := beq_eq_false_iff_ne.mpr c3
    have c3b1 : ((l0.length : Int) != (l1.length : Int)) = true := bne_iff_ne.mpr c3
    have c3b2 : (l0.length == l1.length) = false := by first | simpa using c3 | (simp at c3 ⊢; omega)
    obtain rfl := Option.some.inj H
    go_enter Tryd.func7, Tryd.ntmps7
    go_wp2
    repeat (go_quiet (fail); try go_wp2)
    go_ret
    exact ⟨by first | rfl | (simp [errW_none, errW_some] <;> rfl) | (simp [*, errW_none, errW_some] <;> rfl), by repeat (first | (with_reducible first | exact HB.out | apply below_alloc | apply pw_below_drewN | apply below_drew1) | exact HB.out)⟩

/-! ### tdparse_nullBuffer: function 38 -/
def tdparse_nullBuffer.f  : Option (List Int) := some (([0] : List Int))
set_option maxHeartbeats 8000000 in
set_option maxRecDepth 100000 in
theorem tdparse_nullBuffer.calls  (r : List Int) (w : World) (h : tdparse_nullBuffer.f  = some r) :
    Calls Tryd.prog 38 #[] w fun e w' => ∃ v0_ : Value, e = .returned (v0_) ∧ Kd.R (Kd.int .u8) 5 w' w.heap.size (fun _ => True) v0_ r ∧ Below w.heap.size w w' := by
  have HB := Aside0.mk (Below.refl w.heap.size w)
  have H : (some (([0] : List Int))) = some r := h
  clear h
  obtain ⟨y130, hy130⟩ : ∃ y_ : List Int, y_ = (([0] : List Int)) := ⟨_, rfl⟩
  replace H : (some y130) = some r := by first | (rw [hy130]; with_reducible exact H) | (have H2_ := (Option.bind_some _ _).symm.trans H; rw [hy130]; with_reducible exact H2_) | (have H2_ := (Option.bind_some _ _).symm.trans H; with_reducible exact H2_) | with_reducible exact H | (rw [hy130]; exact H) | exact H
  have Ny130 := Aside0.mk hy130
  clear hy130
  obtain rfl := Option.some.inj H
  go_enter Tryd.func38, Tryd.ntmps38
  go_wp2_with (first | ((with_reducible refine gate_dst (N := 1) rfl ?_); refine Kd.R_lit (Kd.int .u8) _ 5 ?hg (N := 1) ?hd (xs := ([0] : List Int)) (inner := [.int .u8 0]) (ok := fun _ => True) (okp := fun _ => True) ?hr ?hp (fun _ hk => hk) trivial (Below.refl _ _) (Nat.le_refl _) (by simp) ?_; (case hd => rfl); (case hg => rfl); (case hr => first | (go_simp; done) | (go_simp; rfl)); (case hp => exact (Reps.one (show Kd.M (Kd.int .u8) _ _ _ 0 [.int .u8 0] from rfl) (Reps.none _ _))); intro v131 w1 ho2 hb hg_ hnew_; clear hg_ hnew_; (first | rw [← Ny130.out] at ho2 | (simp only [Int.reduceToNat] at ho2; rw [← Ny130.out] at ho2)); have n0_ := Aside0.mk (Kd.R_lower ho2 (below_size (by repeat (first | (with_reducible first | exact HB.out | apply below_alloc | apply pw_below_drewN | apply below_drew1) | exact HB.out)))); have n1_ := Aside0.mk (below_step (by repeat (first | (with_reducible first | exact HB.out | apply below_alloc | apply pw_below_drewN | apply below_drew1) | exact HB.out)) hb); clear HB; have HO132 := n0_; have HB := n1_; clear n0_ n1_; clear hb ho2))
  go_ret
  exact ⟨_, by first | rfl | (simp [errW_none, errW_some] <;> rfl) | (simp [*, errW_none, errW_some] <;> rfl), by (with_reducible repeat (first | apply Kd.R_alloc | apply Kd.R_drewN | apply Kd.R_drew)); exact HO132.out, by repeat (first | (with_reducible first | exact HB.out | apply below_alloc | apply pw_below_drewN | apply below_drew1) | exact HB.out)⟩

-- NOT PRINTED: function 16 (tdparse_NewInputBytes)

/-! ### impl_own: function 17 -/
def impl_own.f (l0 : List Int) : Option (List Int) := (some (([] : List Int) : List Int)).bind fun y133 => (if y133.length + l0.length < 140737488355328 then (some (y133 ++ l0)) else (none))
set_option maxHeartbeats 8000000 in
set_option maxRecDepth 100000 in
theorem impl_own.calls (A0 : Option Addr) (c0 : Nat) (l0 : List Int) (r : List Int) (w : World) (hr0 : Kd.C (Kd.int .u8) w A0 l0.length l0) (hc0 : l0.length ≤ c0) (h : impl_own.f l0 = some r) :
    Calls Tryd.prog 17 #[.slice A0 l0.length c0] w fun e w' => ∃ v0_ : Value, e = .returned (v0_) ∧ Kd.R (Kd.int .u8) 5 w' w.heap.size (fun _ => True) v0_ r ∧ Below w.heap.size w w' := by
  have HR0 := Aside0.mk hr0
  have HC0 := Aside0.mk hc0
  clear hr0 hc0
  have HB := Aside0.mk (Below.refl w.heap.size w)
  have H : ((some (([] : List Int) : List Int)).bind fun y133 => (if y133.length + l0.length < 140737488355328 then (some (y133 ++ l0)) else (none))) = some r := h
  clear h
  obtain ⟨y133, hy133⟩ : ∃ y_ : List Int, y_ = (([] : List Int)) := ⟨_, rfl⟩
  replace H : (if y133.length + l0.length < 140737488355328 then (some (y133 ++ l0)) else (none)) = some r := by first | (rw [hy133]; with_reducible exact H) | (have H2_ := (Option.bind_some _ _).symm.trans H; rw [hy133]; with_reducible exact H2_) | (have H2_ := (Option.bind_some _ _).symm.trans H; with_reducible exact H2_) | with_reducible exact H | (rw [hy133]; exact H) | exact H
  have Ny133 := Aside0.mk hy133
  clear hy133
  by_cases c2 : y133.length + l0.length < 140737488355328
  · rw [if_pos c2] at H
    have LMc2 := Aside0.mk c2
    clear c2
    obtain ⟨y136, hy136⟩ : ∃ y_ : List Int, y_ = (y133 ++ l0) := ⟨_, rfl⟩
    replace H : (some y136) = some r := by first | (rw [hy136]; with_reducible exact H) | (have H2_ := (Option.bind_some _ _).symm.trans H; rw [hy136]; with_reducible exact H2_) | (have H2_ := (Option.bind_some _ _).symm.trans H; with_reducible exact H2_) | with_reducible exact H | (rw [hy136]; exact H) | exact H
    have Ny136 := Aside0.mk hy136
    clear hy136
    obtain rfl := Option.some.inj H
    go_enter Tryd.func17, Tryd.ntmps17
    go_wp2_with (first | ((with_reducible refine gate_dst (N := 3) rfl ?_); refine Kd.R_lit (Kd.int .u8) _ 5 ?hg (N := 3) ?hd (xs := ([] : List Int)) (inner := []) (ok := fun _ => True) (okp := fun _ => True) ?hr ?hp (fun _ hk => hk) trivial (Below.refl _ _) (Nat.le_refl _) (by simp) ?_; (case hd => rfl); (case hg => rfl); (case hr => first | (go_simp; done) | (go_simp; rfl)); (case hp => exact (Reps.none _ _)); intro v134 w3 ho4 hb hg_ hnew_; clear hg_ hnew_; (first | rw [← Ny133.out] at ho4 | (simp only [Int.reduceToNat] at ho4; rw [← Ny133.out] at ho4)); have n0_ := Aside0.mk (Kd.R_lower ho4 (below_size (by repeat (first | (with_reducible first | exact HB.out | apply below_alloc | apply pw_below_drewN | apply below_drew1) | exact HB.out)))); have n1_ := Aside0.mk (below_step (by repeat (first | (with_reducible first | exact HB.out | apply below_alloc | apply pw_below_drewN | apply below_drew1) | exact HB.out)) hb); clear HB; have HO135 := n0_; have HB := n1_; clear n0_ n1_; clear hb ho4) | ((with_reducible refine gate_builtin (b := .append) (xs := #[.tmp 3, .tmp 4]) rfl ?_); at_builtin; refine Kd.R_append_rows (Kd.int .u8) (w0 := w) w.heap.size rfl (.tmp 3) (.tmp 4) 22 5 (.int .u8 0) 1 rfl Tryd.underlying22 info5 rfl (by decide) (by omega) v134 y133 l0 _ _ _ (fun _ => True) (fun _ => False) rfl rfl ?aO ?aR (fun _ _ h => h) (fun _ h => h.elim) ?aF ?aB ?aS ?aL ?_; (case aR => repeat (first | exact (Kd.C_below HR0.out HB.out) | (with_reducible refine Kd.C_alloc ?_ _) | (with_reducible refine Kd.C_drewN ?_ _) | (with_reducible refine Kd.C_drew ?_))); (case aB => exact (by repeat (first | (with_reducible first | exact HB.out | apply below_alloc | apply pw_below_drewN | apply below_drew1) | exact HB.out))); (case aF => exact (fun _ _ => trivial)); (case aO => exact (by (with_reducible repeat (first | apply Kd.R_alloc | apply Kd.R_drewN | apply Kd.R_drew)); exact HO135.out)); (case aS => exact (below_size (by repeat (first | (with_reducible first | exact HB.out | apply below_alloc | apply pw_below_drewN | apply below_drew1) | exact HB.out)))); (case aL => have := LMc2.out; omega); intro v137 w5 ho hb hg hat; rw [← Ny136.out] at ho; have n0_ := Aside0.mk (hb); have n1_ := Aside0.mk (ho); clear HB; clear HO135; have HB := n0_; have HO138 := n1_; clear n0_ n1_; clear ho hb hg hat))
    go_ret
    exact ⟨_, by first | rfl | (simp [errW_none, errW_some] <;> rfl) | (simp [*, errW_none, errW_some] <;> rfl), by (with_reducible repeat (first | apply Kd.R_alloc | apply Kd.R_drewN | apply Kd.R_drew)); exact HO138.out, by repeat (first | (with_reducible first | exact HB.out | apply below_alloc | apply pw_below_drewN | apply below_drew1) | exact HB.out)⟩
  · rw [if_neg c2] at H
    exact absurd H (by simp)

-- NOT PRINTED: function 18 (tdparse_Input_Move)

-- NOT PRINTED: function 19 (tdparse_Input_Rewind)

-- NOT PRINTED: function 20 (tdparse_Input_Shift)

-- NOT PRINTED: function 21 (tdparse_Input_Skip)

-- NOT PRINTED: function 22 (tdparse_Input_Peek)

/-! ### impl_truth: function 23 -/
def impl_truth.f (a0 : Bool) : Option (Int) := if a0 = true then (some 1) else (some 0)
set_option maxHeartbeats 8000000 in
set_option maxRecDepth 100000 in
theorem impl_truth.calls (a0 : Bool) (r : Int) (w : World) (h : impl_truth.f a0 = some r) :
    Calls Tryd.prog 23 #[.bool a0] w fun e w' => e = .returned (.int .i64 r) ∧ Drawn0 w w' := by
  have H : (if a0 = true then (some 1) else (some 0)) = some r := h
  clear h
  by_cases c2 : a0 = true
  · subst c2
    have H1 : (some 1) = some r := by rw [if_pos rfl] at H; exact H
    clear H
    have H := H1
    clear H1
    obtain rfl := Option.some.inj H
    go_enter Tryd.func23, Tryd.ntmps23
    go_wp2
    go_ret
    exact ⟨by first | rfl | (simp; done) | (simp [*]; done), by repeat (first | exact Drawn0.refl _ | apply Drawn0.step)⟩
  · replace c2 := Bool.eq_false_iff.mpr c2
    subst c2
    have H1 : (some 0) = some r := by rw [if_neg (show ¬ (false = true) by decide)] at H; exact H
    clear H
    have H := H1
    clear H1
    obtain rfl := Option.some.inj H
    go_enter Tryd.func23, Tryd.ntmps23
    go_wp2
    go_ret
    exact ⟨by first | rfl | (simp; done) | (simp [*]; done), by repeat (first | exact Drawn0.refl _ | apply Drawn0.step)⟩

-- NOT PRINTED: function 24 (tdparse_Input_PeekErr)

-- NOT PRINTED: function 25 (tdparse_Input_Lexeme)

-- NOT PRINTED: function 26 (tdparse_Input_Pos)

-- NOT PRINTED: function 27 (tdparse_Input_Offset)

-- NOT PRINTED: function 28 (tdparse_Input_PeekRune)

-- NOT PRINTED: function 29 (tdparse_Input_MoveRune)

-- NOT PRINTED: function 30 (tdparse_Input_Reset)

-- NOT PRINTED: function 8 (impl_RunInput)

-- NOT PRINTED: function 3 (laws_FnInput)

end Go.Proofs.YtojgpdphdhcjiaaDoor.PFnInput
