import Derived.Test.YtojgpdphdhcjiaaDoorPFnInputx4
import Derived.Test.YtojgpdphdhcjiaaDoorNextB
import Derived.Test.YtojgpdphdhcjiaaDoorNextC
namespace Go.Proofs.YtojgpdphdhcjiaaDoor.PFnInput
open Go.RowKit Go.Proofs.YtojgpdphdhcjiaaDoorW.PrintWords Go.Proofs.YtojgpdphdhcjiaaDoorW.PrintLast Go.Proofs.YtojgpdphdhcjiaaDoorW.PrintMore
attribute [local go_sem] max2_int min2_int max_two min_two max_three min_three max_four min_four   -- for this text's walks alone
set_option linter.unusedVariables false
set_option linter.unusedSimpArgs false

attribute [local go_sem high] eqA46
theorem info46 : (Tryd.prog.info? 46).map (fun i => (i.zero, i.size, i.bytes)) = some (some (.agg #[(.int .i64 0), (.int .i64 0), (.string ⟨#[]⟩)]), 3, 32) := by kernel_rfl

theorem spec_Next.calls (k : Nat) (A0 : Option Addr) (c0 : Nat) (l0 : List Int) (a1_0 : Int) (a1_1 : Int) (a2_0 : Int) (a2_1 : Int) (r1 : Int) (r2 : Int) (r3 : Int) (r4 : Int) (r5 : ByteArray) (r6 : Bool) (w : World) (hr0 : Kd.C (Kd.int .u8) w A0 l0.length l0) (hc0 : l0.length ≤ c0) (h : spec_Next.f k l0 a1_0 a1_1 a2_0 a2_1 = some (r1, r2, r3, r4, r5, r6)) :
    Calls Tryd.prog 15 #[.slice A0 l0.length c0, .agg #[.int .i64 a1_0, .int .i64 a1_1], .agg #[.int .i64 a2_0, .int .i64 a2_1]] w fun e w' => e = .returned (.tuple #[.agg #[.int .i64 r1, .int .i64 r2], .agg #[.int .i64 r3, .int .i64 r4, .string r5], .bool r6]) ∧ Below w.heap.size w w' := by
  by_cases hA : a2_0 = 0 ∨ a2_0 = 1 ∨ a2_0 = 2 ∨ a2_0 = 3
  · exact spec_Next.callsA k A0 c0 l0 a1_0 a1_1 a2_0 a2_1 r1 r2 r3 r4 r5 r6 w hA hr0 hc0 h
  by_cases hB : a2_0 = 4 ∨ a2_0 = 5 ∨ a2_0 = 6 ∨ a2_0 = 7
  · exact spec_Next.callsB k A0 c0 l0 a1_0 a1_1 a2_0 a2_1 r1 r2 r3 r4 r5 r6 w hB hr0 hc0 h
  · exact spec_Next.callsC k A0 c0 l0 a1_0 a1_1 a2_0 a2_1 r1 r2 r3 r4 r5 r6 w (by omega) hr0 hc0 h

/-! ### spec_Answers: function 6 -/
def spec_Answers.l0 : Nat → List Int → List (S46) → List (S26) → Int → Int → Int → Int → Option ((List (S46)) × Bool)
  | 0, _, _, _, _, _, _, _ => none
  | k + 1, x0, x6, x15, x16, x17, x125000, x125001 => if x17 < x16 then (if 0 ≤ x17 then (if x17 < (x15.length : Int) then ((spec_Next.f k x0 x125000 x125001 ((rd_T26 x15 x17).f0) ((rd_T26 x15 x17).f1)).bind fun bt127 => (if bt127.2.2.2.2.2 = true then (if x6.length < 4398046511104 then (spec_Answers.l0 k x0 (x6 ++ [(⟨bt127.2.2.1, bt127.2.2.2.1, bt127.2.2.2.2.1⟩ : S46)]) x15 x16 (wrap64 (x17 + 1)) bt127.1 bt127.2.1) else (none)) else (some (([] : List (S46)), false)))) else (none)) else (none)) else (some (x6, true))
def spec_Answers.f (k : Nat) (l0 : List Int) (l1 : List (S26)) : Option ((List (S46)) × Bool) := spec_Answers.l0 k l0 (([] : List (S46))) l1 (l1.length : Int) 0 0 0
theorem spec_Answers.mono_l : ∀ k, (∀ y0 y1 y2 y3 y4 y5 y6, LeO (spec_Answers.l0 k y0 y1 y2 y3 y4 y5 y6) (spec_Answers.l0 (k + 1) y0 y1 y2 y3 y4 y5 y6))
  | 0 => fun _ _ _ _ _ _ _ r h => by simp [spec_Answers.l0] at h
  | k + 1 => by
    have ih0 := spec_Answers.mono_l k
    · intro y0 y1 y2 y3 y4 y5 y6
      unfold spec_Answers.l0
      repeat' first
      | (with_reducible exact ih0 _ _ _ _ _ _ _)
      | (with_reducible exact spec_Next.mono _ _ _ _ _ _)
      | (with_reducible exact LeO.refl _)
      | (with_reducible exact LeO.none _)
      | (with_reducible refine LeO.ite ?_ ?_)
      | (with_reducible refine LeO.bind ?_ (fun _ => ?_))
      | exact ih0 _ _ _ _ _ _ _
      | exact spec_Next.mono _ _ _ _ _ _
      | exact LeO.none _
      | refine LeO.ite ?_ ?_
      | refine LeO.bind ?_ (fun _ => ?_)
theorem spec_Answers.mono : ∀ a0 a1 k, LeO (spec_Answers.f k a0 a1) (spec_Answers.f (k + 1) a0 a1) := by
  intro a0 a1 k
  have ih0 := spec_Answers.mono_l k
  unfold spec_Answers.f
  repeat' first
      | (with_reducible exact ih0 _ _ _ _ _ _ _)
      | (with_reducible exact spec_Next.mono _ _ _ _ _ _)
      | (with_reducible exact LeO.refl _)
      | (with_reducible exact LeO.none _)
      | (with_reducible refine LeO.ite ?_ ?_)
      | (with_reducible refine LeO.bind ?_ (fun _ => ?_))
      | exact ih0 _ _ _ _ _ _ _
      | exact spec_Next.mono _ _ _ _ _ _
      | exact LeO.none _
      | refine LeO.ite ?_ ?_
      | refine LeO.bind ?_ (fun _ => ?_)
set_option maxHeartbeats 8000000 in
set_option maxRecDepth 100000 in
theorem spec_Answers.calls (k : Nat) (A0 : Option Addr) (c0 : Nat) (l0 : List Int) (A1 : Option Addr) (c1 : Nat) (l1 : List (S26)) (r1 : List (S46)) (r2 : Bool) (w : World) (hr0 : Kd.C (Kd.int .u8) w A0 l0.length l0) (hc0 : l0.length ≤ c0) (hr1 : Kd.C k26 w A1 l1.length l1) (hc1 : l1.length ≤ c1) (h : spec_Answers.f k l0 l1 = some (r1, r2)) :
    Calls Tryd.prog 6 #[.slice A0 l0.length c0, .slice A1 l1.length c1] w fun e w' => ∃ v0_ : Value, e = .returned (.tuple #[v0_, .bool r2]) ∧ Kd.R k46 46 w' w.heap.size (fun _ => True) v0_ r1 ∧ Below w.heap.size w w' := by
  have hu44 := Tryd.underlying44
  have hu26 := Tryd.underlying26
  have hu46 := Tryd.underlying46
  have HR0 := Aside0.mk hr0
  have HC0 := Aside0.mk hc0
  clear hr0 hc0
  have HR1 := Aside0.mk hr1
  have HC1 := Aside0.mk hc1
  clear hr1 hc1
  have HB := Aside0.mk (Below.refl w.heap.size w)
  have H : (spec_Answers.l0 k l0 (([] : List (S46))) l1 (l1.length : Int) 0 0 0) = some (r1, r2) := h
  clear h
  obtain ⟨y121, hy121⟩ : ∃ y_ : List (S46), y_ = (([] : List (S46))) := ⟨_, rfl⟩
  replace H : (spec_Answers.l0 k l0 y121 l1 (l1.length : Int) 0 0 0) = some (r1, r2) := by first | (rw [hy121]; with_reducible exact H) | (have H2_ := (Option.bind_some _ _).symm.trans H; rw [hy121]; with_reducible exact H2_) | (have H2_ := (Option.bind_some _ _).symm.trans H; with_reducible exact H2_) | with_reducible exact H | (rw [hy121]; exact H) | exact H
  have Ny121 := Aside0.mk hy121
  clear hy121
  have H' := Aside0.mk H
  clear H
  go_enter Tryd.func6, Tryd.ntmps6
  go_wp2_with (first | ((with_reducible refine gate_dst (N := 13) rfl ?_); refine Kd.R_lit k46 _ 46 ?hg (N := 13) ?hd (xs := ([] : List (S46))) (inner := []) (ok := fun _ => True) (okp := fun _ => True) ?hr ?hp (fun _ hk => hk) trivial (Below.refl _ _) (Nat.le_refl _) (by simp) ?_; (case hd => rfl); (case hg => rfl); (case hr => first | (go_simp; done) | (go_simp; rfl)); (case hp => exact (Reps.none _ _)); intro v122 w3 ho4 hb hg_ hnew_; clear hg_ hnew_; (first | rw [← Ny121.out] at ho4 | (simp only [Int.reduceToNat] at ho4; rw [← Ny121.out] at ho4)); have n0_ := Aside0.mk (Kd.R_lower ho4 (below_size (by repeat (first | (with_reducible first | exact HB.out | apply below_alloc | apply pw_below_drewN | apply below_drew1) | exact HB.out)))); have n1_ := Aside0.mk (below_step (by repeat (first | (with_reducible first | exact HB.out | apply below_alloc | apply pw_below_drewN | apply below_drew1) | exact HB.out)) hb); clear HB; have HO123 := n0_; have HB := n1_; clear n0_ n1_; clear hb ho4) | ((with_reducible refine gate_dst (N := 7) rfl ?_); refine box_event ?hg (N := 7) ?hd (cs := #[.int .i64 0, .int .i64 0]) (t := 44) ?hr ?_; (case hd => rfl); (case hg => rfl); (case hr => first | (go_simp; done) | (go_simp; rfl)); intro gb124 hg w5 hbox hb; have n0_ := Aside0.mk (Kd.R_below (by (with_reducible repeat (first | apply Kd.R_alloc | apply Kd.R_drewN | apply Kd.R_drew)); exact HO123.out) hb); have n1_ := Aside0.mk (below_step (by repeat (first | (with_reducible first | exact HB.out | apply below_alloc | apply pw_below_drewN | apply below_drew1) | exact HB.out)) hb); have n2_ := Aside0.mk (hbox); have n3_ := Aside0.mk ((by rw [hg]; exact (below_size (by repeat (first | (with_reducible first | exact HB.out | apply below_alloc | apply pw_below_drewN | apply below_drew1) | exact HB.out))) : w.heap.size ≤ gb124)); have n4_ := Aside0.mk ((by rw [hg]; exact (below_size (by repeat (first | (with_reducible first | exact HB.out | apply below_alloc | apply pw_below_drewN | apply below_drew1) | exact HB.out))) : w.heap.size ≤ gb124)); clear HO123; clear HB; have HO123 := n0_; have HB := n1_; have BK124 := n2_; have GW124 := n3_; have GE124 := n4_; clear n0_ n1_ n2_ n3_ n4_; clear hb hbox hg; have hcz6_0 : w5.cell? ⟨gb124, 0, none⟩ = some (.int .i64 0) := (blk_cell BK124.out 0).trans rfl; have hcz6_1 : w5.cell? ⟨gb124, 1, none⟩ = some (.int .i64 0) := (blk_cell BK124.out 1).trans rfl; have hfz6_0 := blk_frozen BK124.out 0; have hfz6_1 := blk_frozen BK124.out 1))
  go_loopg [6, 17] k (fun kq v6 v17 w' => ∃ (x6_1 : List (S46)) (x17_1 : Int) (x125000_1 : Int) (x125001_1 : Int), v17 = .int .i64 x17_1 ∧ Aside0 (spec_Answers.l0 kq l0 x6_1 l1 (l1.length : Int) x17_1 x125000_1 x125001_1 = some (r1, r2)) ∧ Aside0 (kq ≤ k) ∧ Aside0 (Kd.R k46 46 w' w.heap.size (fun _ => True) v6 x6_1) ∧ Aside0 (w'.heap[gb124]? = some (.cells #[.int .i64 x125000_1, .int .i64 x125001_1] 44 (0, 0))) ∧ Aside0 (Below w.heap.size w w'))
  case atStart => exact ⟨(y121), (0), (0), (0), (by first | rfl | (simp; done) | (simp [*]; done)), H', ⟨Nat.le_refl _⟩, ⟨by (with_reducible repeat (first | apply Kd.R_alloc | apply Kd.R_drewN | apply Kd.R_drew)); exact Kd.R_mono (Kd.R_far (p := ⟨gb124, 1, none⟩) (Kd.R_far (p := ⟨gb124, 0, none⟩) (Kd.R_types HO123.out BK124.out (by decide)) (fun _ hk => hk.2) (.int .i64 0)) (fun _ hk => hk.2) (.int .i64 0)) (fun _ hk => trivial)⟩, ⟨by (with_reducible repeat (first | refine blk_drewN ?_ _ | refine blk_drew ?_ | refine blk_alloc ?_ _)); refine blk_put (cs := #[.int .i64 0, .int .i64 0]) ?_ 1 _ rfl; (with_reducible repeat (first | refine blk_drewN ?_ _ | refine blk_drew ?_ | refine blk_alloc ?_ _)); refine blk_put (cs := #[.int .i64 0, .int .i64 0]) ?_ 0 _ rfl; (with_reducible repeat (first | refine blk_drewN ?_ _ | refine blk_drew ?_ | refine blk_alloc ?_ _)); exact BK124.out⟩, ⟨by repeat (first | (with_reducible first | exact HB.out | apply below_alloc | apply pw_below_drewN | apply below_drew1 | refine below_set ?_ GE124.out) | exact HB.out)⟩⟩
  case round =>
    clear H'
    try clear c1
    try clear p2
    try clear c6
    try clear hcz6_0
    try clear hcz6_1
    try clear hfz6_0
    try clear hfz6_1
    obtain ⟨x6_1, x17_1, x125000_1, x125001_1, rfl, HA, HK1, HO_6, BK124, HB⟩ := hrel
    cases gk with
    | zero => exact absurd HA.out (by simp [spec_Answers.l0])
    | succ k1 =>
      have H := HA.out
      clear HA
      simp only [spec_Answers.l0] at H
      by_cases c7 : x17_1 < (l1.length : Int)
      · rw [if_pos c7] at H
        have c7b0 : decide (x17_1 < (l1.length : Int)) = true := decide_eq_true c7
        clear c7
        by_cases c8 : 0 ≤ x17_1
        · rw [if_pos c8] at H
          have c8b0 : decide (0 ≤ x17_1) = true := decide_eq_true c8
          clear c8
          by_cases c9 : x17_1 < (l1.length : Int)
          · rw [if_pos c9] at H
            have c9b0 : decide (x17_1 < (l1.length : Int)) = true := decide_eq_true c9
            clear c9
            replace H := Option.bind_eq_some_iff.mp H
            obtain ⟨⟨t127, t128, t129, t130, t131, t132⟩, A100, H⟩ := H
            replace H : (if t132 = true then (if x6_1.length < 4398046511104 then (spec_Answers.l0 k1 l0 (x6_1 ++ [(⟨t129, t130, t131⟩ : S46)]) l1 (l1.length : Int) (wrap64 (x17_1 + 1)) t127 t128) else (none)) else (some (([] : List (S46)), false))) = some (r1, r2) := H
            have A10 := Aside0.mk A100
            clear A100
            by_cases c11 : t132 = true
            · subst c11
              have H1 : (if x6_1.length < 4398046511104 then (spec_Answers.l0 k1 l0 (x6_1 ++ [(⟨t129, t130, t131⟩ : S46)]) l1 (l1.length : Int) (wrap64 (x17_1 + 1)) t127 t128) else (none)) = some (r1, r2) := by rw [if_pos rfl] at H; exact H
              clear H
              have H := H1
              clear H1
              by_cases c12 : x6_1.length < 4398046511104
              · rw [if_pos c12] at H
                have LMc12 := Aside0.mk c12
                clear c12
                obtain ⟨y135, hy135⟩ : ∃ y_ : List (S46), y_ = (x6_1 ++ [(⟨t129, t130, t131⟩ : S46)]) := ⟨_, rfl⟩
                replace H : (spec_Answers.l0 k1 l0 y135 l1 (l1.length : Int) (wrap64 (x17_1 + 1)) t127 t128) = some (r1, r2) := by first | (rw [hy135]; with_reducible exact H) | (have H2_ := (Option.bind_some _ _).symm.trans H; rw [hy135]; with_reducible exact H2_) | (have H2_ := (Option.bind_some _ _).symm.trans H; with_reducible exact H2_) | with_reducible exact H | (rw [hy135]; exact H) | exact H
                have Ny135 := Aside0.mk hy135
                clear hy135
                have H' := Aside0.mk H
                clear H
                have p125 : 0 ≤ (x17_1 : Int) := of_decide_eq_true (by first | (with_reducible assumption) | assumption)
                have q125 : x17_1 < (l1.length : Int) := of_decide_eq_true (by first | (with_reducible assumption) | assumption)
                obtain ⟨ad125, e125, hx125_0, hx125_1⟩ := at_T26 HR1.out x17_1 p125 q125
                cases e125
                replace hx125_0 := (HB.out.cell (World.block_lt_of_cell? w _ hx125_0)).trans hx125_0
                replace hx125_1 := (HB.out.cell (World.block_lt_of_cell? w _ hx125_1)).trans hx125_1
                replace p125 := eq_true p125
                replace q125 := eq_true q125
                try go_wp2_with (first | ((with_reducible refine gate_dst (N := 9) rfl ?_); refine box_event ?hg (N := 9) ?hd (cs := #[.int .i64 0, .int .i64 0]) (t := 26) ?hr ?_; (case hd => rfl); (case hg => rfl); (case hr => first | (go_simp; done) | (go_simp; rfl)); intro gb126 hg w13 hbox hb; have n0_ := Aside0.mk (Kd.R_below (by (with_reducible repeat (first | apply Kd.R_alloc | apply Kd.R_drewN | apply Kd.R_drew)); exact HO_6.out) hb); have n1_ := Aside0.mk (blk_below (g := gb124) (o := .cells #[.int .i64 x125000_1, .int .i64 x125001_1] 44 (0, 0)) (by (with_reducible repeat (first | refine blk_drewN ?_ _ | refine blk_drew ?_ | refine blk_alloc ?_ _)); exact BK124.out) hb); have n2_ := Aside0.mk (below_step (by repeat (first | (with_reducible first | exact HB.out | apply below_alloc | apply pw_below_drewN | apply below_drew1 | refine below_set ?_ GE124.out) | exact HB.out)) hb); have n3_ := Aside0.mk (hbox); have n4_ := Aside0.mk ((by rw [hg]; exact (below_size (by repeat (first | (with_reducible first | exact HB.out | apply below_alloc | apply pw_below_drewN | apply below_drew1 | refine below_set ?_ GE124.out) | exact HB.out))) : w.heap.size ≤ gb126)); have n5_ := Aside0.mk ((by rw [hg]; exact (below_size (by repeat (first | (with_reducible first | exact HB.out | apply below_alloc | apply pw_below_drewN | apply below_drew1 | refine below_set ?_ GE124.out) | exact HB.out))) : w.heap.size ≤ gb126)); have n6_ := Aside0.mk ((by rw [hg]; exact Nat.ne_of_lt (blk_lt (g := gb124) (o := .cells #[.int .i64 x125000_1, .int .i64 x125001_1] 44 (0, 0)) (by (with_reducible repeat (first | refine blk_drewN ?_ _ | refine blk_drew ?_ | refine blk_alloc ?_ _)); exact BK124.out)) : gb124 ≠ gb126)); have n7_ := Aside0.mk ((by rw [hg]; exact Nat.ne_of_gt (blk_lt (g := gb124) (o := .cells #[.int .i64 x125000_1, .int .i64 x125001_1] 44 (0, 0)) (by (with_reducible repeat (first | refine blk_drewN ?_ _ | refine blk_drew ?_ | refine blk_alloc ?_ _)); exact BK124.out)) : gb126 ≠ gb124)); clear HO_6; clear BK124; clear HB; have HO_6 := n0_; have BK124 := n1_; have HB := n2_; have BK126 := n3_; have GW126 := n4_; have GE126 := n5_; have NB124_126 := n6_; have NB126_124 := n7_; clear n0_ n1_ n2_ n3_ n4_ n5_ n6_ n7_; clear hb hbox hg; have hnb14 := NB126_124.out; have hnc14 := NB124_126.out; have hcz15_0 : w13.cell? ⟨gb126, 0, none⟩ = some (.int .i64 0) := (blk_cell BK126.out 0).trans rfl; have hcz15_1 : w13.cell? ⟨gb126, 1, none⟩ = some (.int .i64 0) := (blk_cell BK126.out 1).trans rfl; have hfz15_0 := blk_frozen BK126.out 0; have hfz15_1 := blk_frozen BK126.out 1; have hcz16_0 : w13.cell? ⟨gb124, 0, none⟩ = some (.int .i64 x125000_1) := (blk_cell BK124.out 0).trans rfl; have hcz16_1 : w13.cell? ⟨gb124, 1, none⟩ = some (.int .i64 x125001_1) := (blk_cell BK124.out 1).trans rfl; have hfz16_0 := blk_frozen BK124.out 0; have hfz16_1 := blk_frozen BK124.out 1) | ((with_reducible refine gate_callee (f := 15) rfl ?_); refine goesL_ (some 25) rfl rfl Tryd.func15 (by kernel_rfl) rfl #[.slice A0 l0.length c0, .agg #[.int .i64 x125000_1, .int .i64 x125001_1], .agg #[.int .i64 ((rd_T26 l1 x17_1).f0), .int .i64 ((rd_T26 l1 x17_1).f1)]] rfl (by (try simp only [List.map_toArray, List.map_cons, List.map_nil]); first | done | rfl | (simp only [List.length_drop, List.length_take]; rfl)) ?_; (with_reducible refine (spec_Next.calls k1 _ _ l0 x125000_1 x125001_1 ((rd_T26 l1 x17_1).f0) ((rd_T26 l1 x17_1).f1) t127 t128 t129 t130 t131 true _ ?side1 ?side2 A10.out).mono ?_); (case side1 => exact Kd.C_below HR0.out (by repeat (first | (with_reducible first | exact HB.out | apply below_alloc | apply pw_below_drewN | apply below_drew1 | refine below_set ?_ GE124.out | refine below_set ?_ GE126.out) | exact HB.out))); (case side2 => exact HC0.out); rintro e w17 ⟨rfl, hb⟩; refine ⟨_, rfl, ?_⟩; have n0_ := Aside0.mk (Kd.R_below (by (with_reducible repeat (first | apply Kd.R_alloc | apply Kd.R_drewN | apply Kd.R_drew)); exact (Kd.R_mono (Kd.R_far (p := ⟨gb126, 1, none⟩) (Kd.R_far (p := ⟨gb126, 0, none⟩) (Kd.R_types HO_6.out BK126.out (by decide)) (fun _ hk => hk.2) (.int .i64 ((rd_T26 l1 x17_1).f0))) (fun _ hk => hk.2) (.int .i64 ((rd_T26 l1 x17_1).f1))) (fun _ h_ => h_.1))) hb); have n1_ := Aside0.mk (blk_below (g := gb124) (o := .cells #[.int .i64 x125000_1, .int .i64 x125001_1] 44 (0, 0)) (by (with_reducible repeat (first | refine blk_drewN ?_ _ | refine blk_drew ?_ | refine blk_alloc ?_ _)); refine blk_far ?_ NB124_126.out _; (with_reducible repeat (first | refine blk_drewN ?_ _ | refine blk_drew ?_ | refine blk_alloc ?_ _)); refine blk_far ?_ NB124_126.out _; (with_reducible repeat (first | refine blk_drewN ?_ _ | refine blk_drew ?_ | refine blk_alloc ?_ _)); exact BK124.out) hb); have n2_ := Aside0.mk (blk_below (g := gb126) (o := .cells #[.int .i64 ((rd_T26 l1 x17_1).f0), .int .i64 ((rd_T26 l1 x17_1).f1)] 26 (0, 0)) (by (with_reducible repeat (first | refine blk_drewN ?_ _ | refine blk_drew ?_ | refine blk_alloc ?_ _)); refine blk_put (cs := #[.int .i64 ((rd_T26 l1 x17_1).f0), .int .i64 0]) ?_ 1 _ rfl; (with_reducible repeat (first | refine blk_drewN ?_ _ | refine blk_drew ?_ | refine blk_alloc ?_ _)); refine blk_put (cs := #[.int .i64 0, .int .i64 0]) ?_ 0 _ rfl; (with_reducible repeat (first | refine blk_drewN ?_ _ | refine blk_drew ?_ | refine blk_alloc ?_ _)); exact BK126.out) hb); have n3_ := Aside0.mk (below_step (by repeat (first | (with_reducible first | exact HB.out | apply below_alloc | apply pw_below_drewN | apply below_drew1 | refine below_set ?_ GE124.out | refine below_set ?_ GE126.out) | exact HB.out)) hb); clear HO_6; clear BK124; clear BK126; clear HB; have HO_6 := n0_; have BK124 := n1_; have BK126 := n2_; have HB := n3_; clear n0_ n1_ n2_ n3_; (try clear hb); (try clear hb2); (try clear hk); (try clear hi)) | ((with_reducible refine gate_dst (N := 10) rfl ?_); refine box_event ?hg (N := 10) ?hd (cs := #[.int .i64 0, .int .i64 0]) (t := 44) ?hr ?_; (case hd => rfl); (case hg => rfl); (case hr => first | (go_simp; done) | (go_simp; rfl)); intro gb133 hg w18 hbox hb; have n0_ := Aside0.mk (Kd.R_below (by (with_reducible repeat (first | apply Kd.R_alloc | apply Kd.R_drewN | apply Kd.R_drew)); exact HO_6.out) hb); have n1_ := Aside0.mk (blk_below (g := gb124) (o := .cells #[.int .i64 x125000_1, .int .i64 x125001_1] 44 (0, 0)) (by (with_reducible repeat (first | refine blk_drewN ?_ _ | refine blk_drew ?_ | refine blk_alloc ?_ _)); exact BK124.out) hb); have n2_ := Aside0.mk (blk_below (g := gb126) (o := .cells #[.int .i64 ((rd_T26 l1 x17_1).f0), .int .i64 ((rd_T26 l1 x17_1).f1)] 26 (0, 0)) (by (with_reducible repeat (first | refine blk_drewN ?_ _ | refine blk_drew ?_ | refine blk_alloc ?_ _)); exact BK126.out) hb); have n3_ := Aside0.mk (below_step (by repeat (first | (with_reducible first | exact HB.out | apply below_alloc | apply pw_below_drewN | apply below_drew1 | refine below_set ?_ GE124.out | refine below_set ?_ GE126.out) | exact HB.out)) hb); have n4_ := Aside0.mk (hbox); have n5_ := Aside0.mk ((by rw [hg]; exact (below_size (by repeat (first | (with_reducible first | exact HB.out | apply below_alloc | apply pw_below_drewN | apply below_drew1 | refine below_set ?_ GE124.out | refine below_set ?_ GE126.out) | exact HB.out))) : w.heap.size ≤ gb133)); have n6_ := Aside0.mk ((by rw [hg]; exact (below_size (by repeat (first | (with_reducible first | exact HB.out | apply below_alloc | apply pw_below_drewN | apply below_drew1 | refine below_set ?_ GE124.out | refine below_set ?_ GE126.out) | exact HB.out))) : w.heap.size ≤ gb133)); have n7_ := Aside0.mk ((by rw [hg]; exact Nat.ne_of_lt (blk_lt (g := gb124) (o := .cells #[.int .i64 x125000_1, .int .i64 x125001_1] 44 (0, 0)) (by (with_reducible repeat (first | refine blk_drewN ?_ _ | refine blk_drew ?_ | refine blk_alloc ?_ _)); exact BK124.out)) : gb124 ≠ gb133)); have n8_ := Aside0.mk ((by rw [hg]; exact Nat.ne_of_gt (blk_lt (g := gb124) (o := .cells #[.int .i64 x125000_1, .int .i64 x125001_1] 44 (0, 0)) (by (with_reducible repeat (first | refine blk_drewN ?_ _ | refine blk_drew ?_ | refine blk_alloc ?_ _)); exact BK124.out)) : gb133 ≠ gb124)); have n9_ := Aside0.mk ((by rw [hg]; exact Nat.ne_of_lt (blk_lt (g := gb126) (o := .cells #[.int .i64 ((rd_T26 l1 x17_1).f0), .int .i64 ((rd_T26 l1 x17_1).f1)] 26 (0, 0)) (by (with_reducible repeat (first | refine blk_drewN ?_ _ | refine blk_drew ?_ | refine blk_alloc ?_ _)); exact BK126.out)) : gb126 ≠ gb133)); have n10_ := Aside0.mk ((by rw [hg]; exact Nat.ne_of_gt (blk_lt (g := gb126) (o := .cells #[.int .i64 ((rd_T26 l1 x17_1).f0), .int .i64 ((rd_T26 l1 x17_1).f1)] 26 (0, 0)) (by (with_reducible repeat (first | refine blk_drewN ?_ _ | refine blk_drew ?_ | refine blk_alloc ?_ _)); exact BK126.out)) : gb133 ≠ gb126)); clear HO_6; clear BK124; clear BK126; clear HB; have HO_6 := n0_; have BK124 := n1_; have BK126 := n2_; have HB := n3_; have BK133 := n4_; have GW133 := n5_; have GE133 := n6_; have NB124_133 := n7_; have NB133_124 := n8_; have NB126_133 := n9_; have NB133_126 := n10_; clear n0_ n1_ n2_ n3_ n4_ n5_ n6_ n7_ n8_ n9_ n10_; clear hb hbox hg) | ((with_reducible refine gate_dst (N := 11) rfl ?_); refine box_event ?hg (N := 11) ?hd (cs := #[.int .i64 0, .int .i64 0, .string (⟨#[]⟩ : ByteArray)]) (t := 46) ?hr ?_; (case hd => rfl); (case hg => rfl); (case hr => first | (go_simp; done) | (go_simp; rfl)); intro gb134 hg w19 hbox hb; have n0_ := Aside0.mk (Kd.R_below (Kd.R_elderB (by (with_reducible repeat (first | apply Kd.R_alloc | apply Kd.R_drewN | apply Kd.R_drew)); exact HO_6.out) gb134 (Nat.le_of_eq hg.symm)) hb); have n1_ := Aside0.mk (blk_below (g := gb124) (o := .cells #[.int .i64 x125000_1, .int .i64 x125001_1] 44 (0, 0)) (by (with_reducible repeat (first | refine blk_drewN ?_ _ | refine blk_drew ?_ | refine blk_alloc ?_ _)); exact BK124.out) hb); have n2_ := Aside0.mk (blk_below (g := gb126) (o := .cells #[.int .i64 ((rd_T26 l1 x17_1).f0), .int .i64 ((rd_T26 l1 x17_1).f1)] 26 (0, 0)) (by (with_reducible repeat (first | refine blk_drewN ?_ _ | refine blk_drew ?_ | refine blk_alloc ?_ _)); exact BK126.out) hb); have n3_ := Aside0.mk (blk_below (g := gb133) (o := .cells #[.int .i64 0, .int .i64 0] 44 (0, 0)) (by (with_reducible repeat (first | refine blk_drewN ?_ _ | refine blk_drew ?_ | refine blk_alloc ?_ _)); exact BK133.out) hb); have n4_ := Aside0.mk (below_step (by repeat (first | (with_reducible first | exact HB.out | apply below_alloc | apply pw_below_drewN | apply below_drew1 | refine below_set ?_ GE124.out | refine below_set ?_ GE126.out | refine below_set ?_ GE133.out) | exact HB.out)) hb); have n5_ := Aside0.mk (hbox); have n6_ := Aside0.mk ((by rw [hg]; exact (below_size (by repeat (first | (with_reducible first | exact HB.out | apply below_alloc | apply pw_below_drewN | apply below_drew1 | refine below_set ?_ GE124.out | refine below_set ?_ GE126.out | refine below_set ?_ GE133.out) | exact HB.out))) : w.heap.size ≤ gb134)); have n7_ := Aside0.mk ((by rw [hg]; exact (below_size (by repeat (first | (with_reducible first | exact HB.out | apply below_alloc | apply pw_below_drewN | apply below_drew1 | refine below_set ?_ GE124.out | refine below_set ?_ GE126.out | refine below_set ?_ GE133.out) | exact HB.out))) : w.heap.size ≤ gb134)); have n8_ := Aside0.mk ((by rw [hg]; exact Nat.ne_of_lt (blk_lt (g := gb124) (o := .cells #[.int .i64 x125000_1, .int .i64 x125001_1] 44 (0, 0)) (by (with_reducible repeat (first | refine blk_drewN ?_ _ | refine blk_drew ?_ | refine blk_alloc ?_ _)); exact BK124.out)) : gb124 ≠ gb134)); have n9_ := Aside0.mk ((by rw [hg]; exact Nat.ne_of_gt (blk_lt (g := gb124) (o := .cells #[.int .i64 x125000_1, .int .i64 x125001_1] 44 (0, 0)) (by (with_reducible repeat (first | refine blk_drewN ?_ _ | refine blk_drew ?_ | refine blk_alloc ?_ _)); exact BK124.out)) : gb134 ≠ gb124)); have n10_ := Aside0.mk ((by rw [hg]; exact Nat.ne_of_lt (blk_lt (g := gb126) (o := .cells #[.int .i64 ((rd_T26 l1 x17_1).f0), .int .i64 ((rd_T26 l1 x17_1).f1)] 26 (0, 0)) (by (with_reducible repeat (first | refine blk_drewN ?_ _ | refine blk_drew ?_ | refine blk_alloc ?_ _)); exact BK126.out)) : gb126 ≠ gb134)); have n11_ := Aside0.mk ((by rw [hg]; exact Nat.ne_of_gt (blk_lt (g := gb126) (o := .cells #[.int .i64 ((rd_T26 l1 x17_1).f0), .int .i64 ((rd_T26 l1 x17_1).f1)] 26 (0, 0)) (by (with_reducible repeat (first | refine blk_drewN ?_ _ | refine blk_drew ?_ | refine blk_alloc ?_ _)); exact BK126.out)) : gb134 ≠ gb126)); have n12_ := Aside0.mk ((by rw [hg]; exact Nat.ne_of_lt (blk_lt (g := gb133) (o := .cells #[.int .i64 0, .int .i64 0] 44 (0, 0)) (by (with_reducible repeat (first | refine blk_drewN ?_ _ | refine blk_drew ?_ | refine blk_alloc ?_ _)); exact BK133.out)) : gb133 ≠ gb134)); have n13_ := Aside0.mk ((by rw [hg]; exact Nat.ne_of_gt (blk_lt (g := gb133) (o := .cells #[.int .i64 0, .int .i64 0] 44 (0, 0)) (by (with_reducible repeat (first | refine blk_drewN ?_ _ | refine blk_drew ?_ | refine blk_alloc ?_ _)); exact BK133.out)) : gb134 ≠ gb133)); clear HO_6; clear BK124; clear BK126; clear BK133; clear HB; have HO_6 := n0_; have BK124 := n1_; have BK126 := n2_; have BK133 := n3_; have HB := n4_; have BK134 := n5_; have GW134 := n6_; have GE134 := n7_; have NB124_134 := n8_; have NB134_124 := n9_; have NB126_134 := n10_; have NB134_126 := n11_; have NB133_134 := n12_; have NB134_133 := n13_; clear n0_ n1_ n2_ n3_ n4_ n5_ n6_ n7_ n8_ n9_ n10_ n11_ n12_ n13_; clear hb hbox hg; have hnb20 := NB133_124.out; have hnc20 := NB124_133.out; have hnb21 := NB133_126.out; have hnc21 := NB126_133.out; have hnb22 := NB133_134.out; have hnc22 := NB134_133.out; have hcz23_0 : w19.cell? ⟨gb133, 0, none⟩ = some (.int .i64 0) := (blk_cell BK133.out 0).trans rfl; have hcz23_1 : w19.cell? ⟨gb133, 1, none⟩ = some (.int .i64 0) := (blk_cell BK133.out 1).trans rfl; have hfz23_0 := blk_frozen BK133.out 0; have hfz23_1 := blk_frozen BK133.out 1; have hnb24 := NB134_124.out; have hnc24 := NB124_134.out; have hnb25 := NB134_126.out; have hnc25 := NB126_134.out; have hcz26_0 : w19.cell? ⟨gb134, 0, none⟩ = some (.int .i64 0) := (blk_cell BK134.out 0).trans rfl; have hcz26_1 : w19.cell? ⟨gb134, 1, none⟩ = some (.int .i64 0) := (blk_cell BK134.out 1).trans rfl; have hcz26_2 : w19.cell? ⟨gb134, 2, none⟩ = some (.string (⟨#[]⟩ : ByteArray)) := (blk_cell BK134.out 2).trans rfl; have hfz26_0 := blk_frozen BK134.out 0; have hfz26_1 := blk_frozen BK134.out 1; have hfz26_2 := blk_frozen BK134.out 2))
                have n0_ : Aside0 (Kd.R k46 46 (((((w19.setCell ⟨gb133, 0, none⟩ (.int .i64 t127)).setCell ⟨gb133, 1, none⟩ (.int .i64 t128)).setCell ⟨gb134, 0, none⟩ (.int .i64 t129)).setCell ⟨gb134, 1, none⟩ (.int .i64 t130)).setCell ⟨gb134, 2, none⟩ (.string t131)) w.heap.size (fun k_ => k_ ≠ gb134) u6 x6_1) := ⟨by (with_reducible repeat (first | apply Kd.R_alloc | apply Kd.R_drewN | apply Kd.R_drew)); exact Kd.R_mono (Kd.R_far (p := ⟨gb134, 2, none⟩) (Kd.R_far (p := ⟨gb134, 1, none⟩) (Kd.R_far (p := ⟨gb134, 0, none⟩) (Kd.R_far (p := ⟨gb133, 1, none⟩) (Kd.R_far (p := ⟨gb133, 0, none⟩) (Kd.R_mono (Kd.R_types HO_6.out BK133.out (by decide)) (fun k_ hk => (⟨hk, hk.1.2⟩ : _ ∧ k_ ≠ gb134))) (fun _ hk => hk.1.2) (.int .i64 t127)) (fun _ hk => hk.1.2) (.int .i64 t128)) (fun _ hk => hk.2) (.int .i64 t129)) (fun _ hk => hk.2) (.int .i64 t130)) (fun _ hk => hk.2) (.string t131)) (fun _ hk => hk.1.1.2)⟩
                have n1_ : Aside0 ((((((w19.setCell ⟨gb133, 0, none⟩ (.int .i64 t127)).setCell ⟨gb133, 1, none⟩ (.int .i64 t128)).setCell ⟨gb134, 0, none⟩ (.int .i64 t129)).setCell ⟨gb134, 1, none⟩ (.int .i64 t130)).setCell ⟨gb134, 2, none⟩ (.string t131)).heap[gb124]? = some (.cells #[.int .i64 x125000_1, .int .i64 x125001_1] 44 (0, 0))) := ⟨by (with_reducible repeat (first | refine blk_drewN ?_ _ | refine blk_drew ?_ | refine blk_alloc ?_ _)); refine blk_far ?_ NB124_134.out _; (with_reducible repeat (first | refine blk_drewN ?_ _ | refine blk_drew ?_ | refine blk_alloc ?_ _)); refine blk_far ?_ NB124_134.out _; (with_reducible repeat (first | refine blk_drewN ?_ _ | refine blk_drew ?_ | refine blk_alloc ?_ _)); refine blk_far ?_ NB124_134.out _; (with_reducible repeat (first | refine blk_drewN ?_ _ | refine blk_drew ?_ | refine blk_alloc ?_ _)); refine blk_far ?_ NB124_133.out _; (with_reducible repeat (first | refine blk_drewN ?_ _ | refine blk_drew ?_ | refine blk_alloc ?_ _)); refine blk_far ?_ NB124_133.out _; (with_reducible repeat (first | refine blk_drewN ?_ _ | refine blk_drew ?_ | refine blk_alloc ?_ _)); exact BK124.out⟩
                have n2_ : Aside0 ((((((w19.setCell ⟨gb133, 0, none⟩ (.int .i64 t127)).setCell ⟨gb133, 1, none⟩ (.int .i64 t128)).setCell ⟨gb134, 0, none⟩ (.int .i64 t129)).setCell ⟨gb134, 1, none⟩ (.int .i64 t130)).setCell ⟨gb134, 2, none⟩ (.string t131)).heap[gb126]? = some (.cells #[.int .i64 ((rd_T26 l1 x17_1).f0), .int .i64 ((rd_T26 l1 x17_1).f1)] 26 (0, 0))) := ⟨by (with_reducible repeat (first | refine blk_drewN ?_ _ | refine blk_drew ?_ | refine blk_alloc ?_ _)); refine blk_far ?_ NB126_134.out _; (with_reducible repeat (first | refine blk_drewN ?_ _ | refine blk_drew ?_ | refine blk_alloc ?_ _)); refine blk_far ?_ NB126_134.out _; (with_reducible repeat (first | refine blk_drewN ?_ _ | refine blk_drew ?_ | refine blk_alloc ?_ _)); refine blk_far ?_ NB126_134.out _; (with_reducible repeat (first | refine blk_drewN ?_ _ | refine blk_drew ?_ | refine blk_alloc ?_ _)); refine blk_far ?_ NB126_133.out _; (with_reducible repeat (first | refine blk_drewN ?_ _ | refine blk_drew ?_ | refine blk_alloc ?_ _)); refine blk_far ?_ NB126_133.out _; (with_reducible repeat (first | refine blk_drewN ?_ _ | refine blk_drew ?_ | refine blk_alloc ?_ _)); exact BK126.out⟩
                have n3_ : Aside0 ((((((w19.setCell ⟨gb133, 0, none⟩ (.int .i64 t127)).setCell ⟨gb133, 1, none⟩ (.int .i64 t128)).setCell ⟨gb134, 0, none⟩ (.int .i64 t129)).setCell ⟨gb134, 1, none⟩ (.int .i64 t130)).setCell ⟨gb134, 2, none⟩ (.string t131)).heap[gb133]? = some (.cells #[.int .i64 t127, .int .i64 t128] 44 (0, 0))) := ⟨by (with_reducible repeat (first | refine blk_drewN ?_ _ | refine blk_drew ?_ | refine blk_alloc ?_ _)); refine blk_far ?_ NB133_134.out _; (with_reducible repeat (first | refine blk_drewN ?_ _ | refine blk_drew ?_ | refine blk_alloc ?_ _)); refine blk_far ?_ NB133_134.out _; (with_reducible repeat (first | refine blk_drewN ?_ _ | refine blk_drew ?_ | refine blk_alloc ?_ _)); refine blk_far ?_ NB133_134.out _; (with_reducible repeat (first | refine blk_drewN ?_ _ | refine blk_drew ?_ | refine blk_alloc ?_ _)); refine blk_put (cs := #[.int .i64 t127, .int .i64 0]) ?_ 1 _ rfl; (with_reducible repeat (first | refine blk_drewN ?_ _ | refine blk_drew ?_ | refine blk_alloc ?_ _)); refine blk_put (cs := #[.int .i64 0, .int .i64 0]) ?_ 0 _ rfl; (with_reducible repeat (first | refine blk_drewN ?_ _ | refine blk_drew ?_ | refine blk_alloc ?_ _)); exact BK133.out⟩
                have n4_ : Aside0 ((((((w19.setCell ⟨gb133, 0, none⟩ (.int .i64 t127)).setCell ⟨gb133, 1, none⟩ (.int .i64 t128)).setCell ⟨gb134, 0, none⟩ (.int .i64 t129)).setCell ⟨gb134, 1, none⟩ (.int .i64 t130)).setCell ⟨gb134, 2, none⟩ (.string t131)).heap[gb134]? = some (.cells #[.int .i64 t129, .int .i64 t130, .string t131] 46 (0, 0))) := ⟨by (with_reducible repeat (first | refine blk_drewN ?_ _ | refine blk_drew ?_ | refine blk_alloc ?_ _)); refine blk_put (cs := #[.int .i64 t129, .int .i64 t130, .string (⟨#[]⟩ : ByteArray)]) ?_ 2 _ rfl; (with_reducible repeat (first | refine blk_drewN ?_ _ | refine blk_drew ?_ | refine blk_alloc ?_ _)); refine blk_put (cs := #[.int .i64 t129, .int .i64 0, .string (⟨#[]⟩ : ByteArray)]) ?_ 1 _ rfl; (with_reducible repeat (first | refine blk_drewN ?_ _ | refine blk_drew ?_ | refine blk_alloc ?_ _)); refine blk_put (cs := #[.int .i64 0, .int .i64 0, .string (⟨#[]⟩ : ByteArray)]) ?_ 0 _ rfl; (with_reducible repeat (first | refine blk_drewN ?_ _ | refine blk_drew ?_ | refine blk_alloc ?_ _)); refine blk_far ?_ NB134_133.out _; (with_reducible repeat (first | refine blk_drewN ?_ _ | refine blk_drew ?_ | refine blk_alloc ?_ _)); refine blk_far ?_ NB134_133.out _; (with_reducible repeat (first | refine blk_drewN ?_ _ | refine blk_drew ?_ | refine blk_alloc ?_ _)); exact BK134.out⟩
                have n5_ : Aside0 (Below w.heap.size w (((((w19.setCell ⟨gb133, 0, none⟩ (.int .i64 t127)).setCell ⟨gb133, 1, none⟩ (.int .i64 t128)).setCell ⟨gb134, 0, none⟩ (.int .i64 t129)).setCell ⟨gb134, 1, none⟩ (.int .i64 t130)).setCell ⟨gb134, 2, none⟩ (.string t131))) := ⟨by repeat (first | (with_reducible first | exact HB.out | apply below_alloc | apply pw_below_drewN | apply below_drew1 | refine below_set ?_ GE124.out | refine below_set ?_ GE126.out | refine below_set ?_ GE133.out | refine below_set ?_ GE134.out) | exact HB.out)⟩
                (try clear HO_6)
                (try clear BK124)
                (try clear BK126)
                (try clear BK133)
                (try clear BK134)
                (try clear HB)
                generalize (((((w19.setCell ⟨gb133, 0, none⟩ (.int .i64 t127)).setCell ⟨gb133, 1, none⟩ (.int .i64 t128)).setCell ⟨gb134, 0, none⟩ (.int .i64 t129)).setCell ⟨gb134, 1, none⟩ (.int .i64 t130)).setCell ⟨gb134, 2, none⟩ (.string t131)) = w27 at n0_ n1_ n2_ n3_ n4_ n5_ ⊢
                have HO_6 := n0_
                have BK124 := n1_
                have BK126 := n2_
                have BK133 := n3_
                have BK134 := n4_
                have HB := n5_
                clear n0_ n1_ n2_ n3_ n4_ n5_
                have n0_ := Aside0.mk (Kd.R_drew HO_6.out)
                have n1_ := Aside0.mk (blk_drew BK124.out)
                have n2_ := Aside0.mk (blk_drew BK126.out)
                have n3_ := Aside0.mk (blk_drew BK133.out)
                have n4_ := Aside0.mk (blk_drew BK134.out)
                have n5_ := Aside0.mk (below_drew1 HB.out)
                clear HO_6
                clear BK124
                clear BK126
                clear BK133
                clear BK134
                clear HB
                have HO_6 := n0_
                have BK124 := n1_
                have BK126 := n2_
                have BK133 := n3_
                have BK134 := n4_
                have HB := n5_
                clear n0_ n1_ n2_ n3_ n4_ n5_
                refine start_ (n := 7) (S := fun w' => w'.cell? ⟨gb134, 0, none⟩ = some (.int .i64 t129) ∧ w'.cell? ⟨gb134, 1, none⟩ = some (.int .i64 t130) ∧ w'.cell? ⟨gb134, 2, none⟩ = some (.string t131) ∧ w'.cell? ⟨gb133, 0, none⟩ = some (.int .i64 t127) ∧ w'.cell? ⟨gb133, 1, none⟩ = some (.int .i64 t128)) (ds := []) #[false, false, false, false, false, false, false] (by kernel_rfl) rfl rfl ⟨(blk_cell BK134.out 0).trans rfl, (blk_cell BK134.out 1).trans rfl, (blk_cell BK134.out 2).trans rfl, (blk_cell BK133.out 0).trans rfl, (blk_cell BK133.out 1).trans rfl⟩ (fun hHeld => ?_)
                generalize w27.drew = w28 at HO_6 BK124 BK126 BK133 BK134 HB hHeld ⊢
                refine pure_ (i := 0) (N := some 31) (v := ?_) (a' := ?_) #[true, false, false, false, false, false, false] rfl rfl (by kernel_rfl) (fun _ _ _ h => h) (Or.inl ⟨by rfl, ?_⟩) ?_ ?_
                rotate_left
                · intro w'
                  go_simp
                  with_reducible rfl
                rotate_left
                · simp only [Act.put, List.setIfInBounds_toArray, List.set_cons_zero, List.set_cons_succ, i64_w, i32_w]
                  rfl
                refine take_ (i := 1) (N := some 32) (v := ?_) (a' := ?_) #[true, true, false, false, false, false, false] rfl rfl (by kernel_rfl) (fun _ _ _ h => h) (Or.inl ⟨by rfl, ?_⟩) hHeld ?_ ?_
                rotate_left
                · rintro w' ⟨s0, s1, s2, s3, s4⟩
                  go_simp
                  with_reducible rfl
                rotate_left
                · simp only [Act.put, List.setIfInBounds_toArray, List.set_cons_zero, List.set_cons_succ, i64_w, i32_w]
                  rfl
                refine take_ (i := 4) (N := some 35) (v := ?_) (a' := ?_) #[true, true, false, false, true, false, false] rfl rfl (by kernel_rfl) (fun _ _ _ h => h) (Or.inl ⟨by rfl, ?_⟩) hHeld ?_ ?_
                rotate_left
                · rintro w' ⟨s0, s1, s2, s3, s4⟩
                  go_simp
                  with_reducible rfl
                rotate_left
                · simp only [Act.put, List.setIfInBounds_toArray, List.set_cons_zero, List.set_cons_succ, i64_w, i32_w]
                  rfl
                refine one_ (i := 2) (N := some 33) #[true, true, true, false, true, false, false] rfl rfl (by kernel_rfl) (by decide) (fun K hK => ?_)
                refine value_ (w1 := ?_) (v := ?_) (by rfl) rfl ?_ ?_
                rotate_left 2
                · go_simp
                  constructor
                  · rfl
                  · rfl
                refine hK.out _ _ ⟨(blk_cell (blk_alloc BK134.out _) 0).trans rfl, (blk_cell (blk_alloc BK134.out _) 1).trans rfl, (blk_cell (blk_alloc BK134.out _) 2).trans rfl, (blk_cell (blk_alloc BK133.out _) 0).trans rfl, (blk_cell (blk_alloc BK133.out _) 1).trans rfl⟩ (fun hHeld => ?_)
                clear hK K
                refine norm_ (a' := ?_) ?_ ?_
                rotate_left
                · show Act.put _ (some 33) _ = _
                  simp only [Act.put, List.setIfInBounds_toArray, List.set_cons_zero, List.set_cons_succ, i64_w, i32_w]
                  rfl
                refine one_ (i := 3) (N := some 34) #[true, true, true, true, true, false, false] rfl rfl (by kernel_rfl) (by decide) (fun K hK => ?_)
                refine Kd.R_append_step k46 (w0 := w) w.heap.size (by rfl) (.tmp 31) (.tmp 33) 27 46 (.agg #[(.int .i64 0), (.int .i64 0), (.string ⟨#[]⟩)]) 32 rfl Tryd.underlying27 info46 rfl (by decide) (by omega) u6 x6_1 (⟨t129, t130, t131⟩ : S46) [.int .i64 t129, .int .i64 t130, .string t131] (fun k_ => k_ ≠ gb134) (fun _ => False) rfl rfl ?aP (fun _ hk => hk.elim) ?aF ?aO ?aB ?aS ?aL ?_
                (case aP => exact k46_mkM _ _ _ (⟨t129, t130, t131⟩ : S46))
                (case aB => exact (by repeat (first | (with_reducible first | exact HB.out | apply below_alloc | apply pw_below_drewN | apply below_drew1 | refine below_set ?_ GE124.out | refine below_set ?_ GE126.out | refine below_set ?_ GE133.out | refine below_set ?_ GE134.out) | exact HB.out)))
                (case aF => exact (fun k_ hk => Kd.freshB (g := gb134) (o := .cells #[.int .i64 t129, .int .i64 t130, .string t131] 46 (0, 0)) (by (with_reducible repeat (first | refine blk_drewN ?_ _ | refine blk_drew ?_ | refine blk_alloc ?_ _)); exact BK134.out) k_ hk))
                (case aO => exact (by (with_reducible repeat (first | apply Kd.R_alloc | apply Kd.R_drewN | apply Kd.R_drew)); exact HO_6.out))
                (case aS => exact (below_size (by repeat (first | (with_reducible first | exact HB.out | apply below_alloc | apply pw_below_drewN | apply below_drew1 | refine below_set ?_ GE124.out | refine below_set ?_ GE126.out | refine below_set ?_ GE133.out | refine below_set ?_ GE134.out) | exact HB.out))))
                (case aL => have := LMc12.out; omega)
                intro v136 w29 ho hb hg hat
                rw [← Ny135.out] at ho
                have n0_ := Aside0.mk (blk_grown (g := gb124) (o := .cells #[.int .i64 x125000_1, .int .i64 x125001_1] 44 (0, 0)) (by (with_reducible repeat (first | refine blk_drewN ?_ _ | refine blk_drew ?_ | refine blk_alloc ?_ _)); exact BK124.out) hg (Kd.R_ne HO_6.out BK124.out (by decide)))
                have n1_ := Aside0.mk (blk_grown (g := gb126) (o := .cells #[.int .i64 ((rd_T26 l1 x17_1).f0), .int .i64 ((rd_T26 l1 x17_1).f1)] 26 (0, 0)) (by (with_reducible repeat (first | refine blk_drewN ?_ _ | refine blk_drew ?_ | refine blk_alloc ?_ _)); exact BK126.out) hg (Kd.R_ne HO_6.out BK126.out (by decide)))
                have n2_ := Aside0.mk (blk_grown (g := gb133) (o := .cells #[.int .i64 t127, .int .i64 t128] 44 (0, 0)) (by (with_reducible repeat (first | refine blk_drewN ?_ _ | refine blk_drew ?_ | refine blk_alloc ?_ _)); exact BK133.out) hg (Kd.R_ne HO_6.out BK133.out (by decide)))
                have n3_ := Aside0.mk (blk_grown (g := gb134) (o := .cells #[.int .i64 t129, .int .i64 t130, .string t131] 46 (0, 0)) (by (with_reducible repeat (first | refine blk_drewN ?_ _ | refine blk_drew ?_ | refine blk_alloc ?_ _)); exact BK134.out) hg (Kd.R_away HO_6.out (fun _ hk => hk)))
                have n4_ := Aside0.mk (hb)
                have n5_ := Aside0.mk (ho)
                clear BK124
                clear BK126
                clear BK133
                clear BK134
                clear HB
                clear HO_6
                have BK124 := n0_
                have BK126 := n1_
                have BK133 := n2_
                have BK134 := n3_
                have HB := n4_
                have HO137 := n5_
                clear n0_ n1_ n2_ n3_ n4_ n5_
                clear ho hb hg hat
                refine hK.out _ _ ⟨(blk_cell BK134.out 0).trans rfl, (blk_cell BK134.out 1).trans rfl, (blk_cell BK134.out 2).trans rfl, (blk_cell BK133.out 0).trans rfl, (blk_cell BK133.out 1).trans rfl⟩ (fun hHeld => ?_)
                clear hK K
                refine norm_ (a' := ?_) ?_ ?_
                rotate_left
                · show Act.put _ (some 34) _ = _
                  simp only [Act.put, List.setIfInBounds_toArray, List.set_cons_zero, List.set_cons_succ, i64_w, i32_w]
                  rfl
                refine pure_ (i := 5) (N := some 6) (v := ?_) (a' := ?_) #[true, true, true, true, true, true, false] rfl rfl (by kernel_rfl) (fun _ _ _ h => h) (Or.inl ⟨by rfl, ?_⟩) ?_ ?_
                rotate_left
                · intro w'
                  go_simp
                  with_reducible rfl
                rotate_left
                · simp only [Act.put, List.setIfInBounds_toArray, List.set_cons_zero, List.set_cons_succ, i64_w, i32_w]
                  rfl
                refine one_ (i := 6) (N := none) #[true, true, true, true, true, true, true] rfl rfl (by kernel_rfl) (by decide) (fun K hK => ?_)
                have hs30 : w29.cell? ⟨gb124, 0, none⟩ = some (.int .i64 x125000_1) := (blk_cell BK124.out 0).trans rfl
                have hfs30 := blk_frozen BK124.out 0
                have hns30_1 := NB126_124.out
                have hns30_2 := NB133_124.out
                have hns30_3 := NB134_124.out
                have hms30_1 := NB124_126.out
                have hms30_2 := NB124_133.out
                have hms30_3 := NB124_134.out
                have hs31 : w29.cell? ⟨gb124, 1, none⟩ = some (.int .i64 x125001_1) := (blk_cell BK124.out 1).trans rfl
                have hfs31 := blk_frozen BK124.out 1
                have hns31_1 := NB126_124.out
                have hns31_2 := NB133_124.out
                have hns31_3 := NB134_124.out
                have hms31_1 := NB124_126.out
                have hms31_2 := NB124_133.out
                have hms31_3 := NB124_134.out
                refine skip_ (w1 := ?_) (by rfl) rfl ?_ ?_
                rotate_left
                · go_simp
                  rfl
                refine hK.out _ _ ⟨((cell_far (p := ⟨gb124, _, none⟩) NB134_124.out _).trans (((cell_far (p := ⟨gb124, _, none⟩) NB134_124.out _).trans (hHeld.1)))), ((cell_far (p := ⟨gb124, _, none⟩) NB134_124.out _).trans (((cell_far (p := ⟨gb124, _, none⟩) NB134_124.out _).trans (hHeld.2.1)))), ((cell_far (p := ⟨gb124, _, none⟩) NB134_124.out _).trans (((cell_far (p := ⟨gb124, _, none⟩) NB134_124.out _).trans (hHeld.2.2.1)))), ((cell_far (p := ⟨gb124, _, none⟩) NB133_124.out _).trans (((cell_far (p := ⟨gb124, _, none⟩) NB133_124.out _).trans (hHeld.2.2.2.1)))), ((cell_far (p := ⟨gb124, _, none⟩) NB133_124.out _).trans (((cell_far (p := ⟨gb124, _, none⟩) NB133_124.out _).trans (hHeld.2.2.2.2))))⟩ (fun hHeld => ?_)
                clear hK K
                refine done_ (by kernel_rfl) ?_
                try go_wp2
                go_roundg k1
                case measure => have := HK1.out; omega
                case rel => exact ⟨(y135), (wrap64 (x17_1 + 1)), (t127), (t128), (by first | rfl | (simp; done) | (simp [*]; done)), H', ⟨by have := HK1.out; omega⟩, ⟨by (with_reducible repeat (first | apply Kd.R_alloc | apply Kd.R_drewN | apply Kd.R_drew)); exact Kd.R_mono (Kd.R_far (p := ⟨gb124, 1, none⟩) (Kd.R_far (p := ⟨gb124, 0, none⟩) (Kd.R_types HO137.out BK124.out (by decide)) (fun _ hk => hk.2) (.int .i64 t127)) (fun _ hk => hk.2) (.int .i64 t128)) (fun _ hk => trivial)⟩, ⟨by (with_reducible repeat (first | refine blk_drewN ?_ _ | refine blk_drew ?_ | refine blk_alloc ?_ _)); refine blk_put (cs := #[.int .i64 t127, .int .i64 x125001_1]) ?_ 1 _ rfl; (with_reducible repeat (first | refine blk_drewN ?_ _ | refine blk_drew ?_ | refine blk_alloc ?_ _)); refine blk_put (cs := #[.int .i64 x125000_1, .int .i64 x125001_1]) ?_ 0 _ rfl; (with_reducible repeat (first | refine blk_drewN ?_ _ | refine blk_drew ?_ | refine blk_alloc ?_ _)); exact BK124.out⟩, ⟨by repeat (first | (with_reducible first | exact HB.out | apply below_alloc | apply pw_below_drewN | apply below_drew1 | refine below_set ?_ GE124.out | refine below_set ?_ GE126.out | refine below_set ?_ GE133.out | refine below_set ?_ GE134.out) | exact HB.out)⟩⟩
              · rw [if_neg c12] at H
                exact absurd H (by simp)
            · replace c11 := Bool.eq_false_iff.mpr c11
              subst c11
              have H1 : (some (([] : List (S46)), false)) = some (r1, r2) := by rw [if_neg (show ¬ (false = true) by decide)] at H; exact H
              clear H
              have H := H1
              clear H1
              simp only [Option.some.injEq, Prod.mk.injEq] at H
              obtain ⟨rfl, rfl⟩ := H
              have p125 : 0 ≤ (x17_1 : Int) := of_decide_eq_true (by first | (with_reducible assumption) | assumption)
              have q125 : x17_1 < (l1.length : Int) := of_decide_eq_true (by first | (with_reducible assumption) | assumption)
              obtain ⟨ad125, e125, hx125_0, hx125_1⟩ := at_T26 HR1.out x17_1 p125 q125
              cases e125
              replace hx125_0 := (HB.out.cell (World.block_lt_of_cell? w _ hx125_0)).trans hx125_0
              replace hx125_1 := (HB.out.cell (World.block_lt_of_cell? w _ hx125_1)).trans hx125_1
              replace p125 := eq_true p125
              replace q125 := eq_true q125
              go_wp2_with (first | ((with_reducible refine gate_dst (N := 9) rfl ?_); refine box_event ?hg (N := 9) ?hd (cs := #[.int .i64 0, .int .i64 0]) (t := 26) ?hr ?_; (case hd => rfl); (case hg => rfl); (case hr => first | (go_simp; done) | (go_simp; rfl)); intro gb126 hg w32 hbox hb; have n0_ := Aside0.mk (Kd.R_below (by (with_reducible repeat (first | apply Kd.R_alloc | apply Kd.R_drewN | apply Kd.R_drew)); exact HO_6.out) hb); have n1_ := Aside0.mk (blk_below (g := gb124) (o := .cells #[.int .i64 x125000_1, .int .i64 x125001_1] 44 (0, 0)) (by (with_reducible repeat (first | refine blk_drewN ?_ _ | refine blk_drew ?_ | refine blk_alloc ?_ _)); exact BK124.out) hb); have n2_ := Aside0.mk (below_step (by repeat (first | (with_reducible first | exact HB.out | apply below_alloc | apply pw_below_drewN | apply below_drew1 | refine below_set ?_ GE124.out) | exact HB.out)) hb); have n3_ := Aside0.mk (hbox); have n4_ := Aside0.mk ((by rw [hg]; exact (below_size (by repeat (first | (with_reducible first | exact HB.out | apply below_alloc | apply pw_below_drewN | apply below_drew1 | refine below_set ?_ GE124.out) | exact HB.out))) : w.heap.size ≤ gb126)); have n5_ := Aside0.mk ((by rw [hg]; exact (below_size (by repeat (first | (with_reducible first | exact HB.out | apply below_alloc | apply pw_below_drewN | apply below_drew1 | refine below_set ?_ GE124.out) | exact HB.out))) : w.heap.size ≤ gb126)); have n6_ := Aside0.mk ((by rw [hg]; exact Nat.ne_of_lt (blk_lt (g := gb124) (o := .cells #[.int .i64 x125000_1, .int .i64 x125001_1] 44 (0, 0)) (by (with_reducible repeat (first | refine blk_drewN ?_ _ | refine blk_drew ?_ | refine blk_alloc ?_ _)); exact BK124.out)) : gb124 ≠ gb126)); have n7_ := Aside0.mk ((by rw [hg]; exact Nat.ne_of_gt (blk_lt (g := gb124) (o := .cells #[.int .i64 x125000_1, .int .i64 x125001_1] 44 (0, 0)) (by (with_reducible repeat (first | refine blk_drewN ?_ _ | refine blk_drew ?_ | refine blk_alloc ?_ _)); exact BK124.out)) : gb126 ≠ gb124)); clear HO_6; clear BK124; clear HB; have HO_6 := n0_; have BK124 := n1_; have HB := n2_; have BK126 := n3_; have GW126 := n4_; have GE126 := n5_; have NB124_126 := n6_; have NB126_124 := n7_; clear n0_ n1_ n2_ n3_ n4_ n5_ n6_ n7_; clear hb hbox hg; have hnb33 := NB126_124.out; have hnc33 := NB124_126.out; have hcz34_0 : w32.cell? ⟨gb126, 0, none⟩ = some (.int .i64 0) := (blk_cell BK126.out 0).trans rfl; have hcz34_1 : w32.cell? ⟨gb126, 1, none⟩ = some (.int .i64 0) := (blk_cell BK126.out 1).trans rfl; have hfz34_0 := blk_frozen BK126.out 0; have hfz34_1 := blk_frozen BK126.out 1; have hcz35_0 : w32.cell? ⟨gb124, 0, none⟩ = some (.int .i64 x125000_1) := (blk_cell BK124.out 0).trans rfl; have hcz35_1 : w32.cell? ⟨gb124, 1, none⟩ = some (.int .i64 x125001_1) := (blk_cell BK124.out 1).trans rfl; have hfz35_0 := blk_frozen BK124.out 0; have hfz35_1 := blk_frozen BK124.out 1) | ((with_reducible refine gate_callee (f := 15) rfl ?_); refine goesL_ (some 25) rfl rfl Tryd.func15 (by kernel_rfl) rfl #[.slice A0 l0.length c0, .agg #[.int .i64 x125000_1, .int .i64 x125001_1], .agg #[.int .i64 ((rd_T26 l1 x17_1).f0), .int .i64 ((rd_T26 l1 x17_1).f1)]] rfl (by (try simp only [List.map_toArray, List.map_cons, List.map_nil]); first | done | rfl | (simp only [List.length_drop, List.length_take]; rfl)) ?_; (with_reducible refine (spec_Next.calls k1 _ _ l0 x125000_1 x125001_1 ((rd_T26 l1 x17_1).f0) ((rd_T26 l1 x17_1).f1) t127 t128 t129 t130 t131 false _ ?side1 ?side2 A10.out).mono ?_); (case side1 => exact Kd.C_below HR0.out (by repeat (first | (with_reducible first | exact HB.out | apply below_alloc | apply pw_below_drewN | apply below_drew1 | refine below_set ?_ GE124.out | refine below_set ?_ GE126.out) | exact HB.out))); (case side2 => exact HC0.out); rintro e w36 ⟨rfl, hb⟩; refine ⟨_, rfl, ?_⟩; have n0_ := Aside0.mk (Kd.R_below (by (with_reducible repeat (first | apply Kd.R_alloc | apply Kd.R_drewN | apply Kd.R_drew)); exact (Kd.R_mono (Kd.R_far (p := ⟨gb126, 1, none⟩) (Kd.R_far (p := ⟨gb126, 0, none⟩) (Kd.R_types HO_6.out BK126.out (by decide)) (fun _ hk => hk.2) (.int .i64 ((rd_T26 l1 x17_1).f0))) (fun _ hk => hk.2) (.int .i64 ((rd_T26 l1 x17_1).f1))) (fun _ h_ => h_.1))) hb); have n1_ := Aside0.mk (blk_below (g := gb124) (o := .cells #[.int .i64 x125000_1, .int .i64 x125001_1] 44 (0, 0)) (by (with_reducible repeat (first | refine blk_drewN ?_ _ | refine blk_drew ?_ | refine blk_alloc ?_ _)); refine blk_far ?_ NB124_126.out _; (with_reducible repeat (first | refine blk_drewN ?_ _ | refine blk_drew ?_ | refine blk_alloc ?_ _)); refine blk_far ?_ NB124_126.out _; (with_reducible repeat (first | refine blk_drewN ?_ _ | refine blk_drew ?_ | refine blk_alloc ?_ _)); exact BK124.out) hb); have n2_ := Aside0.mk (blk_below (g := gb126) (o := .cells #[.int .i64 ((rd_T26 l1 x17_1).f0), .int .i64 ((rd_T26 l1 x17_1).f1)] 26 (0, 0)) (by (with_reducible repeat (first | refine blk_drewN ?_ _ | refine blk_drew ?_ | refine blk_alloc ?_ _)); refine blk_put (cs := #[.int .i64 ((rd_T26 l1 x17_1).f0), .int .i64 0]) ?_ 1 _ rfl; (with_reducible repeat (first | refine blk_drewN ?_ _ | refine blk_drew ?_ | refine blk_alloc ?_ _)); refine blk_put (cs := #[.int .i64 0, .int .i64 0]) ?_ 0 _ rfl; (with_reducible repeat (first | refine blk_drewN ?_ _ | refine blk_drew ?_ | refine blk_alloc ?_ _)); exact BK126.out) hb); have n3_ := Aside0.mk (below_step (by repeat (first | (with_reducible first | exact HB.out | apply below_alloc | apply pw_below_drewN | apply below_drew1 | refine below_set ?_ GE124.out | refine below_set ?_ GE126.out) | exact HB.out)) hb); clear HO_6; clear BK124; clear BK126; clear HB; have HO_6 := n0_; have BK124 := n1_; have BK126 := n2_; have HB := n3_; clear n0_ n1_ n2_ n3_; (try clear hb); (try clear hb2); (try clear hk); (try clear hi)) | ((with_reducible refine gate_dst (N := 10) rfl ?_); refine box_event ?hg (N := 10) ?hd (cs := #[.int .i64 0, .int .i64 0]) (t := 44) ?hr ?_; (case hd => rfl); (case hg => rfl); (case hr => first | (go_simp; done) | (go_simp; rfl)); intro gb133 hg w37 hbox hb; have n0_ := Aside0.mk (Kd.R_below (by (with_reducible repeat (first | apply Kd.R_alloc | apply Kd.R_drewN | apply Kd.R_drew)); exact HO_6.out) hb); have n1_ := Aside0.mk (blk_below (g := gb124) (o := .cells #[.int .i64 x125000_1, .int .i64 x125001_1] 44 (0, 0)) (by (with_reducible repeat (first | refine blk_drewN ?_ _ | refine blk_drew ?_ | refine blk_alloc ?_ _)); exact BK124.out) hb); have n2_ := Aside0.mk (blk_below (g := gb126) (o := .cells #[.int .i64 ((rd_T26 l1 x17_1).f0), .int .i64 ((rd_T26 l1 x17_1).f1)] 26 (0, 0)) (by (with_reducible repeat (first | refine blk_drewN ?_ _ | refine blk_drew ?_ | refine blk_alloc ?_ _)); exact BK126.out) hb); have n3_ := Aside0.mk (below_step (by repeat (first | (with_reducible first | exact HB.out | apply below_alloc | apply pw_below_drewN | apply below_drew1 | refine below_set ?_ GE124.out | refine below_set ?_ GE126.out) | exact HB.out)) hb); have n4_ := Aside0.mk (hbox); have n5_ := Aside0.mk ((by rw [hg]; exact (below_size (by repeat (first | (with_reducible first | exact HB.out | apply below_alloc | apply pw_below_drewN | apply below_drew1 | refine below_set ?_ GE124.out | refine below_set ?_ GE126.out) | exact HB.out))) : w.heap.size ≤ gb133)); have n6_ := Aside0.mk ((by rw [hg]; exact (below_size (by repeat (first | (with_reducible first | exact HB.out | apply below_alloc | apply pw_below_drewN | apply below_drew1 | refine below_set ?_ GE124.out | refine below_set ?_ GE126.out) | exact HB.out))) : w.heap.size ≤ gb133)); have n7_ := Aside0.mk ((by rw [hg]; exact Nat.ne_of_lt (blk_lt (g := gb124) (o := .cells #[.int .i64 x125000_1, .int .i64 x125001_1] 44 (0, 0)) (by (with_reducible repeat (first | refine blk_drewN ?_ _ | refine blk_drew ?_ | refine blk_alloc ?_ _)); exact BK124.out)) : gb124 ≠ gb133)); have n8_ := Aside0.mk ((by rw [hg]; exact Nat.ne_of_gt (blk_lt (g := gb124) (o := .cells #[.int .i64 x125000_1, .int .i64 x125001_1] 44 (0, 0)) (by (with_reducible repeat (first | refine blk_drewN ?_ _ | refine blk_drew ?_ | refine blk_alloc ?_ _)); exact BK124.out)) : gb133 ≠ gb124)); have n9_ := Aside0.mk ((by rw [hg]; exact Nat.ne_of_lt (blk_lt (g := gb126) (o := .cells #[.int .i64 ((rd_T26 l1 x17_1).f0), .int .i64 ((rd_T26 l1 x17_1).f1)] 26 (0, 0)) (by (with_reducible repeat (first | refine blk_drewN ?_ _ | refine blk_drew ?_ | refine blk_alloc ?_ _)); exact BK126.out)) : gb126 ≠ gb133)); have n10_ := Aside0.mk ((by rw [hg]; exact Nat.ne_of_gt (blk_lt (g := gb126) (o := .cells #[.int .i64 ((rd_T26 l1 x17_1).f0), .int .i64 ((rd_T26 l1 x17_1).f1)] 26 (0, 0)) (by (with_reducible repeat (first | refine blk_drewN ?_ _ | refine blk_drew ?_ | refine blk_alloc ?_ _)); exact BK126.out)) : gb133 ≠ gb126)); clear HO_6; clear BK124; clear BK126; clear HB; have HO_6 := n0_; have BK124 := n1_; have BK126 := n2_; have HB := n3_; have BK133 := n4_; have GW133 := n5_; have GE133 := n6_; have NB124_133 := n7_; have NB133_124 := n8_; have NB126_133 := n9_; have NB133_126 := n10_; clear n0_ n1_ n2_ n3_ n4_ n5_ n6_ n7_ n8_ n9_ n10_; clear hb hbox hg) | ((with_reducible refine gate_dst (N := 11) rfl ?_); refine box_event ?hg (N := 11) ?hd (cs := #[.int .i64 0, .int .i64 0, .string (⟨#[]⟩ : ByteArray)]) (t := 46) ?hr ?_; (case hd => rfl); (case hg => rfl); (case hr => first | (go_simp; done) | (go_simp; rfl)); intro gb134 hg w38 hbox hb; have n0_ := Aside0.mk (Kd.R_below (Kd.R_elderB (by (with_reducible repeat (first | apply Kd.R_alloc | apply Kd.R_drewN | apply Kd.R_drew)); exact HO_6.out) gb134 (Nat.le_of_eq hg.symm)) hb); have n1_ := Aside0.mk (blk_below (g := gb124) (o := .cells #[.int .i64 x125000_1, .int .i64 x125001_1] 44 (0, 0)) (by (with_reducible repeat (first | refine blk_drewN ?_ _ | refine blk_drew ?_ | refine blk_alloc ?_ _)); exact BK124.out) hb); have n2_ := Aside0.mk (blk_below (g := gb126) (o := .cells #[.int .i64 ((rd_T26 l1 x17_1).f0), .int .i64 ((rd_T26 l1 x17_1).f1)] 26 (0, 0)) (by (with_reducible repeat (first | refine blk_drewN ?_ _ | refine blk_drew ?_ | refine blk_alloc ?_ _)); exact BK126.out) hb); have n3_ := Aside0.mk (blk_below (g := gb133) (o := .cells #[.int .i64 0, .int .i64 0] 44 (0, 0)) (by (with_reducible repeat (first | refine blk_drewN ?_ _ | refine blk_drew ?_ | refine blk_alloc ?_ _)); exact BK133.out) hb); have n4_ := Aside0.mk (below_step (by repeat (first | (with_reducible first | exact HB.out | apply below_alloc | apply pw_below_drewN | apply below_drew1 | refine below_set ?_ GE124.out | refine below_set ?_ GE126.out | refine below_set ?_ GE133.out) | exact HB.out)) hb); have n5_ := Aside0.mk (hbox); have n6_ := Aside0.mk ((by rw [hg]; exact (below_size (by repeat (first | (with_reducible first | exact HB.out | apply below_alloc | apply pw_below_drewN | apply below_drew1 | refine below_set ?_ GE124.out | refine below_set ?_ GE126.out | refine below_set ?_ GE133.out) | exact HB.out))) : w.heap.size ≤ gb134)); have n7_ := Aside0.mk ((by rw [hg]; exact (below_size (by repeat (first | (with_reducible first | exact HB.out | apply below_alloc | apply pw_below_drewN | apply below_drew1 | refine below_set ?_ GE124.out | refine below_set ?_ GE126.out | refine below_set ?_ GE133.out) | exact HB.out))) : w.heap.size ≤ gb134)); have n8_ := Aside0.mk ((by rw [hg]; exact Nat.ne_of_lt (blk_lt (g := gb124) (o := .cells #[.int .i64 x125000_1, .int .i64 x125001_1] 44 (0, 0)) (by (with_reducible repeat (first | refine blk_drewN ?_ _ | refine blk_drew ?_ | refine blk_alloc ?_ _)); exact BK124.out)) : gb124 ≠ gb134)); have n9_ := Aside0.mk ((by rw [hg]; exact Nat.ne_of_gt (blk_lt (g := gb124) (o := .cells #[.int .i64 x125000_1, .int .i64 x125001_1] 44 (0, 0)) (by (with_reducible repeat (first | refine blk_drewN ?_ _ | refine blk_drew ?_ | refine blk_alloc ?_ _)); exact BK124.out)) : gb134 ≠ gb124)); have n10_ := Aside0.mk ((by rw [hg]; exact Nat.ne_of_lt (blk_lt (g := gb126) (o := .cells #[.int .i64 ((rd_T26 l1 x17_1).f0), .int .i64 ((rd_T26 l1 x17_1).f1)] 26 (0, 0)) (by (with_reducible repeat (first | refine blk_drewN ?_ _ | refine blk_drew ?_ | refine blk_alloc ?_ _)); exact BK126.out)) : gb126 ≠ gb134)); have n11_ := Aside0.mk ((by rw [hg]; exact Nat.ne_of_gt (blk_lt (g := gb126) (o := .cells #[.int .i64 ((rd_T26 l1 x17_1).f0), .int .i64 ((rd_T26 l1 x17_1).f1)] 26 (0, 0)) (by (with_reducible repeat (first | refine blk_drewN ?_ _ | refine blk_drew ?_ | refine blk_alloc ?_ _)); exact BK126.out)) : gb134 ≠ gb126)); have n12_ := Aside0.mk ((by rw [hg]; exact Nat.ne_of_lt (blk_lt (g := gb133) (o := .cells #[.int .i64 0, .int .i64 0] 44 (0, 0)) (by (with_reducible repeat (first | refine blk_drewN ?_ _ | refine blk_drew ?_ | refine blk_alloc ?_ _)); exact BK133.out)) : gb133 ≠ gb134)); have n13_ := Aside0.mk ((by rw [hg]; exact Nat.ne_of_gt (blk_lt (g := gb133) (o := .cells #[.int .i64 0, .int .i64 0] 44 (0, 0)) (by (with_reducible repeat (first | refine blk_drewN ?_ _ | refine blk_drew ?_ | refine blk_alloc ?_ _)); exact BK133.out)) : gb134 ≠ gb133)); clear HO_6; clear BK124; clear BK126; clear BK133; clear HB; have HO_6 := n0_; have BK124 := n1_; have BK126 := n2_; have BK133 := n3_; have HB := n4_; have BK134 := n5_; have GW134 := n6_; have GE134 := n7_; have NB124_134 := n8_; have NB134_124 := n9_; have NB126_134 := n10_; have NB134_126 := n11_; have NB133_134 := n12_; have NB134_133 := n13_; clear n0_ n1_ n2_ n3_ n4_ n5_ n6_ n7_ n8_ n9_ n10_ n11_ n12_ n13_; clear hb hbox hg; have hnb39 := NB133_124.out; have hnc39 := NB124_133.out; have hnb40 := NB133_126.out; have hnc40 := NB126_133.out; have hnb41 := NB133_134.out; have hnc41 := NB134_133.out; have hcz42_0 : w38.cell? ⟨gb133, 0, none⟩ = some (.int .i64 0) := (blk_cell BK133.out 0).trans rfl; have hcz42_1 : w38.cell? ⟨gb133, 1, none⟩ = some (.int .i64 0) := (blk_cell BK133.out 1).trans rfl; have hfz42_0 := blk_frozen BK133.out 0; have hfz42_1 := blk_frozen BK133.out 1; have hnb43 := NB134_124.out; have hnc43 := NB124_134.out; have hnb44 := NB134_126.out; have hnc44 := NB126_134.out; have hcz45_0 : w38.cell? ⟨gb134, 0, none⟩ = some (.int .i64 0) := (blk_cell BK134.out 0).trans rfl; have hcz45_1 : w38.cell? ⟨gb134, 1, none⟩ = some (.int .i64 0) := (blk_cell BK134.out 1).trans rfl; have hcz45_2 : w38.cell? ⟨gb134, 2, none⟩ = some (.string (⟨#[]⟩ : ByteArray)) := (blk_cell BK134.out 2).trans rfl; have hfz45_0 := blk_frozen BK134.out 0; have hfz45_1 := blk_frozen BK134.out 1; have hfz45_2 := blk_frozen BK134.out 2))
              go_ret2
              exact ⟨_, by first | rfl | (simp [errW_none, errW_some] <;> rfl) | (simp [*, errW_none, errW_some] <;> rfl), by first | exact Kd.R_nil _ _ _ _ _ | exact Kd.N_nil _ _ _ _ _ | exact Kd.V_nil _ _ _ _ _ | exact Kd.Q_nil _ _ _ _ _ | exact Kd.S_nil _ _ _ _ _, by repeat (first | (with_reducible first | exact HB.out | apply below_alloc | apply pw_below_drewN | apply below_drew1 | refine below_set ?_ GE124.out | refine below_set ?_ GE126.out | refine below_set ?_ GE133.out | refine below_set ?_ GE134.out) | exact HB.out)⟩
          · rw [if_neg c9] at H
            exact absurd H (by simp)
        · rw [if_neg c8] at H
          exact absurd H (by simp)
      · rw [if_neg c7] at H
        have c7b0 : decide (x17_1 < (l1.length : Int)) = false := decide_eq_false c7
        clear c7
        simp only [Option.some.injEq, Prod.mk.injEq] at H
        obtain ⟨rfl, rfl⟩ := H
        go_wp2
        go_ret2
        exact ⟨_, by first | rfl | (simp [errW_none, errW_some] <;> rfl) | (simp [*, errW_none, errW_some] <;> rfl), by (with_reducible repeat (first | apply Kd.R_alloc | apply Kd.R_drewN | apply Kd.R_drew)); exact HO_6.out, by repeat (first | (with_reducible first | exact HB.out | apply below_alloc | apply pw_below_drewN | apply below_drew1 | refine below_set ?_ GE124.out) | exact HB.out)⟩

end Go.Proofs.YtojgpdphdhcjiaaDoor.PFnInput
