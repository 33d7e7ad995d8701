import Derived.Test.YtojgpdphdhcjiaaDoorNextA
namespace Go.Proofs.YtojgpdphdhcjiaaDoor.PFnInput
open Go.RowKit Go.Proofs.YtojgpdphdhcjiaaDoorW.PrintWords Go.Proofs.YtojgpdphdhcjiaaDoorW.PrintLast Go.Proofs.YtojgpdphdhcjiaaDoorW.PrintMore
attribute [local go_sem] max2_int min2_int max_two min_two max_three min_three max_four min_four   -- for this text's walks alone
set_option linter.unusedVariables false
set_option linter.unusedSimpArgs false

set_option maxHeartbeats 8000000 in
set_option maxRecDepth 100000 in
theorem spec_Next.callsB (k : Nat) (A0 : Option Addr) (c0 : Nat) (l0 : List Int) (a1_0 : Int) (a1_1 : Int) (a2_0 : Int) (a2_1 : Int) (r1 : Int) (r2 : Int) (r3 : Int) (r4 : Int) (r5 : ByteArray) (r6 : Bool) (w : World) (hgrp_ : a2_0 = 4 ∨ a2_0 = 5 ∨ a2_0 = 6 ∨ a2_0 = 7) (hr0 : Kd.C (Kd.int .u8) w A0 l0.length l0) (hc0 : l0.length ≤ c0) (h : spec_Next.f k l0 a1_0 a1_1 a2_0 a2_1 = some (r1, r2, r3, r4, r5, r6)) :
    Calls Tryd.prog 15 #[.slice A0 l0.length c0, .agg #[.int .i64 a1_0, .int .i64 a1_1], .agg #[.int .i64 a2_0, .int .i64 a2_1]] w fun e w' => e = .returned (.tuple #[.agg #[.int .i64 r1, .int .i64 r2], .agg #[.int .i64 r3, .int .i64 r4, .string r5], .bool r6]) ∧ Below w.heap.size w w' := by
  have HGRP := Aside0.mk hgrp_
  clear hgrp_
  have hu44 := Tryd.underlying44
  have hu26 := Tryd.underlying26
  have hu46 := Tryd.underlying46
  have HR0 := Aside0.mk hr0
  have HC0 := Aside0.mk hc0
  clear hr0 hc0
  have HB := Aside0.mk (Below.refl w.heap.size w)
  have H : (if a2_1 ≥ (wrap64 (-(l0.length : Int))) then (if a2_1 ≤ (l0.length : Int) then (if (wrap64 (a1_1 + a2_1)) ≥ a1_0 then (spec_Next.j0 k l0 (wrap64 (a1_1 + a2_1)) (decide ((wrap64 (a1_1 + a2_1)) ≤ (l0.length : Int))) a1_0 a1_1 a2_0 a2_1 0 0 (⟨#[]⟩ : ByteArray)) else (spec_Next.j0 k l0 (wrap64 (a1_1 + a2_1)) false a1_0 a1_1 a2_0 a2_1 0 0 (⟨#[]⟩ : ByteArray))) else (spec_Next.j0 k l0 (wrap64 (a1_1 + a2_1)) false a1_0 a1_1 a2_0 a2_1 0 0 (⟨#[]⟩ : ByteArray))) else (spec_Next.j0 k l0 (wrap64 (a1_1 + a2_1)) false a1_0 a1_1 a2_0 a2_1 0 0 (⟨#[]⟩ : ByteArray))) = some (r1, r2, r3, r4, r5, r6) := h
  clear h
  have HC4 := Aside0.mk H
  clear H
  go_enter Tryd.func15, Tryd.ntmps15
  go_upto_region 3 with (first | ((with_reducible refine gate_dst (N := 4) rfl ?_); (try (refine gate_guard (by rfl) ?_; dsimp only)); refine box_event ?hg (N := 4) ?hd (cs := #[.int .i64 a1_0, .int .i64 a1_1]) (t := 44) ?hr ?_; (case hd => rfl); (case hg => rfl); (case hr => first | (go_simp; done) | (go_simp; rfl)); intro gb109 hg w5 hbox hb; have n0_ := Aside0.mk (below_step (by repeat (first | (with_reducible first | exact HB.out | apply below_alloc | apply pw_below_drewN | apply below_drew1) | exact HB.out)) hb); have n1_ := Aside0.mk (hbox); have n2_ := Aside0.mk ((by rw [hg]; exact (below_size (by repeat (first | (with_reducible first | exact HB.out | apply below_alloc | apply pw_below_drewN | apply below_drew1) | exact HB.out))) : w.heap.size ≤ gb109)); have n3_ := Aside0.mk ((by rw [hg]; exact (below_size (by repeat (first | (with_reducible first | exact HB.out | apply below_alloc | apply pw_below_drewN | apply below_drew1) | exact HB.out))) : w.heap.size ≤ gb109)); clear HB; have HB := n0_; have BK109 := n1_; have GW109 := n2_; have GE109 := n3_; clear n0_ n1_ n2_ n3_; clear hb hbox hg) | ((with_reducible refine gate_dst (N := 5) rfl ?_); (try (refine gate_guard (by rfl) ?_; dsimp only)); refine box_event ?hg (N := 5) ?hd (cs := #[.int .i64 a2_0, .int .i64 a2_1]) (t := 26) ?hr ?_; (case hd => rfl); (case hg => rfl); (case hr => first | (go_simp; done) | (go_simp; rfl)); intro gb110 hg w6 hbox hb; have n0_ := Aside0.mk (blk_below (g := gb109) (o := .cells #[.int .i64 a1_0, .int .i64 a1_1] 44 (0, 0)) (by (with_reducible repeat (first | refine blk_drewN ?_ _ | refine blk_drew ?_ | refine blk_alloc ?_ _)); exact BK109.out) hb); have n1_ := Aside0.mk (below_step (by repeat (first | (with_reducible first | exact HB.out | apply below_alloc | apply pw_below_drewN | apply below_drew1 | refine below_set ?_ GE109.out) | exact HB.out)) hb); have n2_ := Aside0.mk (hbox); have n3_ := Aside0.mk ((by rw [hg]; exact (below_size (by repeat (first | (with_reducible first | exact HB.out | apply below_alloc | apply pw_below_drewN | apply below_drew1 | refine below_set ?_ GE109.out) | exact HB.out))) : w.heap.size ≤ gb110)); have n4_ := Aside0.mk ((by rw [hg]; exact (below_size (by repeat (first | (with_reducible first | exact HB.out | apply below_alloc | apply pw_below_drewN | apply below_drew1 | refine below_set ?_ GE109.out) | exact HB.out))) : w.heap.size ≤ gb110)); have n5_ := Aside0.mk ((by rw [hg]; exact Nat.ne_of_lt (blk_lt (g := gb109) (o := .cells #[.int .i64 a1_0, .int .i64 a1_1] 44 (0, 0)) (by (with_reducible repeat (first | refine blk_drewN ?_ _ | refine blk_drew ?_ | refine blk_alloc ?_ _)); exact BK109.out)) : gb109 ≠ gb110)); have n6_ := Aside0.mk ((by rw [hg]; exact Nat.ne_of_gt (blk_lt (g := gb109) (o := .cells #[.int .i64 a1_0, .int .i64 a1_1] 44 (0, 0)) (by (with_reducible repeat (first | refine blk_drewN ?_ _ | refine blk_drew ?_ | refine blk_alloc ?_ _)); exact BK109.out)) : gb110 ≠ gb109)); clear BK109; clear HB; have BK109 := n0_; have HB := n1_; have BK110 := n2_; have GW110 := n3_; have GE110 := n4_; have NB109_110 := n5_; have NB110_109 := n6_; clear n0_ n1_ n2_ n3_ n4_ n5_ n6_; clear hb hbox hg) | ((with_reducible refine gate_dst (N := 6) rfl ?_); (try (refine gate_guard (by rfl) ?_; dsimp only)); refine box_event ?hg (N := 6) ?hd (cs := #[.int .i64 0, .int .i64 0]) (t := 44) ?hr ?_; (case hd => rfl); (case hg => rfl); (case hr => first | (go_simp; done) | (go_simp; rfl)); intro gb111 hg w7 hbox hb; have n0_ := Aside0.mk (blk_below (g := gb109) (o := .cells #[.int .i64 a1_0, .int .i64 a1_1] 44 (0, 0)) (by (with_reducible repeat (first | refine blk_drewN ?_ _ | refine blk_drew ?_ | refine blk_alloc ?_ _)); exact BK109.out) hb); have n1_ := Aside0.mk (blk_below (g := gb110) (o := .cells #[.int .i64 a2_0, .int .i64 a2_1] 26 (0, 0)) (by (with_reducible repeat (first | refine blk_drewN ?_ _ | refine blk_drew ?_ | refine blk_alloc ?_ _)); exact BK110.out) hb); have n2_ := Aside0.mk (below_step (by repeat (first | (with_reducible first | exact HB.out | apply below_alloc | apply pw_below_drewN | apply below_drew1 | refine below_set ?_ GE109.out | refine below_set ?_ GE110.out) | exact HB.out)) hb); have n3_ := Aside0.mk (hbox); have n4_ := Aside0.mk ((by rw [hg]; exact (below_size (by repeat (first | (with_reducible first | exact HB.out | apply below_alloc | apply pw_below_drewN | apply below_drew1 | refine below_set ?_ GE109.out | refine below_set ?_ GE110.out) | exact HB.out))) : w.heap.size ≤ gb111)); have n5_ := Aside0.mk ((by rw [hg]; exact (below_size (by repeat (first | (with_reducible first | exact HB.out | apply below_alloc | apply pw_below_drewN | apply below_drew1 | refine below_set ?_ GE109.out | refine below_set ?_ GE110.out) | exact HB.out))) : w.heap.size ≤ gb111)); have n6_ := Aside0.mk ((by rw [hg]; exact Nat.ne_of_lt (blk_lt (g := gb109) (o := .cells #[.int .i64 a1_0, .int .i64 a1_1] 44 (0, 0)) (by (with_reducible repeat (first | refine blk_drewN ?_ _ | refine blk_drew ?_ | refine blk_alloc ?_ _)); exact BK109.out)) : gb109 ≠ gb111)); have n7_ := Aside0.mk ((by rw [hg]; exact Nat.ne_of_gt (blk_lt (g := gb109) (o := .cells #[.int .i64 a1_0, .int .i64 a1_1] 44 (0, 0)) (by (with_reducible repeat (first | refine blk_drewN ?_ _ | refine blk_drew ?_ | refine blk_alloc ?_ _)); exact BK109.out)) : gb111 ≠ gb109)); have n8_ := Aside0.mk ((by rw [hg]; exact Nat.ne_of_lt (blk_lt (g := gb110) (o := .cells #[.int .i64 a2_0, .int .i64 a2_1] 26 (0, 0)) (by (with_reducible repeat (first | refine blk_drewN ?_ _ | refine blk_drew ?_ | refine blk_alloc ?_ _)); exact BK110.out)) : gb110 ≠ gb111)); have n9_ := Aside0.mk ((by rw [hg]; exact Nat.ne_of_gt (blk_lt (g := gb110) (o := .cells #[.int .i64 a2_0, .int .i64 a2_1] 26 (0, 0)) (by (with_reducible repeat (first | refine blk_drewN ?_ _ | refine blk_drew ?_ | refine blk_alloc ?_ _)); exact BK110.out)) : gb111 ≠ gb110)); clear BK109; clear BK110; clear HB; have BK109 := n0_; have BK110 := n1_; have HB := n2_; have BK111 := n3_; have GW111 := n4_; have GE111 := n5_; have NB109_111 := n6_; have NB111_109 := n7_; have NB110_111 := n8_; have NB111_110 := n9_; clear n0_ n1_ n2_ n3_ n4_ n5_ n6_ n7_ n8_ n9_; clear hb hbox hg) | ((with_reducible refine gate_dst (N := 7) rfl ?_); (try (refine gate_guard (by rfl) ?_; dsimp only)); refine box_event ?hg (N := 7) ?hd (cs := #[.int .i64 0, .int .i64 0, .string (⟨#[]⟩ : ByteArray)]) (t := 46) ?hr ?_; (case hd => rfl); (case hg => rfl); (case hr => first | (go_simp; done) | (go_simp; rfl)); intro gb112 hg w8 hbox hb; have n0_ := Aside0.mk (blk_below (g := gb109) (o := .cells #[.int .i64 a1_0, .int .i64 a1_1] 44 (0, 0)) (by (with_reducible repeat (first | refine blk_drewN ?_ _ | refine blk_drew ?_ | refine blk_alloc ?_ _)); exact BK109.out) hb); have n1_ := Aside0.mk (blk_below (g := gb110) (o := .cells #[.int .i64 a2_0, .int .i64 a2_1] 26 (0, 0)) (by (with_reducible repeat (first | refine blk_drewN ?_ _ | refine blk_drew ?_ | refine blk_alloc ?_ _)); exact BK110.out) hb); have n2_ := Aside0.mk (blk_below (g := gb111) (o := .cells #[.int .i64 0, .int .i64 0] 44 (0, 0)) (by (with_reducible repeat (first | refine blk_drewN ?_ _ | refine blk_drew ?_ | refine blk_alloc ?_ _)); exact BK111.out) hb); have n3_ := Aside0.mk (below_step (by repeat (first | (with_reducible first | exact HB.out | apply below_alloc | apply pw_below_drewN | apply below_drew1 | refine below_set ?_ GE109.out | refine below_set ?_ GE110.out | refine below_set ?_ GE111.out) | exact HB.out)) hb); have n4_ := Aside0.mk (hbox); have n5_ := Aside0.mk ((by rw [hg]; exact (below_size (by repeat (first | (with_reducible first | exact HB.out | apply below_alloc | apply pw_below_drewN | apply below_drew1 | refine below_set ?_ GE109.out | refine below_set ?_ GE110.out | refine below_set ?_ GE111.out) | exact HB.out))) : w.heap.size ≤ gb112)); have n6_ := Aside0.mk ((by rw [hg]; exact (below_size (by repeat (first | (with_reducible first | exact HB.out | apply below_alloc | apply pw_below_drewN | apply below_drew1 | refine below_set ?_ GE109.out | refine below_set ?_ GE110.out | refine below_set ?_ GE111.out) | exact HB.out))) : w.heap.size ≤ gb112)); have n7_ := Aside0.mk ((by rw [hg]; exact Nat.ne_of_lt (blk_lt (g := gb109) (o := .cells #[.int .i64 a1_0, .int .i64 a1_1] 44 (0, 0)) (by (with_reducible repeat (first | refine blk_drewN ?_ _ | refine blk_drew ?_ | refine blk_alloc ?_ _)); exact BK109.out)) : gb109 ≠ gb112)); have n8_ := Aside0.mk ((by rw [hg]; exact Nat.ne_of_gt (blk_lt (g := gb109) (o := .cells #[.int .i64 a1_0, .int .i64 a1_1] 44 (0, 0)) (by (with_reducible repeat (first | refine blk_drewN ?_ _ | refine blk_drew ?_ | refine blk_alloc ?_ _)); exact BK109.out)) : gb112 ≠ gb109)); have n9_ := Aside0.mk ((by rw [hg]; exact Nat.ne_of_lt (blk_lt (g := gb110) (o := .cells #[.int .i64 a2_0, .int .i64 a2_1] 26 (0, 0)) (by (with_reducible repeat (first | refine blk_drewN ?_ _ | refine blk_drew ?_ | refine blk_alloc ?_ _)); exact BK110.out)) : gb110 ≠ gb112)); have n10_ := Aside0.mk ((by rw [hg]; exact Nat.ne_of_gt (blk_lt (g := gb110) (o := .cells #[.int .i64 a2_0, .int .i64 a2_1] 26 (0, 0)) (by (with_reducible repeat (first | refine blk_drewN ?_ _ | refine blk_drew ?_ | refine blk_alloc ?_ _)); exact BK110.out)) : gb112 ≠ gb110)); have n11_ := Aside0.mk ((by rw [hg]; exact Nat.ne_of_lt (blk_lt (g := gb111) (o := .cells #[.int .i64 0, .int .i64 0] 44 (0, 0)) (by (with_reducible repeat (first | refine blk_drewN ?_ _ | refine blk_drew ?_ | refine blk_alloc ?_ _)); exact BK111.out)) : gb111 ≠ gb112)); have n12_ := Aside0.mk ((by rw [hg]; exact Nat.ne_of_gt (blk_lt (g := gb111) (o := .cells #[.int .i64 0, .int .i64 0] 44 (0, 0)) (by (with_reducible repeat (first | refine blk_drewN ?_ _ | refine blk_drew ?_ | refine blk_alloc ?_ _)); exact BK111.out)) : gb112 ≠ gb111)); clear BK109; clear BK110; clear BK111; clear HB; have BK109 := n0_; have BK110 := n1_; have BK111 := n2_; have HB := n3_; have BK112 := n4_; have GW112 := n5_; have GE112 := n6_; have NB109_112 := n7_; have NB112_109 := n8_; have NB110_112 := n9_; have NB112_110 := n10_; have NB111_112 := n11_; have NB112_111 := n12_; clear n0_ n1_ n2_ n3_ n4_ n5_ n6_ n7_ n8_ n9_ n10_ n11_ n12_; clear hb hbox hg) | ((with_reducible refine gate_dst (N := 9) rfl ?_); (try (refine gate_guard (by rfl) ?_; dsimp only)); refine box_event ?hg (N := 9) ?hd (cs := #[.int .i64 0, .int .i64 0, .string (⟨#[]⟩ : ByteArray)]) (t := 46) ?hr ?_; (case hd => rfl); (case hg => rfl); (case hr => first | (go_simp; done) | (go_simp; rfl)); intro gb113 hg w9 hbox hb; have n0_ := Aside0.mk (blk_below (g := gb109) (o := .cells #[.int .i64 a1_0, .int .i64 a1_1] 44 (0, 0)) (by (with_reducible repeat (first | refine blk_drewN ?_ _ | refine blk_drew ?_ | refine blk_alloc ?_ _)); exact BK109.out) hb); have n1_ := Aside0.mk (blk_below (g := gb110) (o := .cells #[.int .i64 a2_0, .int .i64 a2_1] 26 (0, 0)) (by (with_reducible repeat (first | refine blk_drewN ?_ _ | refine blk_drew ?_ | refine blk_alloc ?_ _)); exact BK110.out) hb); have n2_ := Aside0.mk (blk_below (g := gb111) (o := .cells #[.int .i64 0, .int .i64 0] 44 (0, 0)) (by (with_reducible repeat (first | refine blk_drewN ?_ _ | refine blk_drew ?_ | refine blk_alloc ?_ _)); exact BK111.out) hb); have n3_ := Aside0.mk (blk_below (g := gb112) (o := .cells #[.int .i64 0, .int .i64 0, .string (⟨#[]⟩ : ByteArray)] 46 (0, 0)) (by (with_reducible repeat (first | refine blk_drewN ?_ _ | refine blk_drew ?_ | refine blk_alloc ?_ _)); exact BK112.out) hb); have n4_ := Aside0.mk (below_step (by repeat (first | (with_reducible first | exact HB.out | apply below_alloc | apply pw_below_drewN | apply below_drew1 | refine below_set ?_ GE109.out | refine below_set ?_ GE110.out | refine below_set ?_ GE111.out | refine below_set ?_ GE112.out) | exact HB.out)) hb); have n5_ := Aside0.mk (hbox); have n6_ := Aside0.mk ((by rw [hg]; exact (below_size (by repeat (first | (with_reducible first | exact HB.out | apply below_alloc | apply pw_below_drewN | apply below_drew1 | refine below_set ?_ GE109.out | refine below_set ?_ GE110.out | refine below_set ?_ GE111.out | refine below_set ?_ GE112.out) | exact HB.out))) : w.heap.size ≤ gb113)); have n7_ := Aside0.mk ((by rw [hg]; exact (below_size (by repeat (first | (with_reducible first | exact HB.out | apply below_alloc | apply pw_below_drewN | apply below_drew1 | refine below_set ?_ GE109.out | refine below_set ?_ GE110.out | refine below_set ?_ GE111.out | refine below_set ?_ GE112.out) | exact HB.out))) : w.heap.size ≤ gb113)); have n8_ := Aside0.mk ((by rw [hg]; exact Nat.ne_of_lt (blk_lt (g := gb109) (o := .cells #[.int .i64 a1_0, .int .i64 a1_1] 44 (0, 0)) (by (with_reducible repeat (first | refine blk_drewN ?_ _ | refine blk_drew ?_ | refine blk_alloc ?_ _)); exact BK109.out)) : gb109 ≠ gb113)); have n9_ := Aside0.mk ((by rw [hg]; exact Nat.ne_of_gt (blk_lt (g := gb109) (o := .cells #[.int .i64 a1_0, .int .i64 a1_1] 44 (0, 0)) (by (with_reducible repeat (first | refine blk_drewN ?_ _ | refine blk_drew ?_ | refine blk_alloc ?_ _)); exact BK109.out)) : gb113 ≠ gb109)); have n10_ := Aside0.mk ((by rw [hg]; exact Nat.ne_of_lt (blk_lt (g := gb110) (o := .cells #[.int .i64 a2_0, .int .i64 a2_1] 26 (0, 0)) (by (with_reducible repeat (first | refine blk_drewN ?_ _ | refine blk_drew ?_ | refine blk_alloc ?_ _)); exact BK110.out)) : gb110 ≠ gb113)); have n11_ := Aside0.mk ((by rw [hg]; exact Nat.ne_of_gt (blk_lt (g := gb110) (o := .cells #[.int .i64 a2_0, .int .i64 a2_1] 26 (0, 0)) (by (with_reducible repeat (first | refine blk_drewN ?_ _ | refine blk_drew ?_ | refine blk_alloc ?_ _)); exact BK110.out)) : gb113 ≠ gb110)); have n12_ := Aside0.mk ((by rw [hg]; exact Nat.ne_of_lt (blk_lt (g := gb111) (o := .cells #[.int .i64 0, .int .i64 0] 44 (0, 0)) (by (with_reducible repeat (first | refine blk_drewN ?_ _ | refine blk_drew ?_ | refine blk_alloc ?_ _)); exact BK111.out)) : gb111 ≠ gb113)); have n13_ := Aside0.mk ((by rw [hg]; exact Nat.ne_of_gt (blk_lt (g := gb111) (o := .cells #[.int .i64 0, .int .i64 0] 44 (0, 0)) (by (with_reducible repeat (first | refine blk_drewN ?_ _ | refine blk_drew ?_ | refine blk_alloc ?_ _)); exact BK111.out)) : gb113 ≠ gb111)); have n14_ := Aside0.mk ((by rw [hg]; exact Nat.ne_of_lt (blk_lt (g := gb112) (o := .cells #[.int .i64 0, .int .i64 0, .string (⟨#[]⟩ : ByteArray)] 46 (0, 0)) (by (with_reducible repeat (first | refine blk_drewN ?_ _ | refine blk_drew ?_ | refine blk_alloc ?_ _)); exact BK112.out)) : gb112 ≠ gb113)); have n15_ := Aside0.mk ((by rw [hg]; exact Nat.ne_of_gt (blk_lt (g := gb112) (o := .cells #[.int .i64 0, .int .i64 0, .string (⟨#[]⟩ : ByteArray)] 46 (0, 0)) (by (with_reducible repeat (first | refine blk_drewN ?_ _ | refine blk_drew ?_ | refine blk_alloc ?_ _)); exact BK112.out)) : gb113 ≠ gb112)); clear BK109; clear BK110; clear BK111; clear BK112; clear HB; have BK109 := n0_; have BK110 := n1_; have BK111 := n2_; have BK112 := n3_; have HB := n4_; have BK113 := n5_; have GW113 := n6_; have GE113 := n7_; have NB109_113 := n8_; have NB113_109 := n9_; have NB110_113 := n10_; have NB113_110 := n11_; have NB111_113 := n12_; have NB113_111 := n13_; have NB112_113 := n14_; have NB113_112 := n15_; clear n0_ n1_ n2_ n3_ n4_ n5_ n6_ n7_ n8_ n9_ n10_ n11_ n12_ n13_ n14_ n15_; clear hb hbox hg; have hnb10 := NB113_109.out; have hnc10 := NB109_113.out; have hnb11 := NB113_110.out; have hnc11 := NB110_113.out; have hnb12 := NB113_111.out; have hnc12 := NB111_113.out; have hnb13 := NB113_112.out; have hnc13 := NB112_113.out; have hcz14_0 : w9.cell? ⟨gb113, 0, none⟩ = some (.int .i64 0) := (blk_cell BK113.out 0).trans rfl; have hcz14_1 : w9.cell? ⟨gb113, 1, none⟩ = some (.int .i64 0) := (blk_cell BK113.out 1).trans rfl; have hcz14_2 : w9.cell? ⟨gb113, 2, none⟩ = some (.string (⟨#[]⟩ : ByteArray)) := (blk_cell BK113.out 2).trans rfl; have hfz14_0 := blk_frozen BK113.out 0; have hfz14_1 := blk_frozen BK113.out 1; have hfz14_2 := blk_frozen BK113.out 2; have hnb15 := NB109_110.out; have hnc15 := NB110_109.out; have hnb16 := NB109_111.out; have hnc16 := NB111_109.out; have hnb17 := NB109_112.out; have hnc17 := NB112_109.out; have hcz18_0 : w9.cell? ⟨gb109, 0, none⟩ = some (.int .i64 a1_0) := (blk_cell BK109.out 0).trans rfl; have hcz18_1 : w9.cell? ⟨gb109, 1, none⟩ = some (.int .i64 a1_1) := (blk_cell BK109.out 1).trans rfl; have hfz18_0 := blk_frozen BK109.out 0; have hfz18_1 := blk_frozen BK109.out 1; have hnb19 := NB110_111.out; have hnc19 := NB111_110.out; have hnb20 := NB110_112.out; have hnc20 := NB112_110.out; have hcz21_0 : w9.cell? ⟨gb110, 0, none⟩ = some (.int .i64 a2_0) := (blk_cell BK110.out 0).trans rfl; have hcz21_1 : w9.cell? ⟨gb110, 1, none⟩ = some (.int .i64 a2_1) := (blk_cell BK110.out 1).trans rfl; have hfz21_0 := blk_frozen BK110.out 0; have hfz21_1 := blk_frozen BK110.out 1))
  (try simp only [Act.put, List.setIfInBounds_toArray, List.set_cons_zero, List.set_cons_succ])
  go_cut [11] (fun v11 wc => ∃ (kq : Nat) (x11_3 : Bool), v11 = .bool x11_3 ∧ Aside0 (spec_Next.j0 kq l0 (wrap64 (a1_1 + a2_1)) x11_3 a1_0 a1_1 a2_0 a2_1 0 0 (⟨#[]⟩ : ByteArray) = some (r1, r2, r3, r4, r5, r6)) ∧ Aside0 (kq ≤ k) ∧ Aside0 (wc.heap[gb109]? = some (.cells #[.int .i64 a1_0, .int .i64 a1_1] 44 (0, 0))) ∧ Aside0 (wc.heap[gb110]? = some (.cells #[.int .i64 a2_0, .int .i64 a2_1] 26 (0, 0))) ∧ Aside0 (wc.heap[gb111]? = some (.cells #[.int .i64 0, .int .i64 0] 44 (0, 0))) ∧ Aside0 (wc.heap[gb112]? = some (.cells #[.int .i64 0, .int .i64 0, .string (⟨#[]⟩ : ByteArray)] 46 (0, 0))) ∧ Aside0 (wc.heap[gb113]? = some (.cells #[.int .i64 0, .int .i64 0, .string (⟨#[]⟩ : ByteArray)] 46 (0, 0))) ∧ Aside0 (Below w.heap.size w wc))
  case first =>
    have H := HC4.out
    clear HC4
    by_cases c22 : a2_1 ≥ (wrap64 (-(l0.length : Int)))
    · rw [if_pos c22] at H
      have c22b0 : decide ((wrap64 (-(l0.length : Int))) ≤ a2_1) = true := decide_eq_true c22
      clear c22
      (first | rw [c22b0] | (simp only [i64_w, i32_w]; rw [c22b0]) | skip)
      by_cases c23 : a2_1 ≤ (l0.length : Int)
      · rw [if_pos c23] at H
        have c23b0 : decide (a2_1 ≤ (l0.length : Int)) = true := decide_eq_true c23
        clear c23
        by_cases c24 : (wrap64 (a1_1 + a2_1)) ≥ a1_0
        · rw [if_pos c24] at H
          have c24b0 : decide (a1_0 ≤ (wrap64 (a1_1 + a2_1))) = true := decide_eq_true c24
          clear c24
          have H' := Aside0.mk H
          clear H
          have hnb25 := NB110_109.out
          have hnc25 := NB109_110.out
          have hnb26 := NB110_111.out
          have hnc26 := NB111_110.out
          have hnb27 := NB110_112.out
          have hnc27 := NB112_110.out
          have hnb28 := NB110_113.out
          have hnc28 := NB113_110.out
          have hcz29_0 : w9.cell? ⟨gb110, 0, none⟩ = some (.int .i64 a2_0) := (blk_cell BK110.out 0).trans rfl
          have hcz29_1 : w9.cell? ⟨gb110, 1, none⟩ = some (.int .i64 a2_1) := (blk_cell BK110.out 1).trans rfl
          have hfz29_0 := blk_frozen BK110.out 0
          have hfz29_1 := blk_frozen BK110.out 1
          have hnb30 := NB109_111.out
          have hnc30 := NB111_109.out
          have hnb31 := NB109_112.out
          have hnc31 := NB112_109.out
          have hnb32 := NB109_113.out
          have hnc32 := NB113_109.out
          have hcz33_0 : w9.cell? ⟨gb109, 0, none⟩ = some (.int .i64 a1_0) := (blk_cell BK109.out 0).trans rfl
          have hcz33_1 : w9.cell? ⟨gb109, 1, none⟩ = some (.int .i64 a1_1) := (blk_cell BK109.out 1).trans rfl
          have hfz33_0 := blk_frozen BK109.out 0
          have hfz33_1 := blk_frozen BK109.out 1
          go_wp2
          go_meet
          case rel => exact ⟨_, (decide ((wrap64 (a1_1 + a2_1)) ≤ (l0.length : Int))), (by first | rfl | (simp; done) | (simp [*]; done)), H', ⟨by first | omega | exact Nat.le_refl _⟩, ⟨by (with_reducible repeat (first | refine blk_drewN ?_ _ | refine blk_drew ?_ | refine blk_alloc ?_ _)); refine blk_far ?_ NB109_113.out _; (with_reducible repeat (first | refine blk_drewN ?_ _ | refine blk_drew ?_ | refine blk_alloc ?_ _)); refine blk_far ?_ NB109_113.out _; (with_reducible repeat (first | refine blk_drewN ?_ _ | refine blk_drew ?_ | refine blk_alloc ?_ _)); refine blk_far ?_ NB109_113.out _; (with_reducible repeat (first | refine blk_drewN ?_ _ | refine blk_drew ?_ | refine blk_alloc ?_ _)); exact BK109.out⟩, ⟨by (with_reducible repeat (first | refine blk_drewN ?_ _ | refine blk_drew ?_ | refine blk_alloc ?_ _)); refine blk_far ?_ NB110_113.out _; (with_reducible repeat (first | refine blk_drewN ?_ _ | refine blk_drew ?_ | refine blk_alloc ?_ _)); refine blk_far ?_ NB110_113.out _; (with_reducible repeat (first | refine blk_drewN ?_ _ | refine blk_drew ?_ | refine blk_alloc ?_ _)); refine blk_far ?_ NB110_113.out _; (with_reducible repeat (first | refine blk_drewN ?_ _ | refine blk_drew ?_ | refine blk_alloc ?_ _)); exact BK110.out⟩, ⟨by (with_reducible repeat (first | refine blk_drewN ?_ _ | refine blk_drew ?_ | refine blk_alloc ?_ _)); refine blk_far ?_ NB111_113.out _; (with_reducible repeat (first | refine blk_drewN ?_ _ | refine blk_drew ?_ | refine blk_alloc ?_ _)); refine blk_far ?_ NB111_113.out _; (with_reducible repeat (first | refine blk_drewN ?_ _ | refine blk_drew ?_ | refine blk_alloc ?_ _)); refine blk_far ?_ NB111_113.out _; (with_reducible repeat (first | refine blk_drewN ?_ _ | refine blk_drew ?_ | refine blk_alloc ?_ _)); exact BK111.out⟩, ⟨by (with_reducible repeat (first | refine blk_drewN ?_ _ | refine blk_drew ?_ | refine blk_alloc ?_ _)); refine blk_far ?_ NB112_113.out _; (with_reducible repeat (first | refine blk_drewN ?_ _ | refine blk_drew ?_ | refine blk_alloc ?_ _)); refine blk_far ?_ NB112_113.out _; (with_reducible repeat (first | refine blk_drewN ?_ _ | refine blk_drew ?_ | refine blk_alloc ?_ _)); refine blk_far ?_ NB112_113.out _; (with_reducible repeat (first | refine blk_drewN ?_ _ | refine blk_drew ?_ | refine blk_alloc ?_ _)); exact BK112.out⟩, ⟨by (with_reducible repeat (first | refine blk_drewN ?_ _ | refine blk_drew ?_ | refine blk_alloc ?_ _)); refine blk_put (cs := #[.int .i64 0, .int .i64 0, .string (⟨#[]⟩ : ByteArray)]) ?_ 2 _ rfl; (with_reducible repeat (first | refine blk_drewN ?_ _ | refine blk_drew ?_ | refine blk_alloc ?_ _)); refine blk_put (cs := #[.int .i64 0, .int .i64 0, .string (⟨#[]⟩ : ByteArray)]) ?_ 1 _ rfl; (with_reducible repeat (first | refine blk_drewN ?_ _ | refine blk_drew ?_ | refine blk_alloc ?_ _)); refine blk_put (cs := #[.int .i64 0, .int .i64 0, .string (⟨#[]⟩ : ByteArray)]) ?_ 0 _ rfl; (with_reducible repeat (first | refine blk_drewN ?_ _ | refine blk_drew ?_ | refine blk_alloc ?_ _)); exact BK113.out⟩, ⟨by repeat (first | (with_reducible first | exact HB.out | apply below_alloc | apply pw_below_drewN | apply below_drew1 | refine below_set ?_ GE109.out | refine below_set ?_ GE110.out | refine below_set ?_ GE111.out | refine below_set ?_ GE112.out | refine below_set ?_ GE113.out) | exact HB.out)⟩⟩
        · rw [if_neg c24] at H
          have c24b0 : decide (a1_0 ≤ (wrap64 (a1_1 + a2_1))) = false := decide_eq_false c24
          clear c24
          have H' := Aside0.mk H
          clear H
          have hnb34 := NB110_109.out
          have hnc34 := NB109_110.out
          have hnb35 := NB110_111.out
          have hnc35 := NB111_110.out
          have hnb36 := NB110_112.out
          have hnc36 := NB112_110.out
          have hnb37 := NB110_113.out
          have hnc37 := NB113_110.out
          have hcz38_0 : w9.cell? ⟨gb110, 0, none⟩ = some (.int .i64 a2_0) := (blk_cell BK110.out 0).trans rfl
          have hcz38_1 : w9.cell? ⟨gb110, 1, none⟩ = some (.int .i64 a2_1) := (blk_cell BK110.out 1).trans rfl
          have hfz38_0 := blk_frozen BK110.out 0
          have hfz38_1 := blk_frozen BK110.out 1
          have hnb39 := NB109_111.out
          have hnc39 := NB111_109.out
          have hnb40 := NB109_112.out
          have hnc40 := NB112_109.out
          have hnb41 := NB109_113.out
          have hnc41 := NB113_109.out
          have hcz42_0 : w9.cell? ⟨gb109, 0, none⟩ = some (.int .i64 a1_0) := (blk_cell BK109.out 0).trans rfl
          have hcz42_1 : w9.cell? ⟨gb109, 1, none⟩ = some (.int .i64 a1_1) := (blk_cell BK109.out 1).trans rfl
          have hfz42_0 := blk_frozen BK109.out 0
          have hfz42_1 := blk_frozen BK109.out 1
          go_wp2
          go_meet
          case rel => exact ⟨_, (false), (by first | rfl | (simp; done) | (simp [*]; done)), H', ⟨by first | omega | exact Nat.le_refl _⟩, ⟨by (with_reducible repeat (first | refine blk_drewN ?_ _ | refine blk_drew ?_ | refine blk_alloc ?_ _)); refine blk_far ?_ NB109_113.out _; (with_reducible repeat (first | refine blk_drewN ?_ _ | refine blk_drew ?_ | refine blk_alloc ?_ _)); refine blk_far ?_ NB109_113.out _; (with_reducible repeat (first | refine blk_drewN ?_ _ | refine blk_drew ?_ | refine blk_alloc ?_ _)); refine blk_far ?_ NB109_113.out _; (with_reducible repeat (first | refine blk_drewN ?_ _ | refine blk_drew ?_ | refine blk_alloc ?_ _)); exact BK109.out⟩, ⟨by (with_reducible repeat (first | refine blk_drewN ?_ _ | refine blk_drew ?_ | refine blk_alloc ?_ _)); refine blk_far ?_ NB110_113.out _; (with_reducible repeat (first | refine blk_drewN ?_ _ | refine blk_drew ?_ | refine blk_alloc ?_ _)); refine blk_far ?_ NB110_113.out _; (with_reducible repeat (first | refine blk_drewN ?_ _ | refine blk_drew ?_ | refine blk_alloc ?_ _)); refine blk_far ?_ NB110_113.out _; (with_reducible repeat (first | refine blk_drewN ?_ _ | refine blk_drew ?_ | refine blk_alloc ?_ _)); exact BK110.out⟩, ⟨by (with_reducible repeat (first | refine blk_drewN ?_ _ | refine blk_drew ?_ | refine blk_alloc ?_ _)); refine blk_far ?_ NB111_113.out _; (with_reducible repeat (first | refine blk_drewN ?_ _ | refine blk_drew ?_ | refine blk_alloc ?_ _)); refine blk_far ?_ NB111_113.out _; (with_reducible repeat (first | refine blk_drewN ?_ _ | refine blk_drew ?_ | refine blk_alloc ?_ _)); refine blk_far ?_ NB111_113.out _; (with_reducible repeat (first | refine blk_drewN ?_ _ | refine blk_drew ?_ | refine blk_alloc ?_ _)); exact BK111.out⟩, ⟨by (with_reducible repeat (first | refine blk_drewN ?_ _ | refine blk_drew ?_ | refine blk_alloc ?_ _)); refine blk_far ?_ NB112_113.out _; (with_reducible repeat (first | refine blk_drewN ?_ _ | refine blk_drew ?_ | refine blk_alloc ?_ _)); refine blk_far ?_ NB112_113.out _; (with_reducible repeat (first | refine blk_drewN ?_ _ | refine blk_drew ?_ | refine blk_alloc ?_ _)); refine blk_far ?_ NB112_113.out _; (with_reducible repeat (first | refine blk_drewN ?_ _ | refine blk_drew ?_ | refine blk_alloc ?_ _)); exact BK112.out⟩, ⟨by (with_reducible repeat (first | refine blk_drewN ?_ _ | refine blk_drew ?_ | refine blk_alloc ?_ _)); refine blk_put (cs := #[.int .i64 0, .int .i64 0, .string (⟨#[]⟩ : ByteArray)]) ?_ 2 _ rfl; (with_reducible repeat (first | refine blk_drewN ?_ _ | refine blk_drew ?_ | refine blk_alloc ?_ _)); refine blk_put (cs := #[.int .i64 0, .int .i64 0, .string (⟨#[]⟩ : ByteArray)]) ?_ 1 _ rfl; (with_reducible repeat (first | refine blk_drewN ?_ _ | refine blk_drew ?_ | refine blk_alloc ?_ _)); refine blk_put (cs := #[.int .i64 0, .int .i64 0, .string (⟨#[]⟩ : ByteArray)]) ?_ 0 _ rfl; (with_reducible repeat (first | refine blk_drewN ?_ _ | refine blk_drew ?_ | refine blk_alloc ?_ _)); exact BK113.out⟩, ⟨by repeat (first | (with_reducible first | exact HB.out | apply below_alloc | apply pw_below_drewN | apply below_drew1 | refine below_set ?_ GE109.out | refine below_set ?_ GE110.out | refine below_set ?_ GE111.out | refine below_set ?_ GE112.out | refine below_set ?_ GE113.out) | exact HB.out)⟩⟩
      · rw [if_neg c23] at H
        have c23b0 : decide (a2_1 ≤ (l0.length : Int)) = false := decide_eq_false c23
        clear c23
        have H' := Aside0.mk H
        clear H
        have hnb43 := NB110_109.out
        have hnc43 := NB109_110.out
        have hnb44 := NB110_111.out
        have hnc44 := NB111_110.out
        have hnb45 := NB110_112.out
        have hnc45 := NB112_110.out
        have hnb46 := NB110_113.out
        have hnc46 := NB113_110.out
        have hcz47_0 : w9.cell? ⟨gb110, 0, none⟩ = some (.int .i64 a2_0) := (blk_cell BK110.out 0).trans rfl
        have hcz47_1 : w9.cell? ⟨gb110, 1, none⟩ = some (.int .i64 a2_1) := (blk_cell BK110.out 1).trans rfl
        have hfz47_0 := blk_frozen BK110.out 0
        have hfz47_1 := blk_frozen BK110.out 1
        go_wp2
        go_meet
        case rel => exact ⟨_, (false), (by first | rfl | (simp; done) | (simp [*]; done)), H', ⟨by first | omega | exact Nat.le_refl _⟩, ⟨by (with_reducible repeat (first | refine blk_drewN ?_ _ | refine blk_drew ?_ | refine blk_alloc ?_ _)); refine blk_far ?_ NB109_113.out _; (with_reducible repeat (first | refine blk_drewN ?_ _ | refine blk_drew ?_ | refine blk_alloc ?_ _)); refine blk_far ?_ NB109_113.out _; (with_reducible repeat (first | refine blk_drewN ?_ _ | refine blk_drew ?_ | refine blk_alloc ?_ _)); refine blk_far ?_ NB109_113.out _; (with_reducible repeat (first | refine blk_drewN ?_ _ | refine blk_drew ?_ | refine blk_alloc ?_ _)); exact BK109.out⟩, ⟨by (with_reducible repeat (first | refine blk_drewN ?_ _ | refine blk_drew ?_ | refine blk_alloc ?_ _)); refine blk_far ?_ NB110_113.out _; (with_reducible repeat (first | refine blk_drewN ?_ _ | refine blk_drew ?_ | refine blk_alloc ?_ _)); refine blk_far ?_ NB110_113.out _; (with_reducible repeat (first | refine blk_drewN ?_ _ | refine blk_drew ?_ | refine blk_alloc ?_ _)); refine blk_far ?_ NB110_113.out _; (with_reducible repeat (first | refine blk_drewN ?_ _ | refine blk_drew ?_ | refine blk_alloc ?_ _)); exact BK110.out⟩, ⟨by (with_reducible repeat (first | refine blk_drewN ?_ _ | refine blk_drew ?_ | refine blk_alloc ?_ _)); refine blk_far ?_ NB111_113.out _; (with_reducible repeat (first | refine blk_drewN ?_ _ | refine blk_drew ?_ | refine blk_alloc ?_ _)); refine blk_far ?_ NB111_113.out _; (with_reducible repeat (first | refine blk_drewN ?_ _ | refine blk_drew ?_ | refine blk_alloc ?_ _)); refine blk_far ?_ NB111_113.out _; (with_reducible repeat (first | refine blk_drewN ?_ _ | refine blk_drew ?_ | refine blk_alloc ?_ _)); exact BK111.out⟩, ⟨by (with_reducible repeat (first | refine blk_drewN ?_ _ | refine blk_drew ?_ | refine blk_alloc ?_ _)); refine blk_far ?_ NB112_113.out _; (with_reducible repeat (first | refine blk_drewN ?_ _ | refine blk_drew ?_ | refine blk_alloc ?_ _)); refine blk_far ?_ NB112_113.out _; (with_reducible repeat (first | refine blk_drewN ?_ _ | refine blk_drew ?_ | refine blk_alloc ?_ _)); refine blk_far ?_ NB112_113.out _; (with_reducible repeat (first | refine blk_drewN ?_ _ | refine blk_drew ?_ | refine blk_alloc ?_ _)); exact BK112.out⟩, ⟨by (with_reducible repeat (first | refine blk_drewN ?_ _ | refine blk_drew ?_ | refine blk_alloc ?_ _)); refine blk_put (cs := #[.int .i64 0, .int .i64 0, .string (⟨#[]⟩ : ByteArray)]) ?_ 2 _ rfl; (with_reducible repeat (first | refine blk_drewN ?_ _ | refine blk_drew ?_ | refine blk_alloc ?_ _)); refine blk_put (cs := #[.int .i64 0, .int .i64 0, .string (⟨#[]⟩ : ByteArray)]) ?_ 1 _ rfl; (with_reducible repeat (first | refine blk_drewN ?_ _ | refine blk_drew ?_ | refine blk_alloc ?_ _)); refine blk_put (cs := #[.int .i64 0, .int .i64 0, .string (⟨#[]⟩ : ByteArray)]) ?_ 0 _ rfl; (with_reducible repeat (first | refine blk_drewN ?_ _ | refine blk_drew ?_ | refine blk_alloc ?_ _)); exact BK113.out⟩, ⟨by repeat (first | (with_reducible first | exact HB.out | apply below_alloc | apply pw_below_drewN | apply below_drew1 | refine below_set ?_ GE109.out | refine below_set ?_ GE110.out | refine below_set ?_ GE111.out | refine below_set ?_ GE112.out | refine below_set ?_ GE113.out) | exact HB.out)⟩⟩
    · rw [if_neg c22] at H
      have c22b0 : decide ((wrap64 (-(l0.length : Int))) ≤ a2_1) = false := decide_eq_false c22
      clear c22
      (first | rw [c22b0] | (simp only [i64_w, i32_w]; rw [c22b0]) | skip)
      have H' := Aside0.mk H
      clear H
      have hnb48 := NB110_109.out
      have hnc48 := NB109_110.out
      have hnb49 := NB110_111.out
      have hnc49 := NB111_110.out
      have hnb50 := NB110_112.out
      have hnc50 := NB112_110.out
      have hnb51 := NB110_113.out
      have hnc51 := NB113_110.out
      have hcz52_0 : w9.cell? ⟨gb110, 0, none⟩ = some (.int .i64 a2_0) := (blk_cell BK110.out 0).trans rfl
      have hcz52_1 : w9.cell? ⟨gb110, 1, none⟩ = some (.int .i64 a2_1) := (blk_cell BK110.out 1).trans rfl
      have hfz52_0 := blk_frozen BK110.out 0
      have hfz52_1 := blk_frozen BK110.out 1
      go_wp2
      go_meet
      case rel => exact ⟨_, (false), (by first | rfl | (simp; done) | (simp [*]; done)), H', ⟨by first | omega | exact Nat.le_refl _⟩, ⟨by (with_reducible repeat (first | refine blk_drewN ?_ _ | refine blk_drew ?_ | refine blk_alloc ?_ _)); refine blk_far ?_ NB109_113.out _; (with_reducible repeat (first | refine blk_drewN ?_ _ | refine blk_drew ?_ | refine blk_alloc ?_ _)); refine blk_far ?_ NB109_113.out _; (with_reducible repeat (first | refine blk_drewN ?_ _ | refine blk_drew ?_ | refine blk_alloc ?_ _)); refine blk_far ?_ NB109_113.out _; (with_reducible repeat (first | refine blk_drewN ?_ _ | refine blk_drew ?_ | refine blk_alloc ?_ _)); exact BK109.out⟩, ⟨by (with_reducible repeat (first | refine blk_drewN ?_ _ | refine blk_drew ?_ | refine blk_alloc ?_ _)); refine blk_far ?_ NB110_113.out _; (with_reducible repeat (first | refine blk_drewN ?_ _ | refine blk_drew ?_ | refine blk_alloc ?_ _)); refine blk_far ?_ NB110_113.out _; (with_reducible repeat (first | refine blk_drewN ?_ _ | refine blk_drew ?_ | refine blk_alloc ?_ _)); refine blk_far ?_ NB110_113.out _; (with_reducible repeat (first | refine blk_drewN ?_ _ | refine blk_drew ?_ | refine blk_alloc ?_ _)); exact BK110.out⟩, ⟨by (with_reducible repeat (first | refine blk_drewN ?_ _ | refine blk_drew ?_ | refine blk_alloc ?_ _)); refine blk_far ?_ NB111_113.out _; (with_reducible repeat (first | refine blk_drewN ?_ _ | refine blk_drew ?_ | refine blk_alloc ?_ _)); refine blk_far ?_ NB111_113.out _; (with_reducible repeat (first | refine blk_drewN ?_ _ | refine blk_drew ?_ | refine blk_alloc ?_ _)); refine blk_far ?_ NB111_113.out _; (with_reducible repeat (first | refine blk_drewN ?_ _ | refine blk_drew ?_ | refine blk_alloc ?_ _)); exact BK111.out⟩, ⟨by (with_reducible repeat (first | refine blk_drewN ?_ _ | refine blk_drew ?_ | refine blk_alloc ?_ _)); refine blk_far ?_ NB112_113.out _; (with_reducible repeat (first | refine blk_drewN ?_ _ | refine blk_drew ?_ | refine blk_alloc ?_ _)); refine blk_far ?_ NB112_113.out _; (with_reducible repeat (first | refine blk_drewN ?_ _ | refine blk_drew ?_ | refine blk_alloc ?_ _)); refine blk_far ?_ NB112_113.out _; (with_reducible repeat (first | refine blk_drewN ?_ _ | refine blk_drew ?_ | refine blk_alloc ?_ _)); exact BK112.out⟩, ⟨by (with_reducible repeat (first | refine blk_drewN ?_ _ | refine blk_drew ?_ | refine blk_alloc ?_ _)); refine blk_put (cs := #[.int .i64 0, .int .i64 0, .string (⟨#[]⟩ : ByteArray)]) ?_ 2 _ rfl; (with_reducible repeat (first | refine blk_drewN ?_ _ | refine blk_drew ?_ | refine blk_alloc ?_ _)); refine blk_put (cs := #[.int .i64 0, .int .i64 0, .string (⟨#[]⟩ : ByteArray)]) ?_ 1 _ rfl; (with_reducible repeat (first | refine blk_drewN ?_ _ | refine blk_drew ?_ | refine blk_alloc ?_ _)); refine blk_put (cs := #[.int .i64 0, .int .i64 0, .string (⟨#[]⟩ : ByteArray)]) ?_ 0 _ rfl; (with_reducible repeat (first | refine blk_drewN ?_ _ | refine blk_drew ?_ | refine blk_alloc ?_ _)); exact BK113.out⟩, ⟨by repeat (first | (with_reducible first | exact HB.out | apply below_alloc | apply pw_below_drewN | apply below_drew1 | refine below_set ?_ GE109.out | refine below_set ?_ GE110.out | refine below_set ?_ GE111.out | refine below_set ?_ GE112.out | refine below_set ?_ GE113.out) | exact HB.out)⟩⟩
  case rest =>
    clear HC4
    try clear c1
    try clear c2
    try clear p2
    try clear c3
    try clear c4
    try clear c5
    try clear p6
    try clear c10
    try clear c11
    try clear c12
    try clear c13
    try clear c15
    try clear c16
    try clear c17
    try clear c19
    try clear c20
    try clear c22
    try clear c22b0
    try clear c23
    try clear c23b0
    try clear c24
    try clear c24b0
    try clear c25
    try clear c26
    try clear c27
    try clear c28
    try clear c30
    try clear c31
    try clear c32
    try clear c34
    try clear c35
    try clear c36
    try clear c37
    try clear c39
    try clear c40
    try clear c41
    try clear c43
    try clear c44
    try clear c45
    try clear c46
    try clear c48
    try clear c49
    try clear c50
    try clear c51
    try clear hcz14_0
    try clear hcz14_1
    try clear hcz14_2
    try clear hcz18_0
    try clear hcz18_1
    try clear hcz21_0
    try clear hcz21_1
    try clear hcz29_0
    try clear hcz29_1
    try clear hcz33_0
    try clear hcz33_1
    try clear hcz38_0
    try clear hcz38_1
    try clear hcz42_0
    try clear hcz42_1
    try clear hcz47_0
    try clear hcz47_1
    try clear hcz52_0
    try clear hcz52_1
    try clear hfz14_0
    try clear hfz14_1
    try clear hfz14_2
    try clear hfz18_0
    try clear hfz18_1
    try clear hfz21_0
    try clear hfz21_1
    try clear hfz29_0
    try clear hfz29_1
    try clear hfz33_0
    try clear hfz33_1
    try clear hfz38_0
    try clear hfz38_1
    try clear hfz42_0
    try clear hfz42_1
    try clear hfz47_0
    try clear hfz47_1
    try clear hfz52_0
    try clear hfz52_1
    obtain ⟨kq, x11_3, rfl, HA, HJ3, BK109, BK110, BK111, BK112, BK113, HB⟩ := hcut
    cases kq with
    | zero => exact absurd HA.out (by simp [spec_Next.j0])
    | succ kj3 =>
      have H := HA.out
      clear HA
      simp only [spec_Next.j0] at H
      by_cases c53 : a2_0 = 0
      · exact absurd HGRP.out (by omega)
      · rw [if_neg c53] at H
        have c53b0 : (a2_0 == 0) = false := beq_eq_false_iff_ne.mpr c53
        have c53b1 : (a2_0 != 0) = true := bne_iff_ne.mpr c53
        by_cases c70 : a2_0 = 1
        · exact absurd HGRP.out (by omega)
        · rw [if_neg c70] at H
          have c70b0 : (a2_0 == 1) = false := beq_eq_false_iff_ne.mpr c70
          have c70b1 : (a2_0 != 1) = true := bne_iff_ne.mpr c70
          by_cases c104 : a2_0 = 2
          · exact absurd HGRP.out (by omega)
          · rw [if_neg c104] at H
            have c104b0 : (a2_0 == 2) = false := beq_eq_false_iff_ne.mpr c104
            have c104b1 : (a2_0 != 2) = true := bne_iff_ne.mpr c104
            by_cases c129 : a2_0 = 3
            · exact absurd HGRP.out (by omega)
            · rw [if_neg c129] at H
              have c129b0 : (a2_0 == 3) = false := beq_eq_false_iff_ne.mpr c129
              have c129b1 : (a2_0 != 3) = true := bne_iff_ne.mpr c129
              by_cases c146 : a2_0 = 4
              · rw [if_pos c146] at H
                have c146b0 : (a2_0 == 4) = true := beq_iff_eq.mpr c146
                have c146b1 : (a2_0 != 4) = false := bne_eq_false_iff_eq.mpr c146
                clear c146
                by_cases c147 : x11_3 = true
                · subst c147
                  have H1 : (if (wrap64 (a1_1 + a2_1)) < (l0.length : Int) then (if 0 ≤ (wrap64 (a1_1 + a2_1)) then (some (a1_0, a1_1, wrap64 (rd l0 (wrap64 (a1_1 + a2_1))), 0, (⟨#[]⟩ : ByteArray), true)) else (none)) else (some (a1_0, a1_1, 0, 0, (⟨#[]⟩ : ByteArray), true))) = some (r1, r2, r3, r4, r5, r6) := by rw [if_pos rfl] at H; exact H
                  clear H
                  have H := H1
                  clear H1
                  by_cases c148 : (wrap64 (a1_1 + a2_1)) < (l0.length : Int)
                  · rw [if_pos c148] at H
                    have c148b0 : decide ((wrap64 (a1_1 + a2_1)) < (l0.length : Int)) = true := decide_eq_true c148
                    clear c148
                    obtain ⟨ji149, hji149⟩ : ∃ j_ : Int, (wrap64 (a1_1 + a2_1)) = j_ := ⟨_, rfl⟩
                    replace H : (if 0 ≤ (ji149) then (some (a1_0, a1_1, wrap64 (rd l0 (ji149)), 0, (⟨#[]⟩ : ByteArray), true)) else (none)) = some (r1, r2, r3, r4, r5, r6) := by first | (rw [hji149] at H; exact H) | (simp only [hji149] at H ⊢; exact H)
                    (try rw [hji149] at c148b0)
                    have hji149w : (IntKind.i64.wrap (a1_1 + a2_1)) = ji149 := (i64_w _).trans hji149
                    by_cases c150 : 0 ≤ (ji149)
                    · rw [if_pos c150] at H
                      have c150b0 : decide (0 ≤ (ji149)) = true := decide_eq_true c150
                      clear c150
                      simp only [Option.some.injEq, Prod.mk.injEq] at H
                      obtain ⟨rfl, rfl, rfl, rfl, rfl, rfl⟩ := H
                      have hnb151 := NB110_109.out
                      have hnc151 := NB109_110.out
                      have hnb152 := NB110_111.out
                      have hnc152 := NB111_110.out
                      have hnb153 := NB110_112.out
                      have hnc153 := NB112_110.out
                      have hnb154 := NB110_113.out
                      have hnc154 := NB113_110.out
                      have hcz155_0 : wc.cell? ⟨gb110, 0, none⟩ = some (.int .i64 a2_0) := (blk_cell BK110.out 0).trans rfl
                      have hcz155_1 : wc.cell? ⟨gb110, 1, none⟩ = some (.int .i64 a2_1) := (blk_cell BK110.out 1).trans rfl
                      have hfz155_0 := blk_frozen BK110.out 0
                      have hfz155_1 := blk_frozen BK110.out 1
                      have p115 : 0 ≤ ((ji149) : Int) := of_decide_eq_true (by first | (with_reducible assumption) | assumption)
                      have q115 : (ji149) < (l0.length : Int) := of_decide_eq_true (by first | (with_reducible assumption) | assumption)
                      obtain ⟨ad115, e115, hx115_0⟩ := Kd.at_int HR0.out (ji149) p115 q115
                      cases e115
                      replace hx115_0 := (HB.out.cell (World.block_lt_of_cell? w _ hx115_0)).trans hx115_0
                      replace p115 := eq_true p115
                      replace q115 := eq_true q115
                      have hnb156 := NB113_109.out
                      have hnc156 := NB109_113.out
                      have hnb157 := NB113_111.out
                      have hnc157 := NB111_113.out
                      have hnb158 := NB113_112.out
                      have hnc158 := NB112_113.out
                      have hcz159_0 : wc.cell? ⟨gb113, 0, none⟩ = some (.int .i64 0) := (blk_cell BK113.out 0).trans rfl
                      have hcz159_1 : wc.cell? ⟨gb113, 1, none⟩ = some (.int .i64 0) := (blk_cell BK113.out 1).trans rfl
                      have hcz159_2 : wc.cell? ⟨gb113, 2, none⟩ = some (.string (⟨#[]⟩ : ByteArray)) := (blk_cell BK113.out 2).trans rfl
                      have hfz159_0 := blk_frozen BK113.out 0
                      have hfz159_1 := blk_frozen BK113.out 1
                      have hfz159_2 := blk_frozen BK113.out 2
                      try go_wp2
                      have n0_ : Aside0 ((wc.setCell ⟨gb113, 0, none⟩ (.int .i64 (wrap64 (rd l0 (ji149))))).heap[gb109]? = some (.cells #[.int .i64 a1_0, .int .i64 a1_1] 44 (0, 0))) := ⟨by (with_reducible repeat (first | refine blk_drewN ?_ _ | refine blk_drew ?_ | refine blk_alloc ?_ _)); refine blk_far ?_ NB109_113.out _; (with_reducible repeat (first | refine blk_drewN ?_ _ | refine blk_drew ?_ | refine blk_alloc ?_ _)); exact BK109.out⟩
                      have n1_ : Aside0 ((wc.setCell ⟨gb113, 0, none⟩ (.int .i64 (wrap64 (rd l0 (ji149))))).heap[gb110]? = some (.cells #[.int .i64 a2_0, .int .i64 a2_1] 26 (0, 0))) := ⟨by (with_reducible repeat (first | refine blk_drewN ?_ _ | refine blk_drew ?_ | refine blk_alloc ?_ _)); refine blk_far ?_ NB110_113.out _; (with_reducible repeat (first | refine blk_drewN ?_ _ | refine blk_drew ?_ | refine blk_alloc ?_ _)); exact BK110.out⟩
                      have n2_ : Aside0 ((wc.setCell ⟨gb113, 0, none⟩ (.int .i64 (wrap64 (rd l0 (ji149))))).heap[gb111]? = some (.cells #[.int .i64 0, .int .i64 0] 44 (0, 0))) := ⟨by (with_reducible repeat (first | refine blk_drewN ?_ _ | refine blk_drew ?_ | refine blk_alloc ?_ _)); refine blk_far ?_ NB111_113.out _; (with_reducible repeat (first | refine blk_drewN ?_ _ | refine blk_drew ?_ | refine blk_alloc ?_ _)); exact BK111.out⟩
                      have n3_ : Aside0 ((wc.setCell ⟨gb113, 0, none⟩ (.int .i64 (wrap64 (rd l0 (ji149))))).heap[gb112]? = some (.cells #[.int .i64 0, .int .i64 0, .string (⟨#[]⟩ : ByteArray)] 46 (0, 0))) := ⟨by (with_reducible repeat (first | refine blk_drewN ?_ _ | refine blk_drew ?_ | refine blk_alloc ?_ _)); refine blk_far ?_ NB112_113.out _; (with_reducible repeat (first | refine blk_drewN ?_ _ | refine blk_drew ?_ | refine blk_alloc ?_ _)); exact BK112.out⟩
                      have n4_ : Aside0 ((wc.setCell ⟨gb113, 0, none⟩ (.int .i64 (wrap64 (rd l0 (ji149))))).heap[gb113]? = some (.cells #[.int .i64 (wrap64 (rd l0 (ji149))), .int .i64 0, .string (⟨#[]⟩ : ByteArray)] 46 (0, 0))) := ⟨by (with_reducible repeat (first | refine blk_drewN ?_ _ | refine blk_drew ?_ | refine blk_alloc ?_ _)); refine blk_put (cs := #[.int .i64 0, .int .i64 0, .string (⟨#[]⟩ : ByteArray)]) ?_ 0 _ rfl; (with_reducible repeat (first | refine blk_drewN ?_ _ | refine blk_drew ?_ | refine blk_alloc ?_ _)); exact BK113.out⟩
                      have n5_ : Aside0 (Below w.heap.size w (wc.setCell ⟨gb113, 0, none⟩ (.int .i64 (wrap64 (rd l0 (ji149)))))) := ⟨by repeat (first | (with_reducible first | exact HB.out | apply below_alloc | apply pw_below_drewN | apply below_drew1 | refine below_set ?_ GE109.out | refine below_set ?_ GE110.out | refine below_set ?_ GE111.out | refine below_set ?_ GE112.out | refine below_set ?_ GE113.out) | exact HB.out)⟩
                      (try clear BK109)
                      (try clear BK110)
                      (try clear BK111)
                      (try clear BK112)
                      (try clear BK113)
                      (try clear HB)
                      generalize (wc.setCell ⟨gb113, 0, none⟩ (.int .i64 (wrap64 (rd l0 (ji149))))) = w160 at n0_ n1_ n2_ n3_ n4_ n5_ ⊢
                      have BK109 := n0_
                      have BK110 := n1_
                      have BK111 := n2_
                      have BK112 := n3_
                      have BK113 := n4_
                      have HB := n5_
                      clear n0_ n1_ n2_ n3_ n4_ n5_
                      have n0_ := Aside0.mk (blk_drew BK109.out)
                      have n1_ := Aside0.mk (blk_drew BK110.out)
                      have n2_ := Aside0.mk (blk_drew BK111.out)
                      have n3_ := Aside0.mk (blk_drew BK112.out)
                      have n4_ := Aside0.mk (blk_drew BK113.out)
                      have n5_ := Aside0.mk (below_drew1 HB.out)
                      clear BK109
                      clear BK110
                      clear BK111
                      clear BK112
                      clear BK113
                      clear HB
                      have BK109 := n0_
                      have BK110 := n1_
                      have BK111 := n2_
                      have BK112 := n3_
                      have BK113 := n4_
                      have HB := n5_
                      clear n0_ n1_ n2_ n3_ n4_ n5_
                      refine start_ (n := 5) (S := fun w' => w'.cell? ⟨gb109, 0, none⟩ = some (.int .i64 a1_0) ∧ w'.cell? ⟨gb109, 1, none⟩ = some (.int .i64 a1_1) ∧ w'.cell? ⟨gb113, 0, none⟩ = some (.int .i64 (wrap64 (rd l0 (ji149)))) ∧ w'.cell? ⟨gb113, 1, none⟩ = some (.int .i64 0) ∧ w'.cell? ⟨gb113, 2, none⟩ = some (.string (⟨#[]⟩ : ByteArray))) (ds := []) #[false, false, false, false, false] (by kernel_rfl) rfl rfl ⟨(blk_cell BK109.out 0).trans rfl, (blk_cell BK109.out 1).trans rfl, (blk_cell BK113.out 0).trans rfl, (blk_cell BK113.out 1).trans rfl, (blk_cell BK113.out 2).trans rfl⟩ (fun hHeld => ?_)
                      generalize w160.drew = w161 at BK109 BK110 BK111 BK112 BK113 HB hHeld ⊢
                      refine take_ (i := 0) (N := some 191) (v := ?_) (a' := ?_) #[true, false, false, false, false] rfl rfl (by kernel_rfl) (fun _ _ _ h => h) (Or.inl ⟨by rfl, ?_⟩) hHeld ?_ ?_
                      rotate_left
                      · rintro w' ⟨s0, s1, s2, s3, s4⟩
                        go_simp
                        with_reducible rfl
                      rotate_left
                      · simp only [Act.put, List.setIfInBounds_toArray, List.set_cons_zero, List.set_cons_succ, i64_w, i32_w]
                        rfl
                      refine take_ (i := 1) (N := some 192) (v := ?_) (a' := ?_) #[true, true, false, false, false] rfl rfl (by kernel_rfl) (fun _ _ _ h => h) (Or.inl ⟨by rfl, ?_⟩) hHeld ?_ ?_
                      rotate_left
                      · rintro w' ⟨s0, s1, s2, s3, s4⟩
                        go_simp
                        with_reducible rfl
                      rotate_left
                      · simp only [Act.put, List.setIfInBounds_toArray, List.set_cons_zero, List.set_cons_succ, i64_w, i32_w]
                        rfl
                      refine one_ (i := 2) (N := none) #[true, true, true, false, false] rfl rfl (by kernel_rfl) (by decide) (fun K hK => ?_)
                      have hs162 : w161.cell? ⟨gb111, 0, none⟩ = some (.int .i64 0) := (blk_cell BK111.out 0).trans rfl
                      have hfs162 := blk_frozen BK111.out 0
                      have hns162_0 := NB109_111.out
                      have hns162_1 := NB110_111.out
                      have hns162_3 := NB112_111.out
                      have hns162_4 := NB113_111.out
                      have hms162_0 := NB111_109.out
                      have hms162_1 := NB111_110.out
                      have hms162_3 := NB111_112.out
                      have hms162_4 := NB111_113.out
                      have hs163 : w161.cell? ⟨gb111, 1, none⟩ = some (.int .i64 0) := (blk_cell BK111.out 1).trans rfl
                      have hfs163 := blk_frozen BK111.out 1
                      have hns163_0 := NB109_111.out
                      have hns163_1 := NB110_111.out
                      have hns163_3 := NB112_111.out
                      have hns163_4 := NB113_111.out
                      have hms163_0 := NB111_109.out
                      have hms163_1 := NB111_110.out
                      have hms163_3 := NB111_112.out
                      have hms163_4 := NB111_113.out
                      refine skip_ (w1 := ?_) (by rfl) rfl ?_ ?_
                      rotate_left
                      · go_simp
                        rfl
                      refine hK.out _ _ ⟨((cell_far (p := ⟨gb111, _, none⟩) NB109_111.out _).trans (((cell_far (p := ⟨gb111, _, none⟩) NB109_111.out _).trans (hHeld.1)))), ((cell_far (p := ⟨gb111, _, none⟩) NB109_111.out _).trans (((cell_far (p := ⟨gb111, _, none⟩) NB109_111.out _).trans (hHeld.2.1)))), ((cell_far (p := ⟨gb111, _, none⟩) NB113_111.out _).trans (((cell_far (p := ⟨gb111, _, none⟩) NB113_111.out _).trans (hHeld.2.2.1)))), ((cell_far (p := ⟨gb111, _, none⟩) NB113_111.out _).trans (((cell_far (p := ⟨gb111, _, none⟩) NB113_111.out _).trans (hHeld.2.2.2.1)))), ((cell_far (p := ⟨gb111, _, none⟩) NB113_111.out _).trans (((cell_far (p := ⟨gb111, _, none⟩) NB113_111.out _).trans (hHeld.2.2.2.2))))⟩ (fun hHeld => ?_)
                      clear hK K
                      refine one_ (i := 3) (N := none) #[true, true, true, true, false] rfl rfl (by kernel_rfl) (by decide) (fun K hK => ?_)
                      have hs164 : w161.cell? ⟨gb112, 0, none⟩ = some (.int .i64 0) := (blk_cell BK112.out 0).trans rfl
                      have hfs164 := blk_frozen BK112.out 0
                      have hns164_0 := NB109_112.out
                      have hns164_1 := NB110_112.out
                      have hns164_2 := NB111_112.out
                      have hns164_4 := NB113_112.out
                      have hms164_0 := NB112_109.out
                      have hms164_1 := NB112_110.out
                      have hms164_2 := NB112_111.out
                      have hms164_4 := NB112_113.out
                      have hs165 : w161.cell? ⟨gb112, 1, none⟩ = some (.int .i64 0) := (blk_cell BK112.out 1).trans rfl
                      have hfs165 := blk_frozen BK112.out 1
                      have hns165_0 := NB109_112.out
                      have hns165_1 := NB110_112.out
                      have hns165_2 := NB111_112.out
                      have hns165_4 := NB113_112.out
                      have hms165_0 := NB112_109.out
                      have hms165_1 := NB112_110.out
                      have hms165_2 := NB112_111.out
                      have hms165_4 := NB112_113.out
                      have hs166 : w161.cell? ⟨gb112, 2, none⟩ = some (.string (⟨#[]⟩ : ByteArray)) := (blk_cell BK112.out 2).trans rfl
                      have hfs166 := blk_frozen BK112.out 2
                      have hns166_0 := NB109_112.out
                      have hns166_1 := NB110_112.out
                      have hns166_2 := NB111_112.out
                      have hns166_4 := NB113_112.out
                      have hms166_0 := NB112_109.out
                      have hms166_1 := NB112_110.out
                      have hms166_2 := NB112_111.out
                      have hms166_4 := NB112_113.out
                      refine skip_ (w1 := ?_) (by rfl) rfl ?_ ?_
                      rotate_left
                      · go_simp
                        rfl
                      refine hK.out _ _ ⟨((cell_far (p := ⟨gb112, _, none⟩) NB109_112.out _).trans (((cell_far (p := ⟨gb112, _, none⟩) NB109_112.out _).trans (((cell_far (p := ⟨gb112, _, none⟩) NB109_112.out _).trans (hHeld.1)))))), ((cell_far (p := ⟨gb112, _, none⟩) NB109_112.out _).trans (((cell_far (p := ⟨gb112, _, none⟩) NB109_112.out _).trans (((cell_far (p := ⟨gb112, _, none⟩) NB109_112.out _).trans (hHeld.2.1)))))), ((cell_far (p := ⟨gb112, _, none⟩) NB113_112.out _).trans (((cell_far (p := ⟨gb112, _, none⟩) NB113_112.out _).trans (((cell_far (p := ⟨gb112, _, none⟩) NB113_112.out _).trans (hHeld.2.2.1)))))), ((cell_far (p := ⟨gb112, _, none⟩) NB113_112.out _).trans (((cell_far (p := ⟨gb112, _, none⟩) NB113_112.out _).trans (((cell_far (p := ⟨gb112, _, none⟩) NB113_112.out _).trans (hHeld.2.2.2.1)))))), ((cell_far (p := ⟨gb112, _, none⟩) NB113_112.out _).trans (((cell_far (p := ⟨gb112, _, none⟩) NB113_112.out _).trans (((cell_far (p := ⟨gb112, _, none⟩) NB113_112.out _).trans (hHeld.2.2.2.2))))))⟩ (fun hHeld => ?_)
                      clear hK K
                      refine pure_ (i := 4) (N := some 8) (v := ?_) (a' := ?_) #[true, true, true, true, true] rfl rfl (by kernel_rfl) (fun _ _ _ h => h) (Or.inl ⟨by rfl, ?_⟩) ?_ ?_
                      rotate_left
                      · intro w'
                        go_simp
                        with_reducible rfl
                      rotate_left
                      · simp only [Act.put, List.setIfInBounds_toArray, List.set_cons_zero, List.set_cons_succ, i64_w, i32_w]
                        rfl
                      refine done_ (by kernel_rfl) ?_
                      try go_wp2
                      refine bodyPost_ret (results_list (rs := [.cell 6 44, .cell 7 46, .tmp 8]) rfl (by simp) (.cell gb111 44 #[.int .i64 a1_0, .int .i64 a1_1] (0, 0) _ rfl (by (with_reducible repeat (first | refine blk_drewN ?_ _ | refine blk_drew ?_ | refine blk_alloc ?_ _)); refine blk_far ?_ NB111_112.out _; (with_reducible repeat (first | refine blk_drewN ?_ _ | refine blk_drew ?_ | refine blk_alloc ?_ _)); refine blk_far ?_ NB111_112.out _; (with_reducible repeat (first | refine blk_drewN ?_ _ | refine blk_drew ?_ | refine blk_alloc ?_ _)); refine blk_far ?_ NB111_112.out _; (with_reducible repeat (first | refine blk_drewN ?_ _ | refine blk_drew ?_ | refine blk_alloc ?_ _)); refine blk_put (cs := #[.int .i64 a1_0, .int .i64 0]) ?_ 1 _ rfl; (with_reducible repeat (first | refine blk_drewN ?_ _ | refine blk_drew ?_ | refine blk_alloc ?_ _)); refine blk_put (cs := #[.int .i64 0, .int .i64 0]) ?_ 0 _ rfl; (with_reducible repeat (first | refine blk_drewN ?_ _ | refine blk_drew ?_ | refine blk_alloc ?_ _)); exact BK111.out) Tryd.underlying44 rfl (by kernel_rfl) (.cell gb112 46 #[.int .i64 (wrap64 (rd l0 (ji149))), .int .i64 0, .string (⟨#[]⟩ : ByteArray)] (0, 0) _ rfl (by (with_reducible repeat (first | refine blk_drewN ?_ _ | refine blk_drew ?_ | refine blk_alloc ?_ _)); refine blk_put (cs := #[.int .i64 (wrap64 (rd l0 (ji149))), .int .i64 0, .string (⟨#[]⟩ : ByteArray)]) ?_ 2 _ rfl; (with_reducible repeat (first | refine blk_drewN ?_ _ | refine blk_drew ?_ | refine blk_alloc ?_ _)); refine blk_put (cs := #[.int .i64 (wrap64 (rd l0 (ji149))), .int .i64 0, .string (⟨#[]⟩ : ByteArray)]) ?_ 1 _ rfl; (with_reducible repeat (first | refine blk_drewN ?_ _ | refine blk_drew ?_ | refine blk_alloc ?_ _)); refine blk_put (cs := #[.int .i64 0, .int .i64 0, .string (⟨#[]⟩ : ByteArray)]) ?_ 0 _ rfl; (with_reducible repeat (first | refine blk_drewN ?_ _ | refine blk_drew ?_ | refine blk_alloc ?_ _)); refine blk_far ?_ NB112_111.out _; (with_reducible repeat (first | refine blk_drewN ?_ _ | refine blk_drew ?_ | refine blk_alloc ?_ _)); refine blk_far ?_ NB112_111.out _; (with_reducible repeat (first | refine blk_drewN ?_ _ | refine blk_drew ?_ | refine blk_alloc ?_ _)); exact BK112.out) Tryd.underlying46 rfl (by kernel_rfl) (.tmp .nil)))) rfl ?_
                      exact ⟨by first | rfl | (simp [errW_none, errW_some] <;> rfl) | (simp only [← hji149]; first | rfl | (simp [errW_none, errW_some] <;> rfl)) | (simp [*, errW_none, errW_some] <;> rfl), by repeat (first | (with_reducible first | exact HB.out | apply below_alloc | apply pw_below_drewN | apply below_drew1 | refine below_set ?_ GE109.out | refine below_set ?_ GE110.out | refine below_set ?_ GE111.out | refine below_set ?_ GE112.out | refine below_set ?_ GE113.out) | exact HB.out)⟩
                    · rw [if_neg c150] at H
                      exact absurd H (by simp)
                  · rw [if_neg c148] at H
                    have c148b0 : decide ((wrap64 (a1_1 + a2_1)) < (l0.length : Int)) = false := decide_eq_false c148
                    clear c148
                    simp only [Option.some.injEq, Prod.mk.injEq] at H
                    obtain ⟨rfl, rfl, rfl, rfl, rfl, rfl⟩ := H
                    have hnb167 := NB110_109.out
                    have hnc167 := NB109_110.out
                    have hnb168 := NB110_111.out
                    have hnc168 := NB111_110.out
                    have hnb169 := NB110_112.out
                    have hnc169 := NB112_110.out
                    have hnb170 := NB110_113.out
                    have hnc170 := NB113_110.out
                    have hcz171_0 : wc.cell? ⟨gb110, 0, none⟩ = some (.int .i64 a2_0) := (blk_cell BK110.out 0).trans rfl
                    have hcz171_1 : wc.cell? ⟨gb110, 1, none⟩ = some (.int .i64 a2_1) := (blk_cell BK110.out 1).trans rfl
                    have hfz171_0 := blk_frozen BK110.out 0
                    have hfz171_1 := blk_frozen BK110.out 1
                    try go_wp2
                    have n0_ := Aside0.mk (blk_drew BK109.out)
                    have n1_ := Aside0.mk (blk_drew BK110.out)
                    have n2_ := Aside0.mk (blk_drew BK111.out)
                    have n3_ := Aside0.mk (blk_drew BK112.out)
                    have n4_ := Aside0.mk (blk_drew BK113.out)
                    have n5_ := Aside0.mk (below_drew1 HB.out)
                    clear BK109
                    clear BK110
                    clear BK111
                    clear BK112
                    clear BK113
                    clear HB
                    have BK109 := n0_
                    have BK110 := n1_
                    have BK111 := n2_
                    have BK112 := n3_
                    have BK113 := n4_
                    have HB := n5_
                    clear n0_ n1_ n2_ n3_ n4_ n5_
                    refine start_ (n := 5) (S := fun w' => w'.cell? ⟨gb109, 0, none⟩ = some (.int .i64 a1_0) ∧ w'.cell? ⟨gb109, 1, none⟩ = some (.int .i64 a1_1) ∧ w'.cell? ⟨gb113, 0, none⟩ = some (.int .i64 0) ∧ w'.cell? ⟨gb113, 1, none⟩ = some (.int .i64 0) ∧ w'.cell? ⟨gb113, 2, none⟩ = some (.string (⟨#[]⟩ : ByteArray))) (ds := []) #[false, false, false, false, false] (by kernel_rfl) rfl rfl ⟨(blk_cell BK109.out 0).trans rfl, (blk_cell BK109.out 1).trans rfl, (blk_cell BK113.out 0).trans rfl, (blk_cell BK113.out 1).trans rfl, (blk_cell BK113.out 2).trans rfl⟩ (fun hHeld => ?_)
                    generalize wc.drew = w172 at BK109 BK110 BK111 BK112 BK113 HB hHeld ⊢
                    refine take_ (i := 0) (N := some 191) (v := ?_) (a' := ?_) #[true, false, false, false, false] rfl rfl (by kernel_rfl) (fun _ _ _ h => h) (Or.inl ⟨by rfl, ?_⟩) hHeld ?_ ?_
                    rotate_left
                    · rintro w' ⟨s0, s1, s2, s3, s4⟩
                      go_simp
                      with_reducible rfl
                    rotate_left
                    · simp only [Act.put, List.setIfInBounds_toArray, List.set_cons_zero, List.set_cons_succ, i64_w, i32_w]
                      rfl
                    refine take_ (i := 1) (N := some 192) (v := ?_) (a' := ?_) #[true, true, false, false, false] rfl rfl (by kernel_rfl) (fun _ _ _ h => h) (Or.inl ⟨by rfl, ?_⟩) hHeld ?_ ?_
                    rotate_left
                    · rintro w' ⟨s0, s1, s2, s3, s4⟩
                      go_simp
                      with_reducible rfl
                    rotate_left
                    · simp only [Act.put, List.setIfInBounds_toArray, List.set_cons_zero, List.set_cons_succ, i64_w, i32_w]
                      rfl
                    refine one_ (i := 2) (N := none) #[true, true, true, false, false] rfl rfl (by kernel_rfl) (by decide) (fun K hK => ?_)
                    have hs173 : w172.cell? ⟨gb111, 0, none⟩ = some (.int .i64 0) := (blk_cell BK111.out 0).trans rfl
                    have hfs173 := blk_frozen BK111.out 0
                    have hns173_0 := NB109_111.out
                    have hns173_1 := NB110_111.out
                    have hns173_3 := NB112_111.out
                    have hns173_4 := NB113_111.out
                    have hms173_0 := NB111_109.out
                    have hms173_1 := NB111_110.out
                    have hms173_3 := NB111_112.out
                    have hms173_4 := NB111_113.out
                    have hs174 : w172.cell? ⟨gb111, 1, none⟩ = some (.int .i64 0) := (blk_cell BK111.out 1).trans rfl
                    have hfs174 := blk_frozen BK111.out 1
                    have hns174_0 := NB109_111.out
                    have hns174_1 := NB110_111.out
                    have hns174_3 := NB112_111.out
                    have hns174_4 := NB113_111.out
                    have hms174_0 := NB111_109.out
                    have hms174_1 := NB111_110.out
                    have hms174_3 := NB111_112.out
                    have hms174_4 := NB111_113.out
                    refine skip_ (w1 := ?_) (by rfl) rfl ?_ ?_
                    rotate_left
                    · go_simp
                      rfl
                    refine hK.out _ _ ⟨((cell_far (p := ⟨gb111, _, none⟩) NB109_111.out _).trans (((cell_far (p := ⟨gb111, _, none⟩) NB109_111.out _).trans (hHeld.1)))), ((cell_far (p := ⟨gb111, _, none⟩) NB109_111.out _).trans (((cell_far (p := ⟨gb111, _, none⟩) NB109_111.out _).trans (hHeld.2.1)))), ((cell_far (p := ⟨gb111, _, none⟩) NB113_111.out _).trans (((cell_far (p := ⟨gb111, _, none⟩) NB113_111.out _).trans (hHeld.2.2.1)))), ((cell_far (p := ⟨gb111, _, none⟩) NB113_111.out _).trans (((cell_far (p := ⟨gb111, _, none⟩) NB113_111.out _).trans (hHeld.2.2.2.1)))), ((cell_far (p := ⟨gb111, _, none⟩) NB113_111.out _).trans (((cell_far (p := ⟨gb111, _, none⟩) NB113_111.out _).trans (hHeld.2.2.2.2))))⟩ (fun hHeld => ?_)
                    clear hK K
                    refine one_ (i := 3) (N := none) #[true, true, true, true, false] rfl rfl (by kernel_rfl) (by decide) (fun K hK => ?_)
                    have hs175 : w172.cell? ⟨gb112, 0, none⟩ = some (.int .i64 0) := (blk_cell BK112.out 0).trans rfl
                    have hfs175 := blk_frozen BK112.out 0
                    have hns175_0 := NB109_112.out
                    have hns175_1 := NB110_112.out
                    have hns175_2 := NB111_112.out
                    have hns175_4 := NB113_112.out
                    have hms175_0 := NB112_109.out
                    have hms175_1 := NB112_110.out
                    have hms175_2 := NB112_111.out
                    have hms175_4 := NB112_113.out
                    have hs176 : w172.cell? ⟨gb112, 1, none⟩ = some (.int .i64 0) := (blk_cell BK112.out 1).trans rfl
                    have hfs176 := blk_frozen BK112.out 1
                    have hns176_0 := NB109_112.out
                    have hns176_1 := NB110_112.out
                    have hns176_2 := NB111_112.out
                    have hns176_4 := NB113_112.out
                    have hms176_0 := NB112_109.out
                    have hms176_1 := NB112_110.out
                    have hms176_2 := NB112_111.out
                    have hms176_4 := NB112_113.out
                    have hs177 : w172.cell? ⟨gb112, 2, none⟩ = some (.string (⟨#[]⟩ : ByteArray)) := (blk_cell BK112.out 2).trans rfl
                    have hfs177 := blk_frozen BK112.out 2
                    have hns177_0 := NB109_112.out
                    have hns177_1 := NB110_112.out
                    have hns177_2 := NB111_112.out
                    have hns177_4 := NB113_112.out
                    have hms177_0 := NB112_109.out
                    have hms177_1 := NB112_110.out
                    have hms177_2 := NB112_111.out
                    have hms177_4 := NB112_113.out
                    refine skip_ (w1 := ?_) (by rfl) rfl ?_ ?_
                    rotate_left
                    · go_simp
                      rfl
                    refine hK.out _ _ ⟨((cell_far (p := ⟨gb112, _, none⟩) NB109_112.out _).trans (((cell_far (p := ⟨gb112, _, none⟩) NB109_112.out _).trans (((cell_far (p := ⟨gb112, _, none⟩) NB109_112.out _).trans (hHeld.1)))))), ((cell_far (p := ⟨gb112, _, none⟩) NB109_112.out _).trans (((cell_far (p := ⟨gb112, _, none⟩) NB109_112.out _).trans (((cell_far (p := ⟨gb112, _, none⟩) NB109_112.out _).trans (hHeld.2.1)))))), ((cell_far (p := ⟨gb112, _, none⟩) NB113_112.out _).trans (((cell_far (p := ⟨gb112, _, none⟩) NB113_112.out _).trans (((cell_far (p := ⟨gb112, _, none⟩) NB113_112.out _).trans (hHeld.2.2.1)))))), ((cell_far (p := ⟨gb112, _, none⟩) NB113_112.out _).trans (((cell_far (p := ⟨gb112, _, none⟩) NB113_112.out _).trans (((cell_far (p := ⟨gb112, _, none⟩) NB113_112.out _).trans (hHeld.2.2.2.1)))))), ((cell_far (p := ⟨gb112, _, none⟩) NB113_112.out _).trans (((cell_far (p := ⟨gb112, _, none⟩) NB113_112.out _).trans (((cell_far (p := ⟨gb112, _, none⟩) NB113_112.out _).trans (hHeld.2.2.2.2))))))⟩ (fun hHeld => ?_)
                    clear hK K
                    refine pure_ (i := 4) (N := some 8) (v := ?_) (a' := ?_) #[true, true, true, true, true] rfl rfl (by kernel_rfl) (fun _ _ _ h => h) (Or.inl ⟨by rfl, ?_⟩) ?_ ?_
                    rotate_left
                    · intro w'
                      go_simp
                      with_reducible rfl
                    rotate_left
                    · simp only [Act.put, List.setIfInBounds_toArray, List.set_cons_zero, List.set_cons_succ, i64_w, i32_w]
                      rfl
                    refine done_ (by kernel_rfl) ?_
                    try go_wp2
                    refine bodyPost_ret (results_list (rs := [.cell 6 44, .cell 7 46, .tmp 8]) rfl (by simp) (.cell gb111 44 #[.int .i64 a1_0, .int .i64 a1_1] (0, 0) _ rfl (by (with_reducible repeat (first | refine blk_drewN ?_ _ | refine blk_drew ?_ | refine blk_alloc ?_ _)); refine blk_far ?_ NB111_112.out _; (with_reducible repeat (first | refine blk_drewN ?_ _ | refine blk_drew ?_ | refine blk_alloc ?_ _)); refine blk_far ?_ NB111_112.out _; (with_reducible repeat (first | refine blk_drewN ?_ _ | refine blk_drew ?_ | refine blk_alloc ?_ _)); refine blk_far ?_ NB111_112.out _; (with_reducible repeat (first | refine blk_drewN ?_ _ | refine blk_drew ?_ | refine blk_alloc ?_ _)); refine blk_put (cs := #[.int .i64 a1_0, .int .i64 0]) ?_ 1 _ rfl; (with_reducible repeat (first | refine blk_drewN ?_ _ | refine blk_drew ?_ | refine blk_alloc ?_ _)); refine blk_put (cs := #[.int .i64 0, .int .i64 0]) ?_ 0 _ rfl; (with_reducible repeat (first | refine blk_drewN ?_ _ | refine blk_drew ?_ | refine blk_alloc ?_ _)); exact BK111.out) Tryd.underlying44 rfl (by kernel_rfl) (.cell gb112 46 #[.int .i64 0, .int .i64 0, .string (⟨#[]⟩ : ByteArray)] (0, 0) _ rfl (by (with_reducible repeat (first | refine blk_drewN ?_ _ | refine blk_drew ?_ | refine blk_alloc ?_ _)); refine blk_put (cs := #[.int .i64 0, .int .i64 0, .string (⟨#[]⟩ : ByteArray)]) ?_ 2 _ rfl; (with_reducible repeat (first | refine blk_drewN ?_ _ | refine blk_drew ?_ | refine blk_alloc ?_ _)); refine blk_put (cs := #[.int .i64 0, .int .i64 0, .string (⟨#[]⟩ : ByteArray)]) ?_ 1 _ rfl; (with_reducible repeat (first | refine blk_drewN ?_ _ | refine blk_drew ?_ | refine blk_alloc ?_ _)); refine blk_put (cs := #[.int .i64 0, .int .i64 0, .string (⟨#[]⟩ : ByteArray)]) ?_ 0 _ rfl; (with_reducible repeat (first | refine blk_drewN ?_ _ | refine blk_drew ?_ | refine blk_alloc ?_ _)); refine blk_far ?_ NB112_111.out _; (with_reducible repeat (first | refine blk_drewN ?_ _ | refine blk_drew ?_ | refine blk_alloc ?_ _)); refine blk_far ?_ NB112_111.out _; (with_reducible repeat (first | refine blk_drewN ?_ _ | refine blk_drew ?_ | refine blk_alloc ?_ _)); exact BK112.out) Tryd.underlying46 rfl (by kernel_rfl) (.tmp .nil)))) rfl ?_
                    exact ⟨by first | rfl | (simp [errW_none, errW_some] <;> rfl) | (simp [*, errW_none, errW_some] <;> rfl), by repeat (first | (with_reducible first | exact HB.out | apply below_alloc | apply pw_below_drewN | apply below_drew1 | refine below_set ?_ GE109.out | refine below_set ?_ GE110.out | refine below_set ?_ GE111.out | refine below_set ?_ GE112.out | refine below_set ?_ GE113.out) | exact HB.out)⟩
                · replace c147 := Bool.eq_false_iff.mpr c147
                  subst c147
                  have H1 : (some (a1_0, a1_1, 0, 0, (⟨#[]⟩ : ByteArray), false)) = some (r1, r2, r3, r4, r5, r6) := by rw [if_neg (show ¬ (false = true) by decide)] at H; exact H
                  clear H
                  have H := H1
                  clear H1
                  simp only [Option.some.injEq, Prod.mk.injEq] at H
                  obtain ⟨rfl, rfl, rfl, rfl, rfl, rfl⟩ := H
                  have hnb178 := NB110_109.out
                  have hnc178 := NB109_110.out
                  have hnb179 := NB110_111.out
                  have hnc179 := NB111_110.out
                  have hnb180 := NB110_112.out
                  have hnc180 := NB112_110.out
                  have hnb181 := NB110_113.out
                  have hnc181 := NB113_110.out
                  have hcz182_0 : wc.cell? ⟨gb110, 0, none⟩ = some (.int .i64 a2_0) := (blk_cell BK110.out 0).trans rfl
                  have hcz182_1 : wc.cell? ⟨gb110, 1, none⟩ = some (.int .i64 a2_1) := (blk_cell BK110.out 1).trans rfl
                  have hfz182_0 := blk_frozen BK110.out 0
                  have hfz182_1 := blk_frozen BK110.out 1
                  try go_wp2
                  have n0_ := Aside0.mk (blk_drew BK109.out)
                  have n1_ := Aside0.mk (blk_drew BK110.out)
                  have n2_ := Aside0.mk (blk_drew BK111.out)
                  have n3_ := Aside0.mk (blk_drew BK112.out)
                  have n4_ := Aside0.mk (blk_drew BK113.out)
                  have n5_ := Aside0.mk (below_drew1 HB.out)
                  clear BK109
                  clear BK110
                  clear BK111
                  clear BK112
                  clear BK113
                  clear HB
                  have BK109 := n0_
                  have BK110 := n1_
                  have BK111 := n2_
                  have BK112 := n3_
                  have BK113 := n4_
                  have HB := n5_
                  clear n0_ n1_ n2_ n3_ n4_ n5_
                  refine start_ (n := 5) (S := fun w' => w'.cell? ⟨gb109, 0, none⟩ = some (.int .i64 a1_0) ∧ w'.cell? ⟨gb109, 1, none⟩ = some (.int .i64 a1_1) ∧ w'.cell? ⟨gb113, 0, none⟩ = some (.int .i64 0) ∧ w'.cell? ⟨gb113, 1, none⟩ = some (.int .i64 0) ∧ w'.cell? ⟨gb113, 2, none⟩ = some (.string (⟨#[]⟩ : ByteArray))) (ds := []) #[false, false, false, false, false] (by kernel_rfl) rfl rfl ⟨(blk_cell BK109.out 0).trans rfl, (blk_cell BK109.out 1).trans rfl, (blk_cell BK113.out 0).trans rfl, (blk_cell BK113.out 1).trans rfl, (blk_cell BK113.out 2).trans rfl⟩ (fun hHeld => ?_)
                  generalize wc.drew = w183 at BK109 BK110 BK111 BK112 BK113 HB hHeld ⊢
                  refine take_ (i := 0) (N := some 102) (v := ?_) (a' := ?_) #[true, false, false, false, false] rfl rfl (by kernel_rfl) (fun _ _ _ h => h) (Or.inl ⟨by rfl, ?_⟩) hHeld ?_ ?_
                  rotate_left
                  · rintro w' ⟨s0, s1, s2, s3, s4⟩
                    go_simp
                    with_reducible rfl
                  rotate_left
                  · simp only [Act.put, List.setIfInBounds_toArray, List.set_cons_zero, List.set_cons_succ, i64_w, i32_w]
                    rfl
                  refine take_ (i := 1) (N := some 103) (v := ?_) (a' := ?_) #[true, true, false, false, false] rfl rfl (by kernel_rfl) (fun _ _ _ h => h) (Or.inl ⟨by rfl, ?_⟩) hHeld ?_ ?_
                  rotate_left
                  · rintro w' ⟨s0, s1, s2, s3, s4⟩
                    go_simp
                    with_reducible rfl
                  rotate_left
                  · simp only [Act.put, List.setIfInBounds_toArray, List.set_cons_zero, List.set_cons_succ, i64_w, i32_w]
                    rfl
                  refine one_ (i := 2) (N := none) #[true, true, true, false, false] rfl rfl (by kernel_rfl) (by decide) (fun K hK => ?_)
                  have hs184 : w183.cell? ⟨gb111, 0, none⟩ = some (.int .i64 0) := (blk_cell BK111.out 0).trans rfl
                  have hfs184 := blk_frozen BK111.out 0
                  have hns184_0 := NB109_111.out
                  have hns184_1 := NB110_111.out
                  have hns184_3 := NB112_111.out
                  have hns184_4 := NB113_111.out
                  have hms184_0 := NB111_109.out
                  have hms184_1 := NB111_110.out
                  have hms184_3 := NB111_112.out
                  have hms184_4 := NB111_113.out
                  have hs185 : w183.cell? ⟨gb111, 1, none⟩ = some (.int .i64 0) := (blk_cell BK111.out 1).trans rfl
                  have hfs185 := blk_frozen BK111.out 1
                  have hns185_0 := NB109_111.out
                  have hns185_1 := NB110_111.out
                  have hns185_3 := NB112_111.out
                  have hns185_4 := NB113_111.out
                  have hms185_0 := NB111_109.out
                  have hms185_1 := NB111_110.out
                  have hms185_3 := NB111_112.out
                  have hms185_4 := NB111_113.out
                  refine skip_ (w1 := ?_) (by rfl) rfl ?_ ?_
                  rotate_left
                  · go_simp
                    rfl
                  refine hK.out _ _ ⟨((cell_far (p := ⟨gb111, _, none⟩) NB109_111.out _).trans (((cell_far (p := ⟨gb111, _, none⟩) NB109_111.out _).trans (hHeld.1)))), ((cell_far (p := ⟨gb111, _, none⟩) NB109_111.out _).trans (((cell_far (p := ⟨gb111, _, none⟩) NB109_111.out _).trans (hHeld.2.1)))), ((cell_far (p := ⟨gb111, _, none⟩) NB113_111.out _).trans (((cell_far (p := ⟨gb111, _, none⟩) NB113_111.out _).trans (hHeld.2.2.1)))), ((cell_far (p := ⟨gb111, _, none⟩) NB113_111.out _).trans (((cell_far (p := ⟨gb111, _, none⟩) NB113_111.out _).trans (hHeld.2.2.2.1)))), ((cell_far (p := ⟨gb111, _, none⟩) NB113_111.out _).trans (((cell_far (p := ⟨gb111, _, none⟩) NB113_111.out _).trans (hHeld.2.2.2.2))))⟩ (fun hHeld => ?_)
                  clear hK K
                  refine one_ (i := 3) (N := none) #[true, true, true, true, false] rfl rfl (by kernel_rfl) (by decide) (fun K hK => ?_)
                  have hs186 : w183.cell? ⟨gb112, 0, none⟩ = some (.int .i64 0) := (blk_cell BK112.out 0).trans rfl
                  have hfs186 := blk_frozen BK112.out 0
                  have hns186_0 := NB109_112.out
                  have hns186_1 := NB110_112.out
                  have hns186_2 := NB111_112.out
                  have hns186_4 := NB113_112.out
                  have hms186_0 := NB112_109.out
                  have hms186_1 := NB112_110.out
                  have hms186_2 := NB112_111.out
                  have hms186_4 := NB112_113.out
                  have hs187 : w183.cell? ⟨gb112, 1, none⟩ = some (.int .i64 0) := (blk_cell BK112.out 1).trans rfl
                  have hfs187 := blk_frozen BK112.out 1
                  have hns187_0 := NB109_112.out
                  have hns187_1 := NB110_112.out
                  have hns187_2 := NB111_112.out
                  have hns187_4 := NB113_112.out
                  have hms187_0 := NB112_109.out
                  have hms187_1 := NB112_110.out
                  have hms187_2 := NB112_111.out
                  have hms187_4 := NB112_113.out
                  have hs188 : w183.cell? ⟨gb112, 2, none⟩ = some (.string (⟨#[]⟩ : ByteArray)) := (blk_cell BK112.out 2).trans rfl
                  have hfs188 := blk_frozen BK112.out 2
                  have hns188_0 := NB109_112.out
                  have hns188_1 := NB110_112.out
                  have hns188_2 := NB111_112.out
                  have hns188_4 := NB113_112.out
                  have hms188_0 := NB112_109.out
                  have hms188_1 := NB112_110.out
                  have hms188_2 := NB112_111.out
                  have hms188_4 := NB112_113.out
                  refine skip_ (w1 := ?_) (by rfl) rfl ?_ ?_
                  rotate_left
                  · go_simp
                    rfl
                  refine hK.out _ _ ⟨((cell_far (p := ⟨gb112, _, none⟩) NB109_112.out _).trans (((cell_far (p := ⟨gb112, _, none⟩) NB109_112.out _).trans (((cell_far (p := ⟨gb112, _, none⟩) NB109_112.out _).trans (hHeld.1)))))), ((cell_far (p := ⟨gb112, _, none⟩) NB109_112.out _).trans (((cell_far (p := ⟨gb112, _, none⟩) NB109_112.out _).trans (((cell_far (p := ⟨gb112, _, none⟩) NB109_112.out _).trans (hHeld.2.1)))))), ((cell_far (p := ⟨gb112, _, none⟩) NB113_112.out _).trans (((cell_far (p := ⟨gb112, _, none⟩) NB113_112.out _).trans (((cell_far (p := ⟨gb112, _, none⟩) NB113_112.out _).trans (hHeld.2.2.1)))))), ((cell_far (p := ⟨gb112, _, none⟩) NB113_112.out _).trans (((cell_far (p := ⟨gb112, _, none⟩) NB113_112.out _).trans (((cell_far (p := ⟨gb112, _, none⟩) NB113_112.out _).trans (hHeld.2.2.2.1)))))), ((cell_far (p := ⟨gb112, _, none⟩) NB113_112.out _).trans (((cell_far (p := ⟨gb112, _, none⟩) NB113_112.out _).trans (((cell_far (p := ⟨gb112, _, none⟩) NB113_112.out _).trans (hHeld.2.2.2.2))))))⟩ (fun hHeld => ?_)
                  clear hK K
                  refine pure_ (i := 4) (N := some 8) (v := ?_) (a' := ?_) #[true, true, true, true, true] rfl rfl (by kernel_rfl) (fun _ _ _ h => h) (Or.inl ⟨by rfl, ?_⟩) ?_ ?_
                  rotate_left
                  · intro w'
                    go_simp
                    with_reducible rfl
                  rotate_left
                  · simp only [Act.put, List.setIfInBounds_toArray, List.set_cons_zero, List.set_cons_succ, i64_w, i32_w]
                    rfl
                  refine done_ (by kernel_rfl) ?_
                  try go_wp2
                  refine bodyPost_ret (results_list (rs := [.cell 6 44, .cell 7 46, .tmp 8]) rfl (by simp) (.cell gb111 44 #[.int .i64 a1_0, .int .i64 a1_1] (0, 0) _ rfl (by (with_reducible repeat (first | refine blk_drewN ?_ _ | refine blk_drew ?_ | refine blk_alloc ?_ _)); refine blk_far ?_ NB111_112.out _; (with_reducible repeat (first | refine blk_drewN ?_ _ | refine blk_drew ?_ | refine blk_alloc ?_ _)); refine blk_far ?_ NB111_112.out _; (with_reducible repeat (first | refine blk_drewN ?_ _ | refine blk_drew ?_ | refine blk_alloc ?_ _)); refine blk_far ?_ NB111_112.out _; (with_reducible repeat (first | refine blk_drewN ?_ _ | refine blk_drew ?_ | refine blk_alloc ?_ _)); refine blk_put (cs := #[.int .i64 a1_0, .int .i64 0]) ?_ 1 _ rfl; (with_reducible repeat (first | refine blk_drewN ?_ _ | refine blk_drew ?_ | refine blk_alloc ?_ _)); refine blk_put (cs := #[.int .i64 0, .int .i64 0]) ?_ 0 _ rfl; (with_reducible repeat (first | refine blk_drewN ?_ _ | refine blk_drew ?_ | refine blk_alloc ?_ _)); exact BK111.out) Tryd.underlying44 rfl (by kernel_rfl) (.cell gb112 46 #[.int .i64 0, .int .i64 0, .string (⟨#[]⟩ : ByteArray)] (0, 0) _ rfl (by (with_reducible repeat (first | refine blk_drewN ?_ _ | refine blk_drew ?_ | refine blk_alloc ?_ _)); refine blk_put (cs := #[.int .i64 0, .int .i64 0, .string (⟨#[]⟩ : ByteArray)]) ?_ 2 _ rfl; (with_reducible repeat (first | refine blk_drewN ?_ _ | refine blk_drew ?_ | refine blk_alloc ?_ _)); refine blk_put (cs := #[.int .i64 0, .int .i64 0, .string (⟨#[]⟩ : ByteArray)]) ?_ 1 _ rfl; (with_reducible repeat (first | refine blk_drewN ?_ _ | refine blk_drew ?_ | refine blk_alloc ?_ _)); refine blk_put (cs := #[.int .i64 0, .int .i64 0, .string (⟨#[]⟩ : ByteArray)]) ?_ 0 _ rfl; (with_reducible repeat (first | refine blk_drewN ?_ _ | refine blk_drew ?_ | refine blk_alloc ?_ _)); refine blk_far ?_ NB112_111.out _; (with_reducible repeat (first | refine blk_drewN ?_ _ | refine blk_drew ?_ | refine blk_alloc ?_ _)); refine blk_far ?_ NB112_111.out _; (with_reducible repeat (first | refine blk_drewN ?_ _ | refine blk_drew ?_ | refine blk_alloc ?_ _)); exact BK112.out) Tryd.underlying46 rfl (by kernel_rfl) (.tmp .nil)))) rfl ?_
                  exact ⟨by first | rfl | (simp [errW_none, errW_some] <;> rfl) | (simp [*, errW_none, errW_some] <;> rfl), by repeat (first | (with_reducible first | exact HB.out | apply below_alloc | apply pw_below_drewN | apply below_drew1 | refine below_set ?_ GE109.out | refine below_set ?_ GE110.out | refine below_set ?_ GE111.out | refine below_set ?_ GE112.out | refine below_set ?_ GE113.out) | exact HB.out)⟩
              · rw [if_neg c146] at H
                have c146b0 : (a2_0 == 4) = false := beq_eq_false_iff_ne.mpr c146
                have c146b1 : (a2_0 != 4) = true := bne_iff_ne.mpr c146
                by_cases c189 : a2_0 = 5
                · rw [if_pos c189] at H
                  have c189b0 : (a2_0 == 5) = true := beq_iff_eq.mpr c189
                  have c189b1 : (a2_0 != 5) = false := bne_eq_false_iff_eq.mpr c189
                  clear c189
                  by_cases c190 : x11_3 = true
                  · subst c190
                    have H1 : (if (wrap64 (a1_1 + a2_1)) = (l0.length : Int) then (some (a1_0, a1_1, 1, 0, (⟨#[]⟩ : ByteArray), true)) else (some (a1_0, a1_1, 0, 0, (⟨#[]⟩ : ByteArray), true))) = some (r1, r2, r3, r4, r5, r6) := by rw [if_pos rfl] at H; exact H
                    clear H
                    have H := H1
                    clear H1
                    by_cases c191 : (wrap64 (a1_1 + a2_1)) = (l0.length : Int)
                    · rw [if_pos c191] at H
                      have c191b0 : ((wrap64 (a1_1 + a2_1)) == (l0.length : Int)) = true := beq_iff_eq.mpr c191
                      have c191b1 : ((wrap64 (a1_1 + a2_1)) != (l0.length : Int)) = false := bne_eq_false_iff_eq.mpr c191
                      clear c191
                      simp only [Option.some.injEq, Prod.mk.injEq] at H
                      obtain ⟨rfl, rfl, rfl, rfl, rfl, rfl⟩ := H
                      have hnb192 := NB110_109.out
                      have hnc192 := NB109_110.out
                      have hnb193 := NB110_111.out
                      have hnc193 := NB111_110.out
                      have hnb194 := NB110_112.out
                      have hnc194 := NB112_110.out
                      have hnb195 := NB110_113.out
                      have hnc195 := NB113_110.out
                      have hcz196_0 : wc.cell? ⟨gb110, 0, none⟩ = some (.int .i64 a2_0) := (blk_cell BK110.out 0).trans rfl
                      have hcz196_1 : wc.cell? ⟨gb110, 1, none⟩ = some (.int .i64 a2_1) := (blk_cell BK110.out 1).trans rfl
                      have hfz196_0 := blk_frozen BK110.out 0
                      have hfz196_1 := blk_frozen BK110.out 1
                      have hnb197 := NB113_109.out
                      have hnc197 := NB109_113.out
                      have hnb198 := NB113_111.out
                      have hnc198 := NB111_113.out
                      have hnb199 := NB113_112.out
                      have hnc199 := NB112_113.out
                      have hcz200_0 : wc.cell? ⟨gb113, 0, none⟩ = some (.int .i64 0) := (blk_cell BK113.out 0).trans rfl
                      have hcz200_1 : wc.cell? ⟨gb113, 1, none⟩ = some (.int .i64 0) := (blk_cell BK113.out 1).trans rfl
                      have hcz200_2 : wc.cell? ⟨gb113, 2, none⟩ = some (.string (⟨#[]⟩ : ByteArray)) := (blk_cell BK113.out 2).trans rfl
                      have hfz200_0 := blk_frozen BK113.out 0
                      have hfz200_1 := blk_frozen BK113.out 1
                      have hfz200_2 := blk_frozen BK113.out 2
                      try go_wp2
                      have n0_ : Aside0 ((wc.setCell ⟨gb113, 0, none⟩ (.int .i64 1)).heap[gb109]? = some (.cells #[.int .i64 a1_0, .int .i64 a1_1] 44 (0, 0))) := ⟨by (with_reducible repeat (first | refine blk_drewN ?_ _ | refine blk_drew ?_ | refine blk_alloc ?_ _)); refine blk_far ?_ NB109_113.out _; (with_reducible repeat (first | refine blk_drewN ?_ _ | refine blk_drew ?_ | refine blk_alloc ?_ _)); exact BK109.out⟩
                      have n1_ : Aside0 ((wc.setCell ⟨gb113, 0, none⟩ (.int .i64 1)).heap[gb110]? = some (.cells #[.int .i64 a2_0, .int .i64 a2_1] 26 (0, 0))) := ⟨by (with_reducible repeat (first | refine blk_drewN ?_ _ | refine blk_drew ?_ | refine blk_alloc ?_ _)); refine blk_far ?_ NB110_113.out _; (with_reducible repeat (first | refine blk_drewN ?_ _ | refine blk_drew ?_ | refine blk_alloc ?_ _)); exact BK110.out⟩
                      have n2_ : Aside0 ((wc.setCell ⟨gb113, 0, none⟩ (.int .i64 1)).heap[gb111]? = some (.cells #[.int .i64 0, .int .i64 0] 44 (0, 0))) := ⟨by (with_reducible repeat (first | refine blk_drewN ?_ _ | refine blk_drew ?_ | refine blk_alloc ?_ _)); refine blk_far ?_ NB111_113.out _; (with_reducible repeat (first | refine blk_drewN ?_ _ | refine blk_drew ?_ | refine blk_alloc ?_ _)); exact BK111.out⟩
                      have n3_ : Aside0 ((wc.setCell ⟨gb113, 0, none⟩ (.int .i64 1)).heap[gb112]? = some (.cells #[.int .i64 0, .int .i64 0, .string (⟨#[]⟩ : ByteArray)] 46 (0, 0))) := ⟨by (with_reducible repeat (first | refine blk_drewN ?_ _ | refine blk_drew ?_ | refine blk_alloc ?_ _)); refine blk_far ?_ NB112_113.out _; (with_reducible repeat (first | refine blk_drewN ?_ _ | refine blk_drew ?_ | refine blk_alloc ?_ _)); exact BK112.out⟩
                      have n4_ : Aside0 ((wc.setCell ⟨gb113, 0, none⟩ (.int .i64 1)).heap[gb113]? = some (.cells #[.int .i64 1, .int .i64 0, .string (⟨#[]⟩ : ByteArray)] 46 (0, 0))) := ⟨by (with_reducible repeat (first | refine blk_drewN ?_ _ | refine blk_drew ?_ | refine blk_alloc ?_ _)); refine blk_put (cs := #[.int .i64 0, .int .i64 0, .string (⟨#[]⟩ : ByteArray)]) ?_ 0 _ rfl; (with_reducible repeat (first | refine blk_drewN ?_ _ | refine blk_drew ?_ | refine blk_alloc ?_ _)); exact BK113.out⟩
                      have n5_ : Aside0 (Below w.heap.size w (wc.setCell ⟨gb113, 0, none⟩ (.int .i64 1))) := ⟨by repeat (first | (with_reducible first | exact HB.out | apply below_alloc | apply pw_below_drewN | apply below_drew1 | refine below_set ?_ GE109.out | refine below_set ?_ GE110.out | refine below_set ?_ GE111.out | refine below_set ?_ GE112.out | refine below_set ?_ GE113.out) | exact HB.out)⟩
                      (try clear BK109)
                      (try clear BK110)
                      (try clear BK111)
                      (try clear BK112)
                      (try clear BK113)
                      (try clear HB)
                      generalize (wc.setCell ⟨gb113, 0, none⟩ (.int .i64 1)) = w201 at n0_ n1_ n2_ n3_ n4_ n5_ ⊢
                      have BK109 := n0_
                      have BK110 := n1_
                      have BK111 := n2_
                      have BK112 := n3_
                      have BK113 := n4_
                      have HB := n5_
                      clear n0_ n1_ n2_ n3_ n4_ n5_
                      have n0_ := Aside0.mk (blk_drew BK109.out)
                      have n1_ := Aside0.mk (blk_drew BK110.out)
                      have n2_ := Aside0.mk (blk_drew BK111.out)
                      have n3_ := Aside0.mk (blk_drew BK112.out)
                      have n4_ := Aside0.mk (blk_drew BK113.out)
                      have n5_ := Aside0.mk (below_drew1 HB.out)
                      clear BK109
                      clear BK110
                      clear BK111
                      clear BK112
                      clear BK113
                      clear HB
                      have BK109 := n0_
                      have BK110 := n1_
                      have BK111 := n2_
                      have BK112 := n3_
                      have BK113 := n4_
                      have HB := n5_
                      clear n0_ n1_ n2_ n3_ n4_ n5_
                      refine start_ (n := 6) (S := fun w' => w'.cell? ⟨gb109, 0, none⟩ = some (.int .i64 a1_0) ∧ w'.cell? ⟨gb109, 1, none⟩ = some (.int .i64 a1_1) ∧ w'.cell? ⟨gb113, 0, none⟩ = some (.int .i64 1) ∧ w'.cell? ⟨gb113, 1, none⟩ = some (.int .i64 0) ∧ w'.cell? ⟨gb113, 2, none⟩ = some (.string (⟨#[]⟩ : ByteArray))) (ds := []) #[false, false, false, false, false, false] (by kernel_rfl) rfl rfl ⟨(blk_cell BK109.out 0).trans rfl, (blk_cell BK109.out 1).trans rfl, (blk_cell BK113.out 0).trans rfl, (blk_cell BK113.out 1).trans rfl, (blk_cell BK113.out 2).trans rfl⟩ (fun hHeld => ?_)
                      generalize w201.drew = w202 at BK109 BK110 BK111 BK112 BK113 HB hHeld ⊢
                      refine pure_ (i := 2) (N := some 126) (v := ?_) (a' := ?_) #[false, false, true, false, false, false] rfl rfl (by kernel_rfl) (fun _ _ _ h => h) (Or.inl ⟨by rfl, ?_⟩) ?_ ?_
                      rotate_left
                      · intro w'
                        go_simp
                        with_reducible rfl
                      rotate_left
                      · simp only [Act.put, List.setIfInBounds_toArray, List.set_cons_zero, List.set_cons_succ, i64_w, i32_w]
                        rfl
                      refine take_ (i := 0) (N := some 124) (v := ?_) (a' := ?_) #[true, false, true, false, false, false] rfl rfl (by kernel_rfl) (fun _ _ _ h => h) (Or.inl ⟨by rfl, ?_⟩) hHeld ?_ ?_
                      rotate_left
                      · rintro w' ⟨s0, s1, s2, s3, s4⟩
                        go_simp
                        with_reducible rfl
                      rotate_left
                      · simp only [Act.put, List.setIfInBounds_toArray, List.set_cons_zero, List.set_cons_succ, i64_w, i32_w]
                        rfl
                      refine take_ (i := 1) (N := some 125) (v := ?_) (a' := ?_) #[true, true, true, false, false, false] rfl rfl (by kernel_rfl) (fun _ _ _ h => h) (Or.inl ⟨by rfl, ?_⟩) hHeld ?_ ?_
                      rotate_left
                      · rintro w' ⟨s0, s1, s2, s3, s4⟩
                        go_simp
                        with_reducible rfl
                      rotate_left
                      · simp only [Act.put, List.setIfInBounds_toArray, List.set_cons_zero, List.set_cons_succ, i64_w, i32_w]
                        rfl
                      refine one_ (i := 3) (N := none) #[true, true, true, true, false, false] rfl rfl (by kernel_rfl) (by decide) (fun K hK => ?_)
                      have hs203 : w202.cell? ⟨gb111, 0, none⟩ = some (.int .i64 0) := (blk_cell BK111.out 0).trans rfl
                      have hfs203 := blk_frozen BK111.out 0
                      have hns203_0 := NB109_111.out
                      have hns203_1 := NB110_111.out
                      have hns203_3 := NB112_111.out
                      have hns203_4 := NB113_111.out
                      have hms203_0 := NB111_109.out
                      have hms203_1 := NB111_110.out
                      have hms203_3 := NB111_112.out
                      have hms203_4 := NB111_113.out
                      have hs204 : w202.cell? ⟨gb111, 1, none⟩ = some (.int .i64 0) := (blk_cell BK111.out 1).trans rfl
                      have hfs204 := blk_frozen BK111.out 1
                      have hns204_0 := NB109_111.out
                      have hns204_1 := NB110_111.out
                      have hns204_3 := NB112_111.out
                      have hns204_4 := NB113_111.out
                      have hms204_0 := NB111_109.out
                      have hms204_1 := NB111_110.out
                      have hms204_3 := NB111_112.out
                      have hms204_4 := NB111_113.out
                      refine skip_ (w1 := ?_) (by rfl) rfl ?_ ?_
                      rotate_left
                      · go_simp
                        rfl
                      refine hK.out _ _ ⟨((cell_far (p := ⟨gb111, _, none⟩) NB109_111.out _).trans (((cell_far (p := ⟨gb111, _, none⟩) NB109_111.out _).trans (hHeld.1)))), ((cell_far (p := ⟨gb111, _, none⟩) NB109_111.out _).trans (((cell_far (p := ⟨gb111, _, none⟩) NB109_111.out _).trans (hHeld.2.1)))), ((cell_far (p := ⟨gb111, _, none⟩) NB113_111.out _).trans (((cell_far (p := ⟨gb111, _, none⟩) NB113_111.out _).trans (hHeld.2.2.1)))), ((cell_far (p := ⟨gb111, _, none⟩) NB113_111.out _).trans (((cell_far (p := ⟨gb111, _, none⟩) NB113_111.out _).trans (hHeld.2.2.2.1)))), ((cell_far (p := ⟨gb111, _, none⟩) NB113_111.out _).trans (((cell_far (p := ⟨gb111, _, none⟩) NB113_111.out _).trans (hHeld.2.2.2.2))))⟩ (fun hHeld => ?_)
                      clear hK K
                      refine one_ (i := 4) (N := none) #[true, true, true, true, true, false] rfl rfl (by kernel_rfl) (by decide) (fun K hK => ?_)
                      have hs205 : w202.cell? ⟨gb112, 0, none⟩ = some (.int .i64 0) := (blk_cell BK112.out 0).trans rfl
                      have hfs205 := blk_frozen BK112.out 0
                      have hns205_0 := NB109_112.out
                      have hns205_1 := NB110_112.out
                      have hns205_2 := NB111_112.out
                      have hns205_4 := NB113_112.out
                      have hms205_0 := NB112_109.out
                      have hms205_1 := NB112_110.out
                      have hms205_2 := NB112_111.out
                      have hms205_4 := NB112_113.out
                      have hs206 : w202.cell? ⟨gb112, 1, none⟩ = some (.int .i64 0) := (blk_cell BK112.out 1).trans rfl
                      have hfs206 := blk_frozen BK112.out 1
                      have hns206_0 := NB109_112.out
                      have hns206_1 := NB110_112.out
                      have hns206_2 := NB111_112.out
                      have hns206_4 := NB113_112.out
                      have hms206_0 := NB112_109.out
                      have hms206_1 := NB112_110.out
                      have hms206_2 := NB112_111.out
                      have hms206_4 := NB112_113.out
                      have hs207 : w202.cell? ⟨gb112, 2, none⟩ = some (.string (⟨#[]⟩ : ByteArray)) := (blk_cell BK112.out 2).trans rfl
                      have hfs207 := blk_frozen BK112.out 2
                      have hns207_0 := NB109_112.out
                      have hns207_1 := NB110_112.out
                      have hns207_2 := NB111_112.out
                      have hns207_4 := NB113_112.out
                      have hms207_0 := NB112_109.out
                      have hms207_1 := NB112_110.out
                      have hms207_2 := NB112_111.out
                      have hms207_4 := NB112_113.out
                      refine skip_ (w1 := ?_) (by rfl) rfl ?_ ?_
                      rotate_left
                      · go_simp
                        rfl
                      refine hK.out _ _ ⟨((cell_far (p := ⟨gb112, _, none⟩) NB109_112.out _).trans (((cell_far (p := ⟨gb112, _, none⟩) NB109_112.out _).trans (((cell_far (p := ⟨gb112, _, none⟩) NB109_112.out _).trans (hHeld.1)))))), ((cell_far (p := ⟨gb112, _, none⟩) NB109_112.out _).trans (((cell_far (p := ⟨gb112, _, none⟩) NB109_112.out _).trans (((cell_far (p := ⟨gb112, _, none⟩) NB109_112.out _).trans (hHeld.2.1)))))), ((cell_far (p := ⟨gb112, _, none⟩) NB113_112.out _).trans (((cell_far (p := ⟨gb112, _, none⟩) NB113_112.out _).trans (((cell_far (p := ⟨gb112, _, none⟩) NB113_112.out _).trans (hHeld.2.2.1)))))), ((cell_far (p := ⟨gb112, _, none⟩) NB113_112.out _).trans (((cell_far (p := ⟨gb112, _, none⟩) NB113_112.out _).trans (((cell_far (p := ⟨gb112, _, none⟩) NB113_112.out _).trans (hHeld.2.2.2.1)))))), ((cell_far (p := ⟨gb112, _, none⟩) NB113_112.out _).trans (((cell_far (p := ⟨gb112, _, none⟩) NB113_112.out _).trans (((cell_far (p := ⟨gb112, _, none⟩) NB113_112.out _).trans (hHeld.2.2.2.2))))))⟩ (fun hHeld => ?_)
                      clear hK K
                      refine pure_ (i := 5) (N := some 8) (v := ?_) (a' := ?_) #[true, true, true, true, true, true] rfl rfl (by kernel_rfl) (fun _ _ _ h => h) (Or.inl ⟨by rfl, ?_⟩) ?_ ?_
                      rotate_left
                      · intro w'
                        go_simp
                        with_reducible rfl
                      rotate_left
                      · simp only [Act.put, List.setIfInBounds_toArray, List.set_cons_zero, List.set_cons_succ, i64_w, i32_w]
                        rfl
                      refine done_ (by kernel_rfl) ?_
                      try go_wp2
                      refine bodyPost_ret (results_list (rs := [.cell 6 44, .cell 7 46, .tmp 8]) rfl (by simp) (.cell gb111 44 #[.int .i64 a1_0, .int .i64 a1_1] (0, 0) _ rfl (by (with_reducible repeat (first | refine blk_drewN ?_ _ | refine blk_drew ?_ | refine blk_alloc ?_ _)); refine blk_far ?_ NB111_112.out _; (with_reducible repeat (first | refine blk_drewN ?_ _ | refine blk_drew ?_ | refine blk_alloc ?_ _)); refine blk_far ?_ NB111_112.out _; (with_reducible repeat (first | refine blk_drewN ?_ _ | refine blk_drew ?_ | refine blk_alloc ?_ _)); refine blk_far ?_ NB111_112.out _; (with_reducible repeat (first | refine blk_drewN ?_ _ | refine blk_drew ?_ | refine blk_alloc ?_ _)); refine blk_put (cs := #[.int .i64 a1_0, .int .i64 0]) ?_ 1 _ rfl; (with_reducible repeat (first | refine blk_drewN ?_ _ | refine blk_drew ?_ | refine blk_alloc ?_ _)); refine blk_put (cs := #[.int .i64 0, .int .i64 0]) ?_ 0 _ rfl; (with_reducible repeat (first | refine blk_drewN ?_ _ | refine blk_drew ?_ | refine blk_alloc ?_ _)); exact BK111.out) Tryd.underlying44 rfl (by kernel_rfl) (.cell gb112 46 #[.int .i64 1, .int .i64 0, .string (⟨#[]⟩ : ByteArray)] (0, 0) _ rfl (by (with_reducible repeat (first | refine blk_drewN ?_ _ | refine blk_drew ?_ | refine blk_alloc ?_ _)); refine blk_put (cs := #[.int .i64 1, .int .i64 0, .string (⟨#[]⟩ : ByteArray)]) ?_ 2 _ rfl; (with_reducible repeat (first | refine blk_drewN ?_ _ | refine blk_drew ?_ | refine blk_alloc ?_ _)); refine blk_put (cs := #[.int .i64 1, .int .i64 0, .string (⟨#[]⟩ : ByteArray)]) ?_ 1 _ rfl; (with_reducible repeat (first | refine blk_drewN ?_ _ | refine blk_drew ?_ | refine blk_alloc ?_ _)); refine blk_put (cs := #[.int .i64 0, .int .i64 0, .string (⟨#[]⟩ : ByteArray)]) ?_ 0 _ rfl; (with_reducible repeat (first | refine blk_drewN ?_ _ | refine blk_drew ?_ | refine blk_alloc ?_ _)); refine blk_far ?_ NB112_111.out _; (with_reducible repeat (first | refine blk_drewN ?_ _ | refine blk_drew ?_ | refine blk_alloc ?_ _)); refine blk_far ?_ NB112_111.out _; (with_reducible repeat (first | refine blk_drewN ?_ _ | refine blk_drew ?_ | refine blk_alloc ?_ _)); exact BK112.out) Tryd.underlying46 rfl (by kernel_rfl) (.tmp .nil)))) rfl ?_
                      exact ⟨by first | rfl | (simp [errW_none, errW_some] <;> rfl) | (simp [*, errW_none, errW_some] <;> rfl), by repeat (first | (with_reducible first | exact HB.out | apply below_alloc | apply pw_below_drewN | apply below_drew1 | refine below_set ?_ GE109.out | refine below_set ?_ GE110.out | refine below_set ?_ GE111.out | refine below_set ?_ GE112.out | refine below_set ?_ GE113.out) | exact HB.out)⟩
                    · rw [if_neg c191] at H
                      have c191b0 : ((wrap64 (a1_1 + a2_1)) == (l0.length : Int)) = false := beq_eq_false_iff_ne.mpr c191
                      have c191b1 : ((wrap64 (a1_1 + a2_1)) != (l0.length : Int)) = true := bne_iff_ne.mpr c191
                      simp only [Option.some.injEq, Prod.mk.injEq] at H
                      obtain ⟨rfl, rfl, rfl, rfl, rfl, rfl⟩ := H
                      have hnb208 := NB110_109.out
                      have hnc208 := NB109_110.out
                      have hnb209 := NB110_111.out
                      have hnc209 := NB111_110.out
                      have hnb210 := NB110_112.out
                      have hnc210 := NB112_110.out
                      have hnb211 := NB110_113.out
                      have hnc211 := NB113_110.out
                      have hcz212_0 : wc.cell? ⟨gb110, 0, none⟩ = some (.int .i64 a2_0) := (blk_cell BK110.out 0).trans rfl
                      have hcz212_1 : wc.cell? ⟨gb110, 1, none⟩ = some (.int .i64 a2_1) := (blk_cell BK110.out 1).trans rfl
                      have hfz212_0 := blk_frozen BK110.out 0
                      have hfz212_1 := blk_frozen BK110.out 1
                      try go_wp2
                      have n0_ := Aside0.mk (blk_drew BK109.out)
                      have n1_ := Aside0.mk (blk_drew BK110.out)
                      have n2_ := Aside0.mk (blk_drew BK111.out)
                      have n3_ := Aside0.mk (blk_drew BK112.out)
                      have n4_ := Aside0.mk (blk_drew BK113.out)
                      have n5_ := Aside0.mk (below_drew1 HB.out)
                      clear BK109
                      clear BK110
                      clear BK111
                      clear BK112
                      clear BK113
                      clear HB
                      have BK109 := n0_
                      have BK110 := n1_
                      have BK111 := n2_
                      have BK112 := n3_
                      have BK113 := n4_
                      have HB := n5_
                      clear n0_ n1_ n2_ n3_ n4_ n5_
                      refine start_ (n := 6) (S := fun w' => w'.cell? ⟨gb109, 0, none⟩ = some (.int .i64 a1_0) ∧ w'.cell? ⟨gb109, 1, none⟩ = some (.int .i64 a1_1) ∧ w'.cell? ⟨gb113, 0, none⟩ = some (.int .i64 0) ∧ w'.cell? ⟨gb113, 1, none⟩ = some (.int .i64 0) ∧ w'.cell? ⟨gb113, 2, none⟩ = some (.string (⟨#[]⟩ : ByteArray))) (ds := []) #[false, false, false, false, false, false] (by kernel_rfl) rfl rfl ⟨(blk_cell BK109.out 0).trans rfl, (blk_cell BK109.out 1).trans rfl, (blk_cell BK113.out 0).trans rfl, (blk_cell BK113.out 1).trans rfl, (blk_cell BK113.out 2).trans rfl⟩ (fun hHeld => ?_)
                      generalize wc.drew = w213 at BK109 BK110 BK111 BK112 BK113 HB hHeld ⊢
                      refine pure_ (i := 2) (N := some 126) (v := ?_) (a' := ?_) #[false, false, true, false, false, false] rfl rfl (by kernel_rfl) (fun _ _ _ h => h) (Or.inl ⟨by rfl, ?_⟩) ?_ ?_
                      rotate_left
                      · intro w'
                        go_simp
                        with_reducible rfl
                      rotate_left
                      · simp only [Act.put, List.setIfInBounds_toArray, List.set_cons_zero, List.set_cons_succ, i64_w, i32_w]
                        rfl
                      refine take_ (i := 0) (N := some 124) (v := ?_) (a' := ?_) #[true, false, true, false, false, false] rfl rfl (by kernel_rfl) (fun _ _ _ h => h) (Or.inl ⟨by rfl, ?_⟩) hHeld ?_ ?_
                      rotate_left
                      · rintro w' ⟨s0, s1, s2, s3, s4⟩
                        go_simp
                        with_reducible rfl
                      rotate_left
                      · simp only [Act.put, List.setIfInBounds_toArray, List.set_cons_zero, List.set_cons_succ, i64_w, i32_w]
                        rfl
                      refine take_ (i := 1) (N := some 125) (v := ?_) (a' := ?_) #[true, true, true, false, false, false] rfl rfl (by kernel_rfl) (fun _ _ _ h => h) (Or.inl ⟨by rfl, ?_⟩) hHeld ?_ ?_
                      rotate_left
                      · rintro w' ⟨s0, s1, s2, s3, s4⟩
                        go_simp
                        with_reducible rfl
                      rotate_left
                      · simp only [Act.put, List.setIfInBounds_toArray, List.set_cons_zero, List.set_cons_succ, i64_w, i32_w]
                        rfl
                      refine one_ (i := 3) (N := none) #[true, true, true, true, false, false] rfl rfl (by kernel_rfl) (by decide) (fun K hK => ?_)
                      have hs214 : w213.cell? ⟨gb111, 0, none⟩ = some (.int .i64 0) := (blk_cell BK111.out 0).trans rfl
                      have hfs214 := blk_frozen BK111.out 0
                      have hns214_0 := NB109_111.out
                      have hns214_1 := NB110_111.out
                      have hns214_3 := NB112_111.out
                      have hns214_4 := NB113_111.out
                      have hms214_0 := NB111_109.out
                      have hms214_1 := NB111_110.out
                      have hms214_3 := NB111_112.out
                      have hms214_4 := NB111_113.out
                      have hs215 : w213.cell? ⟨gb111, 1, none⟩ = some (.int .i64 0) := (blk_cell BK111.out 1).trans rfl
                      have hfs215 := blk_frozen BK111.out 1
                      have hns215_0 := NB109_111.out
                      have hns215_1 := NB110_111.out
                      have hns215_3 := NB112_111.out
                      have hns215_4 := NB113_111.out
                      have hms215_0 := NB111_109.out
                      have hms215_1 := NB111_110.out
                      have hms215_3 := NB111_112.out
                      have hms215_4 := NB111_113.out
                      refine skip_ (w1 := ?_) (by rfl) rfl ?_ ?_
                      rotate_left
                      · go_simp
                        rfl
                      refine hK.out _ _ ⟨((cell_far (p := ⟨gb111, _, none⟩) NB109_111.out _).trans (((cell_far (p := ⟨gb111, _, none⟩) NB109_111.out _).trans (hHeld.1)))), ((cell_far (p := ⟨gb111, _, none⟩) NB109_111.out _).trans (((cell_far (p := ⟨gb111, _, none⟩) NB109_111.out _).trans (hHeld.2.1)))), ((cell_far (p := ⟨gb111, _, none⟩) NB113_111.out _).trans (((cell_far (p := ⟨gb111, _, none⟩) NB113_111.out _).trans (hHeld.2.2.1)))), ((cell_far (p := ⟨gb111, _, none⟩) NB113_111.out _).trans (((cell_far (p := ⟨gb111, _, none⟩) NB113_111.out _).trans (hHeld.2.2.2.1)))), ((cell_far (p := ⟨gb111, _, none⟩) NB113_111.out _).trans (((cell_far (p := ⟨gb111, _, none⟩) NB113_111.out _).trans (hHeld.2.2.2.2))))⟩ (fun hHeld => ?_)
                      clear hK K
                      refine one_ (i := 4) (N := none) #[true, true, true, true, true, false] rfl rfl (by kernel_rfl) (by decide) (fun K hK => ?_)
                      have hs216 : w213.cell? ⟨gb112, 0, none⟩ = some (.int .i64 0) := (blk_cell BK112.out 0).trans rfl
                      have hfs216 := blk_frozen BK112.out 0
                      have hns216_0 := NB109_112.out
                      have hns216_1 := NB110_112.out
                      have hns216_2 := NB111_112.out
                      have hns216_4 := NB113_112.out
                      have hms216_0 := NB112_109.out
                      have hms216_1 := NB112_110.out
                      have hms216_2 := NB112_111.out
                      have hms216_4 := NB112_113.out
                      have hs217 : w213.cell? ⟨gb112, 1, none⟩ = some (.int .i64 0) := (blk_cell BK112.out 1).trans rfl
                      have hfs217 := blk_frozen BK112.out 1
                      have hns217_0 := NB109_112.out
                      have hns217_1 := NB110_112.out
                      have hns217_2 := NB111_112.out
                      have hns217_4 := NB113_112.out
                      have hms217_0 := NB112_109.out
                      have hms217_1 := NB112_110.out
                      have hms217_2 := NB112_111.out
                      have hms217_4 := NB112_113.out
                      have hs218 : w213.cell? ⟨gb112, 2, none⟩ = some (.string (⟨#[]⟩ : ByteArray)) := (blk_cell BK112.out 2).trans rfl
                      have hfs218 := blk_frozen BK112.out 2
                      have hns218_0 := NB109_112.out
                      have hns218_1 := NB110_112.out
                      have hns218_2 := NB111_112.out
                      have hns218_4 := NB113_112.out
                      have hms218_0 := NB112_109.out
                      have hms218_1 := NB112_110.out
                      have hms218_2 := NB112_111.out
                      have hms218_4 := NB112_113.out
                      refine skip_ (w1 := ?_) (by rfl) rfl ?_ ?_
                      rotate_left
                      · go_simp
                        rfl
                      refine hK.out _ _ ⟨((cell_far (p := ⟨gb112, _, none⟩) NB109_112.out _).trans (((cell_far (p := ⟨gb112, _, none⟩) NB109_112.out _).trans (((cell_far (p := ⟨gb112, _, none⟩) NB109_112.out _).trans (hHeld.1)))))), ((cell_far (p := ⟨gb112, _, none⟩) NB109_112.out _).trans (((cell_far (p := ⟨gb112, _, none⟩) NB109_112.out _).trans (((cell_far (p := ⟨gb112, _, none⟩) NB109_112.out _).trans (hHeld.2.1)))))), ((cell_far (p := ⟨gb112, _, none⟩) NB113_112.out _).trans (((cell_far (p := ⟨gb112, _, none⟩) NB113_112.out _).trans (((cell_far (p := ⟨gb112, _, none⟩) NB113_112.out _).trans (hHeld.2.2.1)))))), ((cell_far (p := ⟨gb112, _, none⟩) NB113_112.out _).trans (((cell_far (p := ⟨gb112, _, none⟩) NB113_112.out _).trans (((cell_far (p := ⟨gb112, _, none⟩) NB113_112.out _).trans (hHeld.2.2.2.1)))))), ((cell_far (p := ⟨gb112, _, none⟩) NB113_112.out _).trans (((cell_far (p := ⟨gb112, _, none⟩) NB113_112.out _).trans (((cell_far (p := ⟨gb112, _, none⟩) NB113_112.out _).trans (hHeld.2.2.2.2))))))⟩ (fun hHeld => ?_)
                      clear hK K
                      refine pure_ (i := 5) (N := some 8) (v := ?_) (a' := ?_) #[true, true, true, true, true, true] rfl rfl (by kernel_rfl) (fun _ _ _ h => h) (Or.inl ⟨by rfl, ?_⟩) ?_ ?_
                      rotate_left
                      · intro w'
                        go_simp
                        with_reducible rfl
                      rotate_left
                      · simp only [Act.put, List.setIfInBounds_toArray, List.set_cons_zero, List.set_cons_succ, i64_w, i32_w]
                        rfl
                      refine done_ (by kernel_rfl) ?_
                      try go_wp2
                      refine bodyPost_ret (results_list (rs := [.cell 6 44, .cell 7 46, .tmp 8]) rfl (by simp) (.cell gb111 44 #[.int .i64 a1_0, .int .i64 a1_1] (0, 0) _ rfl (by (with_reducible repeat (first | refine blk_drewN ?_ _ | refine blk_drew ?_ | refine blk_alloc ?_ _)); refine blk_far ?_ NB111_112.out _; (with_reducible repeat (first | refine blk_drewN ?_ _ | refine blk_drew ?_ | refine blk_alloc ?_ _)); refine blk_far ?_ NB111_112.out _; (with_reducible repeat (first | refine blk_drewN ?_ _ | refine blk_drew ?_ | refine blk_alloc ?_ _)); refine blk_far ?_ NB111_112.out _; (with_reducible repeat (first | refine blk_drewN ?_ _ | refine blk_drew ?_ | refine blk_alloc ?_ _)); refine blk_put (cs := #[.int .i64 a1_0, .int .i64 0]) ?_ 1 _ rfl; (with_reducible repeat (first | refine blk_drewN ?_ _ | refine blk_drew ?_ | refine blk_alloc ?_ _)); refine blk_put (cs := #[.int .i64 0, .int .i64 0]) ?_ 0 _ rfl; (with_reducible repeat (first | refine blk_drewN ?_ _ | refine blk_drew ?_ | refine blk_alloc ?_ _)); exact BK111.out) Tryd.underlying44 rfl (by kernel_rfl) (.cell gb112 46 #[.int .i64 0, .int .i64 0, .string (⟨#[]⟩ : ByteArray)] (0, 0) _ rfl (by (with_reducible repeat (first | refine blk_drewN ?_ _ | refine blk_drew ?_ | refine blk_alloc ?_ _)); refine blk_put (cs := #[.int .i64 0, .int .i64 0, .string (⟨#[]⟩ : ByteArray)]) ?_ 2 _ rfl; (with_reducible repeat (first | refine blk_drewN ?_ _ | refine blk_drew ?_ | refine blk_alloc ?_ _)); refine blk_put (cs := #[.int .i64 0, .int .i64 0, .string (⟨#[]⟩ : ByteArray)]) ?_ 1 _ rfl; (with_reducible repeat (first | refine blk_drewN ?_ _ | refine blk_drew ?_ | refine blk_alloc ?_ _)); refine blk_put (cs := #[.int .i64 0, .int .i64 0, .string (⟨#[]⟩ : ByteArray)]) ?_ 0 _ rfl; (with_reducible repeat (first | refine blk_drewN ?_ _ | refine blk_drew ?_ | refine blk_alloc ?_ _)); refine blk_far ?_ NB112_111.out _; (with_reducible repeat (first | refine blk_drewN ?_ _ | refine blk_drew ?_ | refine blk_alloc ?_ _)); refine blk_far ?_ NB112_111.out _; (with_reducible repeat (first | refine blk_drewN ?_ _ | refine blk_drew ?_ | refine blk_alloc ?_ _)); exact BK112.out) Tryd.underlying46 rfl (by kernel_rfl) (.tmp .nil)))) rfl ?_
                      exact ⟨by first | rfl | (simp [errW_none, errW_some] <;> rfl) | (simp [*, errW_none, errW_some] <;> rfl), by repeat (first | (with_reducible first | exact HB.out | apply below_alloc | apply pw_below_drewN | apply below_drew1 | refine below_set ?_ GE109.out | refine below_set ?_ GE110.out | refine below_set ?_ GE111.out | refine below_set ?_ GE112.out | refine below_set ?_ GE113.out) | exact HB.out)⟩
                  · replace c190 := Bool.eq_false_iff.mpr c190
                    subst c190
                    have H1 : (some (a1_0, a1_1, 0, 0, (⟨#[]⟩ : ByteArray), false)) = some (r1, r2, r3, r4, r5, r6) := by rw [if_neg (show ¬ (false = true) by decide)] at H; exact H
                    clear H
                    have H := H1
                    clear H1
                    simp only [Option.some.injEq, Prod.mk.injEq] at H
                    obtain ⟨rfl, rfl, rfl, rfl, rfl, rfl⟩ := H
                    have hnb219 := NB110_109.out
                    have hnc219 := NB109_110.out
                    have hnb220 := NB110_111.out
                    have hnc220 := NB111_110.out
                    have hnb221 := NB110_112.out
                    have hnc221 := NB112_110.out
                    have hnb222 := NB110_113.out
                    have hnc222 := NB113_110.out
                    have hcz223_0 : wc.cell? ⟨gb110, 0, none⟩ = some (.int .i64 a2_0) := (blk_cell BK110.out 0).trans rfl
                    have hcz223_1 : wc.cell? ⟨gb110, 1, none⟩ = some (.int .i64 a2_1) := (blk_cell BK110.out 1).trans rfl
                    have hfz223_0 := blk_frozen BK110.out 0
                    have hfz223_1 := blk_frozen BK110.out 1
                    try go_wp2
                    have n0_ := Aside0.mk (blk_drew BK109.out)
                    have n1_ := Aside0.mk (blk_drew BK110.out)
                    have n2_ := Aside0.mk (blk_drew BK111.out)
                    have n3_ := Aside0.mk (blk_drew BK112.out)
                    have n4_ := Aside0.mk (blk_drew BK113.out)
                    have n5_ := Aside0.mk (below_drew1 HB.out)
                    clear BK109
                    clear BK110
                    clear BK111
                    clear BK112
                    clear BK113
                    clear HB
                    have BK109 := n0_
                    have BK110 := n1_
                    have BK111 := n2_
                    have BK112 := n3_
                    have BK113 := n4_
                    have HB := n5_
                    clear n0_ n1_ n2_ n3_ n4_ n5_
                    refine start_ (n := 6) (S := fun w' => w'.cell? ⟨gb109, 0, none⟩ = some (.int .i64 a1_0) ∧ w'.cell? ⟨gb109, 1, none⟩ = some (.int .i64 a1_1) ∧ w'.cell? ⟨gb113, 0, none⟩ = some (.int .i64 0) ∧ w'.cell? ⟨gb113, 1, none⟩ = some (.int .i64 0) ∧ w'.cell? ⟨gb113, 2, none⟩ = some (.string (⟨#[]⟩ : ByteArray))) (ds := []) #[false, false, false, false, false, false] (by kernel_rfl) rfl rfl ⟨(blk_cell BK109.out 0).trans rfl, (blk_cell BK109.out 1).trans rfl, (blk_cell BK113.out 0).trans rfl, (blk_cell BK113.out 1).trans rfl, (blk_cell BK113.out 2).trans rfl⟩ (fun hHeld => ?_)
                    generalize wc.drew = w224 at BK109 BK110 BK111 BK112 BK113 HB hHeld ⊢
                    refine pure_ (i := 2) (N := some 126) (v := ?_) (a' := ?_) #[false, false, true, false, false, false] rfl rfl (by kernel_rfl) (fun _ _ _ h => h) (Or.inl ⟨by rfl, ?_⟩) ?_ ?_
                    rotate_left
                    · intro w'
                      go_simp
                      with_reducible rfl
                    rotate_left
                    · simp only [Act.put, List.setIfInBounds_toArray, List.set_cons_zero, List.set_cons_succ, i64_w, i32_w]
                      rfl
                    refine take_ (i := 0) (N := some 124) (v := ?_) (a' := ?_) #[true, false, true, false, false, false] rfl rfl (by kernel_rfl) (fun _ _ _ h => h) (Or.inl ⟨by rfl, ?_⟩) hHeld ?_ ?_
                    rotate_left
                    · rintro w' ⟨s0, s1, s2, s3, s4⟩
                      go_simp
                      with_reducible rfl
                    rotate_left
                    · simp only [Act.put, List.setIfInBounds_toArray, List.set_cons_zero, List.set_cons_succ, i64_w, i32_w]
                      rfl
                    refine take_ (i := 1) (N := some 125) (v := ?_) (a' := ?_) #[true, true, true, false, false, false] rfl rfl (by kernel_rfl) (fun _ _ _ h => h) (Or.inl ⟨by rfl, ?_⟩) hHeld ?_ ?_
                    rotate_left
                    · rintro w' ⟨s0, s1, s2, s3, s4⟩
                      go_simp
                      with_reducible rfl
                    rotate_left
                    · simp only [Act.put, List.setIfInBounds_toArray, List.set_cons_zero, List.set_cons_succ, i64_w, i32_w]
                      rfl
                    refine one_ (i := 3) (N := none) #[true, true, true, true, false, false] rfl rfl (by kernel_rfl) (by decide) (fun K hK => ?_)
                    have hs225 : w224.cell? ⟨gb111, 0, none⟩ = some (.int .i64 0) := (blk_cell BK111.out 0).trans rfl
                    have hfs225 := blk_frozen BK111.out 0
                    have hns225_0 := NB109_111.out
                    have hns225_1 := NB110_111.out
                    have hns225_3 := NB112_111.out
                    have hns225_4 := NB113_111.out
                    have hms225_0 := NB111_109.out
                    have hms225_1 := NB111_110.out
                    have hms225_3 := NB111_112.out
                    have hms225_4 := NB111_113.out
                    have hs226 : w224.cell? ⟨gb111, 1, none⟩ = some (.int .i64 0) := (blk_cell BK111.out 1).trans rfl
                    have hfs226 := blk_frozen BK111.out 1
                    have hns226_0 := NB109_111.out
                    have hns226_1 := NB110_111.out
                    have hns226_3 := NB112_111.out
                    have hns226_4 := NB113_111.out
                    have hms226_0 := NB111_109.out
                    have hms226_1 := NB111_110.out
                    have hms226_3 := NB111_112.out
                    have hms226_4 := NB111_113.out
                    refine skip_ (w1 := ?_) (by rfl) rfl ?_ ?_
                    rotate_left
                    · go_simp
                      rfl
                    refine hK.out _ _ ⟨((cell_far (p := ⟨gb111, _, none⟩) NB109_111.out _).trans (((cell_far (p := ⟨gb111, _, none⟩) NB109_111.out _).trans (hHeld.1)))), ((cell_far (p := ⟨gb111, _, none⟩) NB109_111.out _).trans (((cell_far (p := ⟨gb111, _, none⟩) NB109_111.out _).trans (hHeld.2.1)))), ((cell_far (p := ⟨gb111, _, none⟩) NB113_111.out _).trans (((cell_far (p := ⟨gb111, _, none⟩) NB113_111.out _).trans (hHeld.2.2.1)))), ((cell_far (p := ⟨gb111, _, none⟩) NB113_111.out _).trans (((cell_far (p := ⟨gb111, _, none⟩) NB113_111.out _).trans (hHeld.2.2.2.1)))), ((cell_far (p := ⟨gb111, _, none⟩) NB113_111.out _).trans (((cell_far (p := ⟨gb111, _, none⟩) NB113_111.out _).trans (hHeld.2.2.2.2))))⟩ (fun hHeld => ?_)
                    clear hK K
                    refine one_ (i := 4) (N := none) #[true, true, true, true, true, false] rfl rfl (by kernel_rfl) (by decide) (fun K hK => ?_)
                    have hs227 : w224.cell? ⟨gb112, 0, none⟩ = some (.int .i64 0) := (blk_cell BK112.out 0).trans rfl
                    have hfs227 := blk_frozen BK112.out 0
                    have hns227_0 := NB109_112.out
                    have hns227_1 := NB110_112.out
                    have hns227_2 := NB111_112.out
                    have hns227_4 := NB113_112.out
                    have hms227_0 := NB112_109.out
                    have hms227_1 := NB112_110.out
                    have hms227_2 := NB112_111.out
                    have hms227_4 := NB112_113.out
                    have hs228 : w224.cell? ⟨gb112, 1, none⟩ = some (.int .i64 0) := (blk_cell BK112.out 1).trans rfl
                    have hfs228 := blk_frozen BK112.out 1
                    have hns228_0 := NB109_112.out
                    have hns228_1 := NB110_112.out
                    have hns228_2 := NB111_112.out
                    have hns228_4 := NB113_112.out
                    have hms228_0 := NB112_109.out
                    have hms228_1 := NB112_110.out
                    have hms228_2 := NB112_111.out
                    have hms228_4 := NB112_113.out
                    have hs229 : w224.cell? ⟨gb112, 2, none⟩ = some (.string (⟨#[]⟩ : ByteArray)) := (blk_cell BK112.out 2).trans rfl
                    have hfs229 := blk_frozen BK112.out 2
                    have hns229_0 := NB109_112.out
                    have hns229_1 := NB110_112.out
                    have hns229_2 := NB111_112.out
                    have hns229_4 := NB113_112.out
                    have hms229_0 := NB112_109.out
                    have hms229_1 := NB112_110.out
                    have hms229_2 := NB112_111.out
                    have hms229_4 := NB112_113.out
                    refine skip_ (w1 := ?_) (by rfl) rfl ?_ ?_
                    rotate_left
                    · go_simp
                      rfl
                    refine hK.out _ _ ⟨((cell_far (p := ⟨gb112, _, none⟩) NB109_112.out _).trans (((cell_far (p := ⟨gb112, _, none⟩) NB109_112.out _).trans (((cell_far (p := ⟨gb112, _, none⟩) NB109_112.out _).trans (hHeld.1)))))), ((cell_far (p := ⟨gb112, _, none⟩) NB109_112.out _).trans (((cell_far (p := ⟨gb112, _, none⟩) NB109_112.out _).trans (((cell_far (p := ⟨gb112, _, none⟩) NB109_112.out _).trans (hHeld.2.1)))))), ((cell_far (p := ⟨gb112, _, none⟩) NB113_112.out _).trans (((cell_far (p := ⟨gb112, _, none⟩) NB113_112.out _).trans (((cell_far (p := ⟨gb112, _, none⟩) NB113_112.out _).trans (hHeld.2.2.1)))))), ((cell_far (p := ⟨gb112, _, none⟩) NB113_112.out _).trans (((cell_far (p := ⟨gb112, _, none⟩) NB113_112.out _).trans (((cell_far (p := ⟨gb112, _, none⟩) NB113_112.out _).trans (hHeld.2.2.2.1)))))), ((cell_far (p := ⟨gb112, _, none⟩) NB113_112.out _).trans (((cell_far (p := ⟨gb112, _, none⟩) NB113_112.out _).trans (((cell_far (p := ⟨gb112, _, none⟩) NB113_112.out _).trans (hHeld.2.2.2.2))))))⟩ (fun hHeld => ?_)
                    clear hK K
                    refine pure_ (i := 5) (N := some 8) (v := ?_) (a' := ?_) #[true, true, true, true, true, true] rfl rfl (by kernel_rfl) (fun _ _ _ h => h) (Or.inl ⟨by rfl, ?_⟩) ?_ ?_
                    rotate_left
                    · intro w'
                      go_simp
                      with_reducible rfl
                    rotate_left
                    · simp only [Act.put, List.setIfInBounds_toArray, List.set_cons_zero, List.set_cons_succ, i64_w, i32_w]
                      rfl
                    refine done_ (by kernel_rfl) ?_
                    try go_wp2
                    refine bodyPost_ret (results_list (rs := [.cell 6 44, .cell 7 46, .tmp 8]) rfl (by simp) (.cell gb111 44 #[.int .i64 a1_0, .int .i64 a1_1] (0, 0) _ rfl (by (with_reducible repeat (first | refine blk_drewN ?_ _ | refine blk_drew ?_ | refine blk_alloc ?_ _)); refine blk_far ?_ NB111_112.out _; (with_reducible repeat (first | refine blk_drewN ?_ _ | refine blk_drew ?_ | refine blk_alloc ?_ _)); refine blk_far ?_ NB111_112.out _; (with_reducible repeat (first | refine blk_drewN ?_ _ | refine blk_drew ?_ | refine blk_alloc ?_ _)); refine blk_far ?_ NB111_112.out _; (with_reducible repeat (first | refine blk_drewN ?_ _ | refine blk_drew ?_ | refine blk_alloc ?_ _)); refine blk_put (cs := #[.int .i64 a1_0, .int .i64 0]) ?_ 1 _ rfl; (with_reducible repeat (first | refine blk_drewN ?_ _ | refine blk_drew ?_ | refine blk_alloc ?_ _)); refine blk_put (cs := #[.int .i64 0, .int .i64 0]) ?_ 0 _ rfl; (with_reducible repeat (first | refine blk_drewN ?_ _ | refine blk_drew ?_ | refine blk_alloc ?_ _)); exact BK111.out) Tryd.underlying44 rfl (by kernel_rfl) (.cell gb112 46 #[.int .i64 0, .int .i64 0, .string (⟨#[]⟩ : ByteArray)] (0, 0) _ rfl (by (with_reducible repeat (first | refine blk_drewN ?_ _ | refine blk_drew ?_ | refine blk_alloc ?_ _)); refine blk_put (cs := #[.int .i64 0, .int .i64 0, .string (⟨#[]⟩ : ByteArray)]) ?_ 2 _ rfl; (with_reducible repeat (first | refine blk_drewN ?_ _ | refine blk_drew ?_ | refine blk_alloc ?_ _)); refine blk_put (cs := #[.int .i64 0, .int .i64 0, .string (⟨#[]⟩ : ByteArray)]) ?_ 1 _ rfl; (with_reducible repeat (first | refine blk_drewN ?_ _ | refine blk_drew ?_ | refine blk_alloc ?_ _)); refine blk_put (cs := #[.int .i64 0, .int .i64 0, .string (⟨#[]⟩ : ByteArray)]) ?_ 0 _ rfl; (with_reducible repeat (first | refine blk_drewN ?_ _ | refine blk_drew ?_ | refine blk_alloc ?_ _)); refine blk_far ?_ NB112_111.out _; (with_reducible repeat (first | refine blk_drewN ?_ _ | refine blk_drew ?_ | refine blk_alloc ?_ _)); refine blk_far ?_ NB112_111.out _; (with_reducible repeat (first | refine blk_drewN ?_ _ | refine blk_drew ?_ | refine blk_alloc ?_ _)); exact BK112.out) Tryd.underlying46 rfl (by kernel_rfl) (.tmp .nil)))) rfl ?_
                    exact ⟨by first | rfl | (simp [errW_none, errW_some] <;> rfl) | (simp [*, errW_none, errW_some] <;> rfl), by repeat (first | (with_reducible first | exact HB.out | apply below_alloc | apply pw_below_drewN | apply below_drew1 | refine below_set ?_ GE109.out | refine below_set ?_ GE110.out | refine below_set ?_ GE111.out | refine below_set ?_ GE112.out | refine below_set ?_ GE113.out) | exact HB.out)⟩
                · rw [if_neg c189] at H
                  have c189b0 : (a2_0 == 5) = false := beq_eq_false_iff_ne.mpr c189
                  have c189b1 : (a2_0 != 5) = true := bne_iff_ne.mpr c189
                  by_cases c230 : a2_0 = 6
                  · rw [if_pos c230] at H
                    have c230b0 : (a2_0 == 6) = true := beq_iff_eq.mpr c230
                    have c230b1 : (a2_0 != 6) = false := bne_eq_false_iff_eq.mpr c230
                    clear c230
                    by_cases c231 : 0 ≤ a1_0
                    · rw [if_pos c231] at H
                      have c231b0 := eq_true c231
                      have c231b1 : decide (0 ≤ a1_0) = true := decide_eq_true c231
                      clear c231
                      by_cases c232 : a1_0 ≤ a1_1
                      · rw [if_pos c232] at H
                        have c232b0 := eq_true c232
                        have c232b1 : decide (a1_0 ≤ a1_1) = true := decide_eq_true c232
                        clear c232
                        by_cases c233 : a1_1 ≤ (l0.length : Int)
                        · rw [if_pos c233] at H
                          have c233b0 := eq_true c233
                          have c233b1 : decide (a1_1 ≤ (l0.length : Int)) = true := decide_eq_true c233
                          clear c233
                          simp only [Option.some.injEq, Prod.mk.injEq] at H
                          obtain ⟨rfl, rfl, rfl, rfl, rfl, rfl⟩ := H
                          have hnb234 := NB110_109.out
                          have hnc234 := NB109_110.out
                          have hnb235 := NB110_111.out
                          have hnc235 := NB111_110.out
                          have hnb236 := NB110_112.out
                          have hnc236 := NB112_110.out
                          have hnb237 := NB110_113.out
                          have hnc237 := NB113_110.out
                          have hcz238_0 : wc.cell? ⟨gb110, 0, none⟩ = some (.int .i64 a2_0) := (blk_cell BK110.out 0).trans rfl
                          have hcz238_1 : wc.cell? ⟨gb110, 1, none⟩ = some (.int .i64 a2_1) := (blk_cell BK110.out 1).trans rfl
                          have hfz238_0 := blk_frozen BK110.out 0
                          have hfz238_1 := blk_frozen BK110.out 1
                          have hnb239 := NB109_111.out
                          have hnc239 := NB111_109.out
                          have hnb240 := NB109_112.out
                          have hnc240 := NB112_109.out
                          have hnb241 := NB109_113.out
                          have hnc241 := NB113_109.out
                          have hcz242_0 : wc.cell? ⟨gb109, 0, none⟩ = some (.int .i64 a1_0) := (blk_cell BK109.out 0).trans rfl
                          have hcz242_1 : wc.cell? ⟨gb109, 1, none⟩ = some (.int .i64 a1_1) := (blk_cell BK109.out 1).trans rfl
                          have hfz242_0 := blk_frozen BK109.out 0
                          have hfz242_1 := blk_frozen BK109.out 1
                          obtain ⟨i0243, hi0243, _, hsz243, _⟩ := info_parts info5
                          obtain ⟨A243, hcut243, hA243, hC243⟩ := print_mid_of (P := Tryd.prog) (Value.int .u8) 0 22 5 .i64 .i64 Tryd.underlying22 hi0243 hsz243 A0 c0 l0 a1_0 a1_1 (of_decide_eq_true (by first | (with_reducible assumption) | assumption)) (by first | omega | exact of_decide_eq_true (by first | (with_reducible assumption) | assumption)) (of_decide_eq_true (by first | (with_reducible assumption) | assumption)) HC0.out
                          have HR116 := Aside0.mk (Kd.C_of_reads (h1 := fun _ => rfl) (hA243 _ (Kd.reads_of_C HR0.out)))
                          have HC116 := Aside0.mk hC243
                          clear hA243 hC243 hi0243 hsz243
                          have hcv244 := Kd.C_string (P := Tryd.prog) (A := A243) (c := (c0 - a1_0.toNat)) Tryd.underlying22 Tryd.underlying5 Tryd.underlying9 (Kd.C_below HR116.out HB.out)
                          have hln_ : (List.drop a1_0.toNat (List.take a1_1.toNat l0)).length = a1_1.toNat - a1_0.toNat := by
                            rw [List.length_drop, List.length_take]
                            have e1_ := of_eq_true c232b0
                            have e2_ := of_eq_true c233b0
                            omega
                          simp only [hln_] at hcut243 hcv244
                          clear hln_
                          have hnb245 := NB113_111.out
                          have hnc245 := NB111_113.out
                          have hnb246 := NB113_112.out
                          have hnc246 := NB112_113.out
                          have hcz247_0 : wc.cell? ⟨gb113, 0, none⟩ = some (.int .i64 0) := (blk_cell BK113.out 0).trans rfl
                          have hcz247_1 : wc.cell? ⟨gb113, 1, none⟩ = some (.int .i64 0) := (blk_cell BK113.out 1).trans rfl
                          have hcz247_2 : wc.cell? ⟨gb113, 2, none⟩ = some (.string (⟨#[]⟩ : ByteArray)) := (blk_cell BK113.out 2).trans rfl
                          have hfz247_0 := blk_frozen BK113.out 0
                          have hfz247_1 := blk_frozen BK113.out 1
                          have hfz247_2 := blk_frozen BK113.out 2
                          try go_wp2
                          have n0_ : Aside0 ((wc.setCell ⟨gb113, 2, none⟩ (.string (strOfNums ((l0.take (a1_1 : Int).toNat).drop (a1_0 : Int).toNat)))).heap[gb109]? = some (.cells #[.int .i64 a1_0, .int .i64 a1_1] 44 (0, 0))) := ⟨by (with_reducible repeat (first | refine blk_drewN ?_ _ | refine blk_drew ?_ | refine blk_alloc ?_ _)); refine blk_far ?_ NB109_113.out _; (with_reducible repeat (first | refine blk_drewN ?_ _ | refine blk_drew ?_ | refine blk_alloc ?_ _)); exact BK109.out⟩
                          have n1_ : Aside0 ((wc.setCell ⟨gb113, 2, none⟩ (.string (strOfNums ((l0.take (a1_1 : Int).toNat).drop (a1_0 : Int).toNat)))).heap[gb110]? = some (.cells #[.int .i64 a2_0, .int .i64 a2_1] 26 (0, 0))) := ⟨by (with_reducible repeat (first | refine blk_drewN ?_ _ | refine blk_drew ?_ | refine blk_alloc ?_ _)); refine blk_far ?_ NB110_113.out _; (with_reducible repeat (first | refine blk_drewN ?_ _ | refine blk_drew ?_ | refine blk_alloc ?_ _)); exact BK110.out⟩
                          have n2_ : Aside0 ((wc.setCell ⟨gb113, 2, none⟩ (.string (strOfNums ((l0.take (a1_1 : Int).toNat).drop (a1_0 : Int).toNat)))).heap[gb111]? = some (.cells #[.int .i64 0, .int .i64 0] 44 (0, 0))) := ⟨by (with_reducible repeat (first | refine blk_drewN ?_ _ | refine blk_drew ?_ | refine blk_alloc ?_ _)); refine blk_far ?_ NB111_113.out _; (with_reducible repeat (first | refine blk_drewN ?_ _ | refine blk_drew ?_ | refine blk_alloc ?_ _)); exact BK111.out⟩
                          have n3_ : Aside0 ((wc.setCell ⟨gb113, 2, none⟩ (.string (strOfNums ((l0.take (a1_1 : Int).toNat).drop (a1_0 : Int).toNat)))).heap[gb112]? = some (.cells #[.int .i64 0, .int .i64 0, .string (⟨#[]⟩ : ByteArray)] 46 (0, 0))) := ⟨by (with_reducible repeat (first | refine blk_drewN ?_ _ | refine blk_drew ?_ | refine blk_alloc ?_ _)); refine blk_far ?_ NB112_113.out _; (with_reducible repeat (first | refine blk_drewN ?_ _ | refine blk_drew ?_ | refine blk_alloc ?_ _)); exact BK112.out⟩
                          have n4_ : Aside0 ((wc.setCell ⟨gb113, 2, none⟩ (.string (strOfNums ((l0.take (a1_1 : Int).toNat).drop (a1_0 : Int).toNat)))).heap[gb113]? = some (.cells #[.int .i64 0, .int .i64 0, .string (strOfNums ((l0.take (a1_1 : Int).toNat).drop (a1_0 : Int).toNat))] 46 (0, 0))) := ⟨by (with_reducible repeat (first | refine blk_drewN ?_ _ | refine blk_drew ?_ | refine blk_alloc ?_ _)); refine blk_put (cs := #[.int .i64 0, .int .i64 0, .string (⟨#[]⟩ : ByteArray)]) ?_ 2 _ rfl; (with_reducible repeat (first | refine blk_drewN ?_ _ | refine blk_drew ?_ | refine blk_alloc ?_ _)); exact BK113.out⟩
                          have n5_ : Aside0 (Below w.heap.size w (wc.setCell ⟨gb113, 2, none⟩ (.string (strOfNums ((l0.take (a1_1 : Int).toNat).drop (a1_0 : Int).toNat))))) := ⟨by repeat (first | (with_reducible first | exact HB.out | apply below_alloc | apply pw_below_drewN | apply below_drew1 | refine below_set ?_ GE109.out | refine below_set ?_ GE110.out | refine below_set ?_ GE111.out | refine below_set ?_ GE112.out | refine below_set ?_ GE113.out) | exact HB.out)⟩
                          (try clear BK109)
                          (try clear BK110)
                          (try clear BK111)
                          (try clear BK112)
                          (try clear BK113)
                          (try clear HB)
                          generalize (wc.setCell ⟨gb113, 2, none⟩ (.string (strOfNums ((l0.take (a1_1 : Int).toNat).drop (a1_0 : Int).toNat)))) = w248 at n0_ n1_ n2_ n3_ n4_ n5_ ⊢
                          have BK109 := n0_
                          have BK110 := n1_
                          have BK111 := n2_
                          have BK112 := n3_
                          have BK113 := n4_
                          have HB := n5_
                          clear n0_ n1_ n2_ n3_ n4_ n5_
                          have n0_ := Aside0.mk (blk_drew BK109.out)
                          have n1_ := Aside0.mk (blk_drew BK110.out)
                          have n2_ := Aside0.mk (blk_drew BK111.out)
                          have n3_ := Aside0.mk (blk_drew BK112.out)
                          have n4_ := Aside0.mk (blk_drew BK113.out)
                          have n5_ := Aside0.mk (below_drew1 HB.out)
                          clear BK109
                          clear BK110
                          clear BK111
                          clear BK112
                          clear BK113
                          clear HB
                          have BK109 := n0_
                          have BK110 := n1_
                          have BK111 := n2_
                          have BK112 := n3_
                          have BK113 := n4_
                          have HB := n5_
                          clear n0_ n1_ n2_ n3_ n4_ n5_
                          refine start_ (n := 5) (S := fun w' => w'.cell? ⟨gb109, 0, none⟩ = some (.int .i64 a1_0) ∧ w'.cell? ⟨gb109, 1, none⟩ = some (.int .i64 a1_1) ∧ w'.cell? ⟨gb113, 0, none⟩ = some (.int .i64 0) ∧ w'.cell? ⟨gb113, 1, none⟩ = some (.int .i64 0) ∧ w'.cell? ⟨gb113, 2, none⟩ = some (.string (strOfNums ((l0.take (a1_1 : Int).toNat).drop (a1_0 : Int).toNat)))) (ds := []) #[false, false, false, false, false] (by kernel_rfl) rfl rfl ⟨(blk_cell BK109.out 0).trans rfl, (blk_cell BK109.out 1).trans rfl, (blk_cell BK113.out 0).trans rfl, (blk_cell BK113.out 1).trans rfl, (blk_cell BK113.out 2).trans rfl⟩ (fun hHeld => ?_)
                          generalize w248.drew = w249 at BK109 BK110 BK111 BK112 BK113 HB hHeld ⊢
                          refine take_ (i := 0) (N := some 191) (v := ?_) (a' := ?_) #[true, false, false, false, false] rfl rfl (by kernel_rfl) (fun _ _ _ h => h) (Or.inl ⟨by rfl, ?_⟩) hHeld ?_ ?_
                          rotate_left
                          · rintro w' ⟨s0, s1, s2, s3, s4⟩
                            go_simp
                            with_reducible rfl
                          rotate_left
                          · simp only [Act.put, List.setIfInBounds_toArray, List.set_cons_zero, List.set_cons_succ, i64_w, i32_w]
                            rfl
                          refine take_ (i := 1) (N := some 192) (v := ?_) (a' := ?_) #[true, true, false, false, false] rfl rfl (by kernel_rfl) (fun _ _ _ h => h) (Or.inl ⟨by rfl, ?_⟩) hHeld ?_ ?_
                          rotate_left
                          · rintro w' ⟨s0, s1, s2, s3, s4⟩
                            go_simp
                            with_reducible rfl
                          rotate_left
                          · simp only [Act.put, List.setIfInBounds_toArray, List.set_cons_zero, List.set_cons_succ, i64_w, i32_w]
                            rfl
                          refine one_ (i := 2) (N := none) #[true, true, true, false, false] rfl rfl (by kernel_rfl) (by decide) (fun K hK => ?_)
                          have hs250 : w249.cell? ⟨gb111, 0, none⟩ = some (.int .i64 0) := (blk_cell BK111.out 0).trans rfl
                          have hfs250 := blk_frozen BK111.out 0
                          have hns250_0 := NB109_111.out
                          have hns250_1 := NB110_111.out
                          have hns250_3 := NB112_111.out
                          have hns250_4 := NB113_111.out
                          have hms250_0 := NB111_109.out
                          have hms250_1 := NB111_110.out
                          have hms250_3 := NB111_112.out
                          have hms250_4 := NB111_113.out
                          have hs251 : w249.cell? ⟨gb111, 1, none⟩ = some (.int .i64 0) := (blk_cell BK111.out 1).trans rfl
                          have hfs251 := blk_frozen BK111.out 1
                          have hns251_0 := NB109_111.out
                          have hns251_1 := NB110_111.out
                          have hns251_3 := NB112_111.out
                          have hns251_4 := NB113_111.out
                          have hms251_0 := NB111_109.out
                          have hms251_1 := NB111_110.out
                          have hms251_3 := NB111_112.out
                          have hms251_4 := NB111_113.out
                          refine skip_ (w1 := ?_) (by rfl) rfl ?_ ?_
                          rotate_left
                          · go_simp
                            rfl
                          refine hK.out _ _ ⟨((cell_far (p := ⟨gb111, _, none⟩) NB109_111.out _).trans (((cell_far (p := ⟨gb111, _, none⟩) NB109_111.out _).trans (hHeld.1)))), ((cell_far (p := ⟨gb111, _, none⟩) NB109_111.out _).trans (((cell_far (p := ⟨gb111, _, none⟩) NB109_111.out _).trans (hHeld.2.1)))), ((cell_far (p := ⟨gb111, _, none⟩) NB113_111.out _).trans (((cell_far (p := ⟨gb111, _, none⟩) NB113_111.out _).trans (hHeld.2.2.1)))), ((cell_far (p := ⟨gb111, _, none⟩) NB113_111.out _).trans (((cell_far (p := ⟨gb111, _, none⟩) NB113_111.out _).trans (hHeld.2.2.2.1)))), ((cell_far (p := ⟨gb111, _, none⟩) NB113_111.out _).trans (((cell_far (p := ⟨gb111, _, none⟩) NB113_111.out _).trans (hHeld.2.2.2.2))))⟩ (fun hHeld => ?_)
                          clear hK K
                          refine one_ (i := 3) (N := none) #[true, true, true, true, false] rfl rfl (by kernel_rfl) (by decide) (fun K hK => ?_)
                          have hs252 : w249.cell? ⟨gb112, 0, none⟩ = some (.int .i64 0) := (blk_cell BK112.out 0).trans rfl
                          have hfs252 := blk_frozen BK112.out 0
                          have hns252_0 := NB109_112.out
                          have hns252_1 := NB110_112.out
                          have hns252_2 := NB111_112.out
                          have hns252_4 := NB113_112.out
                          have hms252_0 := NB112_109.out
                          have hms252_1 := NB112_110.out
                          have hms252_2 := NB112_111.out
                          have hms252_4 := NB112_113.out
                          have hs253 : w249.cell? ⟨gb112, 1, none⟩ = some (.int .i64 0) := (blk_cell BK112.out 1).trans rfl
                          have hfs253 := blk_frozen BK112.out 1
                          have hns253_0 := NB109_112.out
                          have hns253_1 := NB110_112.out
                          have hns253_2 := NB111_112.out
                          have hns253_4 := NB113_112.out
                          have hms253_0 := NB112_109.out
                          have hms253_1 := NB112_110.out
                          have hms253_2 := NB112_111.out
                          have hms253_4 := NB112_113.out
                          have hs254 : w249.cell? ⟨gb112, 2, none⟩ = some (.string (⟨#[]⟩ : ByteArray)) := (blk_cell BK112.out 2).trans rfl
                          have hfs254 := blk_frozen BK112.out 2
                          have hns254_0 := NB109_112.out
                          have hns254_1 := NB110_112.out
                          have hns254_2 := NB111_112.out
                          have hns254_4 := NB113_112.out
                          have hms254_0 := NB112_109.out
                          have hms254_1 := NB112_110.out
                          have hms254_2 := NB112_111.out
                          have hms254_4 := NB112_113.out
                          refine skip_ (w1 := ?_) (by rfl) rfl ?_ ?_
                          rotate_left
                          · go_simp
                            rfl
                          refine hK.out _ _ ⟨((cell_far (p := ⟨gb112, _, none⟩) NB109_112.out _).trans (((cell_far (p := ⟨gb112, _, none⟩) NB109_112.out _).trans (((cell_far (p := ⟨gb112, _, none⟩) NB109_112.out _).trans (hHeld.1)))))), ((cell_far (p := ⟨gb112, _, none⟩) NB109_112.out _).trans (((cell_far (p := ⟨gb112, _, none⟩) NB109_112.out _).trans (((cell_far (p := ⟨gb112, _, none⟩) NB109_112.out _).trans (hHeld.2.1)))))), ((cell_far (p := ⟨gb112, _, none⟩) NB113_112.out _).trans (((cell_far (p := ⟨gb112, _, none⟩) NB113_112.out _).trans (((cell_far (p := ⟨gb112, _, none⟩) NB113_112.out _).trans (hHeld.2.2.1)))))), ((cell_far (p := ⟨gb112, _, none⟩) NB113_112.out _).trans (((cell_far (p := ⟨gb112, _, none⟩) NB113_112.out _).trans (((cell_far (p := ⟨gb112, _, none⟩) NB113_112.out _).trans (hHeld.2.2.2.1)))))), ((cell_far (p := ⟨gb112, _, none⟩) NB113_112.out _).trans (((cell_far (p := ⟨gb112, _, none⟩) NB113_112.out _).trans (((cell_far (p := ⟨gb112, _, none⟩) NB113_112.out _).trans (hHeld.2.2.2.2))))))⟩ (fun hHeld => ?_)
                          clear hK K
                          refine pure_ (i := 4) (N := some 8) (v := ?_) (a' := ?_) #[true, true, true, true, true] rfl rfl (by kernel_rfl) (fun _ _ _ h => h) (Or.inl ⟨by rfl, ?_⟩) ?_ ?_
                          rotate_left
                          · intro w'
                            go_simp
                            with_reducible rfl
                          rotate_left
                          · simp only [Act.put, List.setIfInBounds_toArray, List.set_cons_zero, List.set_cons_succ, i64_w, i32_w]
                            rfl
                          refine done_ (by kernel_rfl) ?_
                          try go_wp2
                          refine bodyPost_ret (results_list (rs := [.cell 6 44, .cell 7 46, .tmp 8]) rfl (by simp) (.cell gb111 44 #[.int .i64 a1_0, .int .i64 a1_1] (0, 0) _ rfl (by (with_reducible repeat (first | refine blk_drewN ?_ _ | refine blk_drew ?_ | refine blk_alloc ?_ _)); refine blk_far ?_ NB111_112.out _; (with_reducible repeat (first | refine blk_drewN ?_ _ | refine blk_drew ?_ | refine blk_alloc ?_ _)); refine blk_far ?_ NB111_112.out _; (with_reducible repeat (first | refine blk_drewN ?_ _ | refine blk_drew ?_ | refine blk_alloc ?_ _)); refine blk_far ?_ NB111_112.out _; (with_reducible repeat (first | refine blk_drewN ?_ _ | refine blk_drew ?_ | refine blk_alloc ?_ _)); refine blk_put (cs := #[.int .i64 a1_0, .int .i64 0]) ?_ 1 _ rfl; (with_reducible repeat (first | refine blk_drewN ?_ _ | refine blk_drew ?_ | refine blk_alloc ?_ _)); refine blk_put (cs := #[.int .i64 0, .int .i64 0]) ?_ 0 _ rfl; (with_reducible repeat (first | refine blk_drewN ?_ _ | refine blk_drew ?_ | refine blk_alloc ?_ _)); exact BK111.out) Tryd.underlying44 rfl (by kernel_rfl) (.cell gb112 46 #[.int .i64 0, .int .i64 0, .string (strOfNums ((l0.take (a1_1 : Int).toNat).drop (a1_0 : Int).toNat))] (0, 0) _ rfl (by (with_reducible repeat (first | refine blk_drewN ?_ _ | refine blk_drew ?_ | refine blk_alloc ?_ _)); refine blk_put (cs := #[.int .i64 0, .int .i64 0, .string (⟨#[]⟩ : ByteArray)]) ?_ 2 _ rfl; (with_reducible repeat (first | refine blk_drewN ?_ _ | refine blk_drew ?_ | refine blk_alloc ?_ _)); refine blk_put (cs := #[.int .i64 0, .int .i64 0, .string (⟨#[]⟩ : ByteArray)]) ?_ 1 _ rfl; (with_reducible repeat (first | refine blk_drewN ?_ _ | refine blk_drew ?_ | refine blk_alloc ?_ _)); refine blk_put (cs := #[.int .i64 0, .int .i64 0, .string (⟨#[]⟩ : ByteArray)]) ?_ 0 _ rfl; (with_reducible repeat (first | refine blk_drewN ?_ _ | refine blk_drew ?_ | refine blk_alloc ?_ _)); refine blk_far ?_ NB112_111.out _; (with_reducible repeat (first | refine blk_drewN ?_ _ | refine blk_drew ?_ | refine blk_alloc ?_ _)); refine blk_far ?_ NB112_111.out _; (with_reducible repeat (first | refine blk_drewN ?_ _ | refine blk_drew ?_ | refine blk_alloc ?_ _)); exact BK112.out) Tryd.underlying46 rfl (by kernel_rfl) (.tmp .nil)))) rfl ?_
                          exact ⟨by first | rfl | (simp [errW_none, errW_some] <;> rfl) | (simp [*, errW_none, errW_some] <;> rfl), by repeat (first | (with_reducible first | exact HB.out | apply below_alloc | apply pw_below_drewN | apply below_drew1 | refine below_set ?_ GE109.out | refine below_set ?_ GE110.out | refine below_set ?_ GE111.out | refine below_set ?_ GE112.out | refine below_set ?_ GE113.out) | exact HB.out)⟩
                        · rw [if_neg c233] at H
                          exact absurd H (by simp)
                      · rw [if_neg c232] at H
                        exact absurd H (by simp)
                    · rw [if_neg c231] at H
                      exact absurd H (by simp)
                  · rw [if_neg c230] at H
                    have c230b0 : (a2_0 == 6) = false := beq_eq_false_iff_ne.mpr c230
                    have c230b1 : (a2_0 != 6) = true := bne_iff_ne.mpr c230
                    by_cases c255 : a2_0 = 7
                    · rw [if_pos c255] at H
                      have c255b0 : (a2_0 == 7) = true := beq_iff_eq.mpr c255
                      have c255b1 : (a2_0 != 7) = false := bne_eq_false_iff_eq.mpr c255
                      clear c255
                      simp only [Option.some.injEq, Prod.mk.injEq] at H
                      obtain ⟨rfl, rfl, rfl, rfl, rfl, rfl⟩ := H
                      have hnb256 := NB110_109.out
                      have hnc256 := NB109_110.out
                      have hnb257 := NB110_111.out
                      have hnc257 := NB111_110.out
                      have hnb258 := NB110_112.out
                      have hnc258 := NB112_110.out
                      have hnb259 := NB110_113.out
                      have hnc259 := NB113_110.out
                      have hcz260_0 : wc.cell? ⟨gb110, 0, none⟩ = some (.int .i64 a2_0) := (blk_cell BK110.out 0).trans rfl
                      have hcz260_1 : wc.cell? ⟨gb110, 1, none⟩ = some (.int .i64 a2_1) := (blk_cell BK110.out 1).trans rfl
                      have hfz260_0 := blk_frozen BK110.out 0
                      have hfz260_1 := blk_frozen BK110.out 1
                      have hnb261 := NB109_111.out
                      have hnc261 := NB111_109.out
                      have hnb262 := NB109_112.out
                      have hnc262 := NB112_109.out
                      have hnb263 := NB109_113.out
                      have hnc263 := NB113_109.out
                      have hcz264_0 : wc.cell? ⟨gb109, 0, none⟩ = some (.int .i64 a1_0) := (blk_cell BK109.out 0).trans rfl
                      have hcz264_1 : wc.cell? ⟨gb109, 1, none⟩ = some (.int .i64 a1_1) := (blk_cell BK109.out 1).trans rfl
                      have hfz264_0 := blk_frozen BK109.out 0
                      have hfz264_1 := blk_frozen BK109.out 1
                      have hnb265 := NB113_111.out
                      have hnc265 := NB111_113.out
                      have hnb266 := NB113_112.out
                      have hnc266 := NB112_113.out
                      have hcz267_0 : wc.cell? ⟨gb113, 0, none⟩ = some (.int .i64 0) := (blk_cell BK113.out 0).trans rfl
                      have hcz267_1 : wc.cell? ⟨gb113, 1, none⟩ = some (.int .i64 0) := (blk_cell BK113.out 1).trans rfl
                      have hcz267_2 : wc.cell? ⟨gb113, 2, none⟩ = some (.string (⟨#[]⟩ : ByteArray)) := (blk_cell BK113.out 2).trans rfl
                      have hfz267_0 := blk_frozen BK113.out 0
                      have hfz267_1 := blk_frozen BK113.out 1
                      have hfz267_2 := blk_frozen BK113.out 2
                      try go_wp2
                      have n0_ : Aside0 ((wc.setCell ⟨gb113, 0, none⟩ (.int .i64 (wrap64 (a1_1 - a1_0)))).heap[gb109]? = some (.cells #[.int .i64 a1_0, .int .i64 a1_1] 44 (0, 0))) := ⟨by (with_reducible repeat (first | refine blk_drewN ?_ _ | refine blk_drew ?_ | refine blk_alloc ?_ _)); refine blk_far ?_ NB109_113.out _; (with_reducible repeat (first | refine blk_drewN ?_ _ | refine blk_drew ?_ | refine blk_alloc ?_ _)); exact BK109.out⟩
                      have n1_ : Aside0 ((wc.setCell ⟨gb113, 0, none⟩ (.int .i64 (wrap64 (a1_1 - a1_0)))).heap[gb110]? = some (.cells #[.int .i64 a2_0, .int .i64 a2_1] 26 (0, 0))) := ⟨by (with_reducible repeat (first | refine blk_drewN ?_ _ | refine blk_drew ?_ | refine blk_alloc ?_ _)); refine blk_far ?_ NB110_113.out _; (with_reducible repeat (first | refine blk_drewN ?_ _ | refine blk_drew ?_ | refine blk_alloc ?_ _)); exact BK110.out⟩
                      have n2_ : Aside0 ((wc.setCell ⟨gb113, 0, none⟩ (.int .i64 (wrap64 (a1_1 - a1_0)))).heap[gb111]? = some (.cells #[.int .i64 0, .int .i64 0] 44 (0, 0))) := ⟨by (with_reducible repeat (first | refine blk_drewN ?_ _ | refine blk_drew ?_ | refine blk_alloc ?_ _)); refine blk_far ?_ NB111_113.out _; (with_reducible repeat (first | refine blk_drewN ?_ _ | refine blk_drew ?_ | refine blk_alloc ?_ _)); exact BK111.out⟩
                      have n3_ : Aside0 ((wc.setCell ⟨gb113, 0, none⟩ (.int .i64 (wrap64 (a1_1 - a1_0)))).heap[gb112]? = some (.cells #[.int .i64 0, .int .i64 0, .string (⟨#[]⟩ : ByteArray)] 46 (0, 0))) := ⟨by (with_reducible repeat (first | refine blk_drewN ?_ _ | refine blk_drew ?_ | refine blk_alloc ?_ _)); refine blk_far ?_ NB112_113.out _; (with_reducible repeat (first | refine blk_drewN ?_ _ | refine blk_drew ?_ | refine blk_alloc ?_ _)); exact BK112.out⟩
                      have n4_ : Aside0 ((wc.setCell ⟨gb113, 0, none⟩ (.int .i64 (wrap64 (a1_1 - a1_0)))).heap[gb113]? = some (.cells #[.int .i64 (wrap64 (a1_1 - a1_0)), .int .i64 0, .string (⟨#[]⟩ : ByteArray)] 46 (0, 0))) := ⟨by (with_reducible repeat (first | refine blk_drewN ?_ _ | refine blk_drew ?_ | refine blk_alloc ?_ _)); refine blk_put (cs := #[.int .i64 0, .int .i64 0, .string (⟨#[]⟩ : ByteArray)]) ?_ 0 _ rfl; (with_reducible repeat (first | refine blk_drewN ?_ _ | refine blk_drew ?_ | refine blk_alloc ?_ _)); exact BK113.out⟩
                      have n5_ : Aside0 (Below w.heap.size w (wc.setCell ⟨gb113, 0, none⟩ (.int .i64 (wrap64 (a1_1 - a1_0))))) := ⟨by repeat (first | (with_reducible first | exact HB.out | apply below_alloc | apply pw_below_drewN | apply below_drew1 | refine below_set ?_ GE109.out | refine below_set ?_ GE110.out | refine below_set ?_ GE111.out | refine below_set ?_ GE112.out | refine below_set ?_ GE113.out) | exact HB.out)⟩
                      (try clear BK109)
                      (try clear BK110)
                      (try clear BK111)
                      (try clear BK112)
                      (try clear BK113)
                      (try clear HB)
                      generalize (wc.setCell ⟨gb113, 0, none⟩ (.int .i64 (wrap64 (a1_1 - a1_0)))) = w268 at n0_ n1_ n2_ n3_ n4_ n5_ ⊢
                      have BK109 := n0_
                      have BK110 := n1_
                      have BK111 := n2_
                      have BK112 := n3_
                      have BK113 := n4_
                      have HB := n5_
                      clear n0_ n1_ n2_ n3_ n4_ n5_
                      have n0_ := Aside0.mk (blk_drew BK109.out)
                      have n1_ := Aside0.mk (blk_drew BK110.out)
                      have n2_ := Aside0.mk (blk_drew BK111.out)
                      have n3_ := Aside0.mk (blk_drew BK112.out)
                      have n4_ := Aside0.mk (blk_drew BK113.out)
                      have n5_ := Aside0.mk (below_drew1 HB.out)
                      clear BK109
                      clear BK110
                      clear BK111
                      clear BK112
                      clear BK113
                      clear HB
                      have BK109 := n0_
                      have BK110 := n1_
                      have BK111 := n2_
                      have BK112 := n3_
                      have BK113 := n4_
                      have HB := n5_
                      clear n0_ n1_ n2_ n3_ n4_ n5_
                      refine start_ (n := 5) (S := fun w' => w'.cell? ⟨gb109, 0, none⟩ = some (.int .i64 a1_0) ∧ w'.cell? ⟨gb109, 1, none⟩ = some (.int .i64 a1_1) ∧ w'.cell? ⟨gb113, 0, none⟩ = some (.int .i64 (wrap64 (a1_1 - a1_0))) ∧ w'.cell? ⟨gb113, 1, none⟩ = some (.int .i64 0) ∧ w'.cell? ⟨gb113, 2, none⟩ = some (.string (⟨#[]⟩ : ByteArray))) (ds := []) #[false, false, false, false, false] (by kernel_rfl) rfl rfl ⟨(blk_cell BK109.out 0).trans rfl, (blk_cell BK109.out 1).trans rfl, (blk_cell BK113.out 0).trans rfl, (blk_cell BK113.out 1).trans rfl, (blk_cell BK113.out 2).trans rfl⟩ (fun hHeld => ?_)
                      generalize w268.drew = w269 at BK109 BK110 BK111 BK112 BK113 HB hHeld ⊢
                      refine take_ (i := 0) (N := some 191) (v := ?_) (a' := ?_) #[true, false, false, false, false] rfl rfl (by kernel_rfl) (fun _ _ _ h => h) (Or.inl ⟨by rfl, ?_⟩) hHeld ?_ ?_
                      rotate_left
                      · rintro w' ⟨s0, s1, s2, s3, s4⟩
                        go_simp
                        with_reducible rfl
                      rotate_left
                      · simp only [Act.put, List.setIfInBounds_toArray, List.set_cons_zero, List.set_cons_succ, i64_w, i32_w]
                        rfl
                      refine take_ (i := 1) (N := some 192) (v := ?_) (a' := ?_) #[true, true, false, false, false] rfl rfl (by kernel_rfl) (fun _ _ _ h => h) (Or.inl ⟨by rfl, ?_⟩) hHeld ?_ ?_
                      rotate_left
                      · rintro w' ⟨s0, s1, s2, s3, s4⟩
                        go_simp
                        with_reducible rfl
                      rotate_left
                      · simp only [Act.put, List.setIfInBounds_toArray, List.set_cons_zero, List.set_cons_succ, i64_w, i32_w]
                        rfl
                      refine one_ (i := 2) (N := none) #[true, true, true, false, false] rfl rfl (by kernel_rfl) (by decide) (fun K hK => ?_)
                      have hs270 : w269.cell? ⟨gb111, 0, none⟩ = some (.int .i64 0) := (blk_cell BK111.out 0).trans rfl
                      have hfs270 := blk_frozen BK111.out 0
                      have hns270_0 := NB109_111.out
                      have hns270_1 := NB110_111.out
                      have hns270_3 := NB112_111.out
                      have hns270_4 := NB113_111.out
                      have hms270_0 := NB111_109.out
                      have hms270_1 := NB111_110.out
                      have hms270_3 := NB111_112.out
                      have hms270_4 := NB111_113.out
                      have hs271 : w269.cell? ⟨gb111, 1, none⟩ = some (.int .i64 0) := (blk_cell BK111.out 1).trans rfl
                      have hfs271 := blk_frozen BK111.out 1
                      have hns271_0 := NB109_111.out
                      have hns271_1 := NB110_111.out
                      have hns271_3 := NB112_111.out
                      have hns271_4 := NB113_111.out
                      have hms271_0 := NB111_109.out
                      have hms271_1 := NB111_110.out
                      have hms271_3 := NB111_112.out
                      have hms271_4 := NB111_113.out
                      refine skip_ (w1 := ?_) (by rfl) rfl ?_ ?_
                      rotate_left
                      · go_simp
                        rfl
                      refine hK.out _ _ ⟨((cell_far (p := ⟨gb111, _, none⟩) NB109_111.out _).trans (((cell_far (p := ⟨gb111, _, none⟩) NB109_111.out _).trans (hHeld.1)))), ((cell_far (p := ⟨gb111, _, none⟩) NB109_111.out _).trans (((cell_far (p := ⟨gb111, _, none⟩) NB109_111.out _).trans (hHeld.2.1)))), ((cell_far (p := ⟨gb111, _, none⟩) NB113_111.out _).trans (((cell_far (p := ⟨gb111, _, none⟩) NB113_111.out _).trans (hHeld.2.2.1)))), ((cell_far (p := ⟨gb111, _, none⟩) NB113_111.out _).trans (((cell_far (p := ⟨gb111, _, none⟩) NB113_111.out _).trans (hHeld.2.2.2.1)))), ((cell_far (p := ⟨gb111, _, none⟩) NB113_111.out _).trans (((cell_far (p := ⟨gb111, _, none⟩) NB113_111.out _).trans (hHeld.2.2.2.2))))⟩ (fun hHeld => ?_)
                      clear hK K
                      refine one_ (i := 3) (N := none) #[true, true, true, true, false] rfl rfl (by kernel_rfl) (by decide) (fun K hK => ?_)
                      have hs272 : w269.cell? ⟨gb112, 0, none⟩ = some (.int .i64 0) := (blk_cell BK112.out 0).trans rfl
                      have hfs272 := blk_frozen BK112.out 0
                      have hns272_0 := NB109_112.out
                      have hns272_1 := NB110_112.out
                      have hns272_2 := NB111_112.out
                      have hns272_4 := NB113_112.out
                      have hms272_0 := NB112_109.out
                      have hms272_1 := NB112_110.out
                      have hms272_2 := NB112_111.out
                      have hms272_4 := NB112_113.out
                      have hs273 : w269.cell? ⟨gb112, 1, none⟩ = some (.int .i64 0) := (blk_cell BK112.out 1).trans rfl
                      have hfs273 := blk_frozen BK112.out 1
                      have hns273_0 := NB109_112.out
                      have hns273_1 := NB110_112.out
                      have hns273_2 := NB111_112.out
                      have hns273_4 := NB113_112.out
                      have hms273_0 := NB112_109.out
                      have hms273_1 := NB112_110.out
                      have hms273_2 := NB112_111.out
                      have hms273_4 := NB112_113.out
                      have hs274 : w269.cell? ⟨gb112, 2, none⟩ = some (.string (⟨#[]⟩ : ByteArray)) := (blk_cell BK112.out 2).trans rfl
                      have hfs274 := blk_frozen BK112.out 2
                      have hns274_0 := NB109_112.out
                      have hns274_1 := NB110_112.out
                      have hns274_2 := NB111_112.out
                      have hns274_4 := NB113_112.out
                      have hms274_0 := NB112_109.out
                      have hms274_1 := NB112_110.out
                      have hms274_2 := NB112_111.out
                      have hms274_4 := NB112_113.out
                      refine skip_ (w1 := ?_) (by rfl) rfl ?_ ?_
                      rotate_left
                      · go_simp
                        rfl
                      refine hK.out _ _ ⟨((cell_far (p := ⟨gb112, _, none⟩) NB109_112.out _).trans (((cell_far (p := ⟨gb112, _, none⟩) NB109_112.out _).trans (((cell_far (p := ⟨gb112, _, none⟩) NB109_112.out _).trans (hHeld.1)))))), ((cell_far (p := ⟨gb112, _, none⟩) NB109_112.out _).trans (((cell_far (p := ⟨gb112, _, none⟩) NB109_112.out _).trans (((cell_far (p := ⟨gb112, _, none⟩) NB109_112.out _).trans (hHeld.2.1)))))), ((cell_far (p := ⟨gb112, _, none⟩) NB113_112.out _).trans (((cell_far (p := ⟨gb112, _, none⟩) NB113_112.out _).trans (((cell_far (p := ⟨gb112, _, none⟩) NB113_112.out _).trans (hHeld.2.2.1)))))), ((cell_far (p := ⟨gb112, _, none⟩) NB113_112.out _).trans (((cell_far (p := ⟨gb112, _, none⟩) NB113_112.out _).trans (((cell_far (p := ⟨gb112, _, none⟩) NB113_112.out _).trans (hHeld.2.2.2.1)))))), ((cell_far (p := ⟨gb112, _, none⟩) NB113_112.out _).trans (((cell_far (p := ⟨gb112, _, none⟩) NB113_112.out _).trans (((cell_far (p := ⟨gb112, _, none⟩) NB113_112.out _).trans (hHeld.2.2.2.2))))))⟩ (fun hHeld => ?_)
                      clear hK K
                      refine pure_ (i := 4) (N := some 8) (v := ?_) (a' := ?_) #[true, true, true, true, true] rfl rfl (by kernel_rfl) (fun _ _ _ h => h) (Or.inl ⟨by rfl, ?_⟩) ?_ ?_
                      rotate_left
                      · intro w'
                        go_simp
                        with_reducible rfl
                      rotate_left
                      · simp only [Act.put, List.setIfInBounds_toArray, List.set_cons_zero, List.set_cons_succ, i64_w, i32_w]
                        rfl
                      refine done_ (by kernel_rfl) ?_
                      try go_wp2
                      refine bodyPost_ret (results_list (rs := [.cell 6 44, .cell 7 46, .tmp 8]) rfl (by simp) (.cell gb111 44 #[.int .i64 a1_0, .int .i64 a1_1] (0, 0) _ rfl (by (with_reducible repeat (first | refine blk_drewN ?_ _ | refine blk_drew ?_ | refine blk_alloc ?_ _)); refine blk_far ?_ NB111_112.out _; (with_reducible repeat (first | refine blk_drewN ?_ _ | refine blk_drew ?_ | refine blk_alloc ?_ _)); refine blk_far ?_ NB111_112.out _; (with_reducible repeat (first | refine blk_drewN ?_ _ | refine blk_drew ?_ | refine blk_alloc ?_ _)); refine blk_far ?_ NB111_112.out _; (with_reducible repeat (first | refine blk_drewN ?_ _ | refine blk_drew ?_ | refine blk_alloc ?_ _)); refine blk_put (cs := #[.int .i64 a1_0, .int .i64 0]) ?_ 1 _ rfl; (with_reducible repeat (first | refine blk_drewN ?_ _ | refine blk_drew ?_ | refine blk_alloc ?_ _)); refine blk_put (cs := #[.int .i64 0, .int .i64 0]) ?_ 0 _ rfl; (with_reducible repeat (first | refine blk_drewN ?_ _ | refine blk_drew ?_ | refine blk_alloc ?_ _)); exact BK111.out) Tryd.underlying44 rfl (by kernel_rfl) (.cell gb112 46 #[.int .i64 (wrap64 (a1_1 - a1_0)), .int .i64 0, .string (⟨#[]⟩ : ByteArray)] (0, 0) _ rfl (by (with_reducible repeat (first | refine blk_drewN ?_ _ | refine blk_drew ?_ | refine blk_alloc ?_ _)); refine blk_put (cs := #[.int .i64 (wrap64 (a1_1 - a1_0)), .int .i64 0, .string (⟨#[]⟩ : ByteArray)]) ?_ 2 _ rfl; (with_reducible repeat (first | refine blk_drewN ?_ _ | refine blk_drew ?_ | refine blk_alloc ?_ _)); refine blk_put (cs := #[.int .i64 (wrap64 (a1_1 - a1_0)), .int .i64 0, .string (⟨#[]⟩ : ByteArray)]) ?_ 1 _ rfl; (with_reducible repeat (first | refine blk_drewN ?_ _ | refine blk_drew ?_ | refine blk_alloc ?_ _)); refine blk_put (cs := #[.int .i64 0, .int .i64 0, .string (⟨#[]⟩ : ByteArray)]) ?_ 0 _ rfl; (with_reducible repeat (first | refine blk_drewN ?_ _ | refine blk_drew ?_ | refine blk_alloc ?_ _)); refine blk_far ?_ NB112_111.out _; (with_reducible repeat (first | refine blk_drewN ?_ _ | refine blk_drew ?_ | refine blk_alloc ?_ _)); refine blk_far ?_ NB112_111.out _; (with_reducible repeat (first | refine blk_drewN ?_ _ | refine blk_drew ?_ | refine blk_alloc ?_ _)); exact BK112.out) Tryd.underlying46 rfl (by kernel_rfl) (.tmp .nil)))) rfl ?_
                      exact ⟨by first | rfl | (simp [errW_none, errW_some] <;> rfl) | (simp [*, errW_none, errW_some] <;> rfl), by repeat (first | (with_reducible first | exact HB.out | apply below_alloc | apply pw_below_drewN | apply below_drew1 | refine below_set ?_ GE109.out | refine below_set ?_ GE110.out | refine below_set ?_ GE111.out | refine below_set ?_ GE112.out | refine below_set ?_ GE113.out) | exact HB.out)⟩
                    · exact absurd HGRP.out (by
                        have e0_ := beq_eq_false_iff_ne.mp c53b0
                        have e1_ := beq_eq_false_iff_ne.mp c70b0
                        have e2_ := beq_eq_false_iff_ne.mp c104b0
                        have e3_ := beq_eq_false_iff_ne.mp c129b0
                        have e4_ := beq_eq_false_iff_ne.mp c146b0
                        have e5_ := beq_eq_false_iff_ne.mp c189b0
                        have e6_ := beq_eq_false_iff_ne.mp c230b0
                        omega)
end Go.Proofs.YtojgpdphdhcjiaaDoor.PFnInput
