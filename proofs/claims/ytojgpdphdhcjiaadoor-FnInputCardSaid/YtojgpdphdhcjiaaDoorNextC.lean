import Derived.Test.YtojgpdphdhcjiaaDoorNextA
namespace Go.Proofs.YtojgpdphdhcjiaaDoor.PFnInput
open Go.RowKit Go.Proofs.YtojgpdphdhcjiaaDoorW.PrintWords Go.Proofs.YtojgpdphdhcjiaaDoorW.PrintLast Go.Proofs.YtojgpdphdhcjiaaDoorW.PrintMore
attribute [local go_sem] max2_int min2_int max_two min_two max_three min_three max_four min_four   -- for this text's walks alone
set_option linter.unusedVariables false
set_option linter.unusedSimpArgs false

set_option maxHeartbeats 8000000 in
set_option maxRecDepth 100000 in
theorem spec_Next.callsC (k : Nat) (A0 : Option Addr) (c0 : Nat) (l0 : List Int) (a1_0 : Int) (a1_1 : Int) (a2_0 : Int) (a2_1 : Int) (r1 : Int) (r2 : Int) (r3 : Int) (r4 : Int) (r5 : ByteArray) (r6 : Bool) (w : World) (hgrp_ : ¬ (a2_0 = 0 ∨ a2_0 = 1 ∨ a2_0 = 2 ∨ a2_0 = 3 ∨ a2_0 = 4 ∨ a2_0 = 5 ∨ a2_0 = 6 ∨ a2_0 = 7)) (hr0 : Kd.C (Kd.int .u8) w A0 l0.length l0) (hc0 : l0.length ≤ c0) (h : spec_Next.f k l0 a1_0 a1_1 a2_0 a2_1 = some (r1, r2, r3, r4, r5, r6)) :
    Calls Tryd.prog 15 #[.slice A0 l0.length c0, .agg #[.int .i64 a1_0, .int .i64 a1_1], .agg #[.int .i64 a2_0, .int .i64 a2_1]] w fun e w' => e = .returned (.tuple #[.agg #[.int .i64 r1, .int .i64 r2], .agg #[.int .i64 r3, .int .i64 r4, .string r5], .bool r6]) ∧ Below w.heap.size w w' := by
  have HGRP := Aside0.mk hgrp_
  clear hgrp_
  have hu44 := Tryd.underlying44
  have hu26 := Tryd.underlying26
  have hu46 := Tryd.underlying46
  have HR0 := Aside0.mk hr0
  have HC0 := Aside0.mk hc0
  clear hr0 hc0
  have HB := Aside0.mk (Below.refl w.heap.size w)
  have H : (if a2_1 ≥ (wrap64 (-(l0.length : Int))) then (if a2_1 ≤ (l0.length : Int) then (if (wrap64 (a1_1 + a2_1)) ≥ a1_0 then (spec_Next.j0 k l0 (wrap64 (a1_1 + a2_1)) (decide ((wrap64 (a1_1 + a2_1)) ≤ (l0.length : Int))) a1_0 a1_1 a2_0 a2_1 0 0 (⟨#[]⟩ : ByteArray)) else (spec_Next.j0 k l0 (wrap64 (a1_1 + a2_1)) false a1_0 a1_1 a2_0 a2_1 0 0 (⟨#[]⟩ : ByteArray))) else (spec_Next.j0 k l0 (wrap64 (a1_1 + a2_1)) false a1_0 a1_1 a2_0 a2_1 0 0 (⟨#[]⟩ : ByteArray))) else (spec_Next.j0 k l0 (wrap64 (a1_1 + a2_1)) false a1_0 a1_1 a2_0 a2_1 0 0 (⟨#[]⟩ : ByteArray))) = some (r1, r2, r3, r4, r5, r6) := h
  clear h
  have HC4 := Aside0.mk H
  clear H
  go_enter Tryd.func15, Tryd.ntmps15
  go_upto_region 3 with (first | ((with_reducible refine gate_dst (N := 4) rfl ?_); (try (refine gate_guard (by rfl) ?_; dsimp only)); refine box_event ?hg (N := 4) ?hd (cs := #[.int .i64 a1_0, .int .i64 a1_1]) (t := 44) ?hr ?_; (case hd => rfl); (case hg => rfl); (case hr => first | (go_simp; done) | (go_simp; rfl)); intro gb109 hg w5 hbox hb; have n0_ := Aside0.mk (below_step (by repeat (first | (with_reducible first | exact HB.out | apply below_alloc | apply pw_below_drewN | apply below_drew1) | exact HB.out)) hb); have n1_ := Aside0.mk (hbox); have n2_ := Aside0.mk ((by rw [hg]; exact (below_size (by repeat (first | (with_reducible first | exact HB.out | apply below_alloc | apply pw_below_drewN | apply below_drew1) | exact HB.out))) : w.heap.size ≤ gb109)); have n3_ := Aside0.mk ((by rw [hg]; exact (below_size (by repeat (first | (with_reducible first | exact HB.out | apply below_alloc | apply pw_below_drewN | apply below_drew1) | exact HB.out))) : w.heap.size ≤ gb109)); clear HB; have HB := n0_; have BK109 := n1_; have GW109 := n2_; have GE109 := n3_; clear n0_ n1_ n2_ n3_; clear hb hbox hg) | ((with_reducible refine gate_dst (N := 5) rfl ?_); (try (refine gate_guard (by rfl) ?_; dsimp only)); refine box_event ?hg (N := 5) ?hd (cs := #[.int .i64 a2_0, .int .i64 a2_1]) (t := 26) ?hr ?_; (case hd => rfl); (case hg => rfl); (case hr => first | (go_simp; done) | (go_simp; rfl)); intro gb110 hg w6 hbox hb; have n0_ := Aside0.mk (blk_below (g := gb109) (o := .cells #[.int .i64 a1_0, .int .i64 a1_1] 44 (0, 0)) (by (with_reducible repeat (first | refine blk_drewN ?_ _ | refine blk_drew ?_ | refine blk_alloc ?_ _)); exact BK109.out) hb); have n1_ := Aside0.mk (below_step (by repeat (first | (with_reducible first | exact HB.out | apply below_alloc | apply pw_below_drewN | apply below_drew1 | refine below_set ?_ GE109.out) | exact HB.out)) hb); have n2_ := Aside0.mk (hbox); have n3_ := Aside0.mk ((by rw [hg]; exact (below_size (by repeat (first | (with_reducible first | exact HB.out | apply below_alloc | apply pw_below_drewN | apply below_drew1 | refine below_set ?_ GE109.out) | exact HB.out))) : w.heap.size ≤ gb110)); have n4_ := Aside0.mk ((by rw [hg]; exact (below_size (by repeat (first | (with_reducible first | exact HB.out | apply below_alloc | apply pw_below_drewN | apply below_drew1 | refine below_set ?_ GE109.out) | exact HB.out))) : w.heap.size ≤ gb110)); have n5_ := Aside0.mk ((by rw [hg]; exact Nat.ne_of_lt (blk_lt (g := gb109) (o := .cells #[.int .i64 a1_0, .int .i64 a1_1] 44 (0, 0)) (by (with_reducible repeat (first | refine blk_drewN ?_ _ | refine blk_drew ?_ | refine blk_alloc ?_ _)); exact BK109.out)) : gb109 ≠ gb110)); have n6_ := Aside0.mk ((by rw [hg]; exact Nat.ne_of_gt (blk_lt (g := gb109) (o := .cells #[.int .i64 a1_0, .int .i64 a1_1] 44 (0, 0)) (by (with_reducible repeat (first | refine blk_drewN ?_ _ | refine blk_drew ?_ | refine blk_alloc ?_ _)); exact BK109.out)) : gb110 ≠ gb109)); clear BK109; clear HB; have BK109 := n0_; have HB := n1_; have BK110 := n2_; have GW110 := n3_; have GE110 := n4_; have NB109_110 := n5_; have NB110_109 := n6_; clear n0_ n1_ n2_ n3_ n4_ n5_ n6_; clear hb hbox hg) | ((with_reducible refine gate_dst (N := 6) rfl ?_); (try (refine gate_guard (by rfl) ?_; dsimp only)); refine box_event ?hg (N := 6) ?hd (cs := #[.int .i64 0, .int .i64 0]) (t := 44) ?hr ?_; (case hd => rfl); (case hg => rfl); (case hr => first | (go_simp; done) | (go_simp; rfl)); intro gb111 hg w7 hbox hb; have n0_ := Aside0.mk (blk_below (g := gb109) (o := .cells #[.int .i64 a1_0, .int .i64 a1_1] 44 (0, 0)) (by (with_reducible repeat (first | refine blk_drewN ?_ _ | refine blk_drew ?_ | refine blk_alloc ?_ _)); exact BK109.out) hb); have n1_ := Aside0.mk (blk_below (g := gb110) (o := .cells #[.int .i64 a2_0, .int .i64 a2_1] 26 (0, 0)) (by (with_reducible repeat (first | refine blk_drewN ?_ _ | refine blk_drew ?_ | refine blk_alloc ?_ _)); exact BK110.out) hb); have n2_ := Aside0.mk (below_step (by repeat (first | (with_reducible first | exact HB.out | apply below_alloc | apply pw_below_drewN | apply below_drew1 | refine below_set ?_ GE109.out | refine below_set ?_ GE110.out) | exact HB.out)) hb); have n3_ := Aside0.mk (hbox); have n4_ := Aside0.mk ((by rw [hg]; exact (below_size (by repeat (first | (with_reducible first | exact HB.out | apply below_alloc | apply pw_below_drewN | apply below_drew1 | refine below_set ?_ GE109.out | refine below_set ?_ GE110.out) | exact HB.out))) : w.heap.size ≤ gb111)); have n5_ := Aside0.mk ((by rw [hg]; exact (below_size (by repeat (first | (with_reducible first | exact HB.out | apply below_alloc | apply pw_below_drewN | apply below_drew1 | refine below_set ?_ GE109.out | refine below_set ?_ GE110.out) | exact HB.out))) : w.heap.size ≤ gb111)); have n6_ := Aside0.mk ((by rw [hg]; exact Nat.ne_of_lt (blk_lt (g := gb109) (o := .cells #[.int .i64 a1_0, .int .i64 a1_1] 44 (0, 0)) (by (with_reducible repeat (first | refine blk_drewN ?_ _ | refine blk_drew ?_ | refine blk_alloc ?_ _)); exact BK109.out)) : gb109 ≠ gb111)); have n7_ := Aside0.mk ((by rw [hg]; exact Nat.ne_of_gt (blk_lt (g := gb109) (o := .cells #[.int .i64 a1_0, .int .i64 a1_1] 44 (0, 0)) (by (with_reducible repeat (first | refine blk_drewN ?_ _ | refine blk_drew ?_ | refine blk_alloc ?_ _)); exact BK109.out)) : gb111 ≠ gb109)); have n8_ := Aside0.mk ((by rw [hg]; exact Nat.ne_of_lt (blk_lt (g := gb110) (o := .cells #[.int .i64 a2_0, .int .i64 a2_1] 26 (0, 0)) (by (with_reducible repeat (first | refine blk_drewN ?_ _ | refine blk_drew ?_ | refine blk_alloc ?_ _)); exact BK110.out)) : gb110 ≠ gb111)); have n9_ := Aside0.mk ((by rw [hg]; exact Nat.ne_of_gt (blk_lt (g := gb110) (o := .cells #[.int .i64 a2_0, .int .i64 a2_1] 26 (0, 0)) (by (with_reducible repeat (first | refine blk_drewN ?_ _ | refine blk_drew ?_ | refine blk_alloc ?_ _)); exact BK110.out)) : gb111 ≠ gb110)); clear BK109; clear BK110; clear HB; have BK109 := n0_; have BK110 := n1_; have HB := n2_; have BK111 := n3_; have GW111 := n4_; have GE111 := n5_; have NB109_111 := n6_; have NB111_109 := n7_; have NB110_111 := n8_; have NB111_110 := n9_; clear n0_ n1_ n2_ n3_ n4_ n5_ n6_ n7_ n8_ n9_; clear hb hbox hg) | ((with_reducible refine gate_dst (N := 7) rfl ?_); (try (refine gate_guard (by rfl) ?_; dsimp only)); refine box_event ?hg (N := 7) ?hd (cs := #[.int .i64 0, .int .i64 0, .string (⟨#[]⟩ : ByteArray)]) (t := 46) ?hr ?_; (case hd => rfl); (case hg => rfl); (case hr => first | (go_simp; done) | (go_simp; rfl)); intro gb112 hg w8 hbox hb; have n0_ := Aside0.mk (blk_below (g := gb109) (o := .cells #[.int .i64 a1_0, .int .i64 a1_1] 44 (0, 0)) (by (with_reducible repeat (first | refine blk_drewN ?_ _ | refine blk_drew ?_ | refine blk_alloc ?_ _)); exact BK109.out) hb); have n1_ := Aside0.mk (blk_below (g := gb110) (o := .cells #[.int .i64 a2_0, .int .i64 a2_1] 26 (0, 0)) (by (with_reducible repeat (first | refine blk_drewN ?_ _ | refine blk_drew ?_ | refine blk_alloc ?_ _)); exact BK110.out) hb); have n2_ := Aside0.mk (blk_below (g := gb111) (o := .cells #[.int .i64 0, .int .i64 0] 44 (0, 0)) (by (with_reducible repeat (first | refine blk_drewN ?_ _ | refine blk_drew ?_ | refine blk_alloc ?_ _)); exact BK111.out) hb); have n3_ := Aside0.mk (below_step (by repeat (first | (with_reducible first | exact HB.out | apply below_alloc | apply pw_below_drewN | apply below_drew1 | refine below_set ?_ GE109.out | refine below_set ?_ GE110.out | refine below_set ?_ GE111.out) | exact HB.out)) hb); have n4_ := Aside0.mk (hbox); have n5_ := Aside0.mk ((by rw [hg]; exact (below_size (by repeat (first | (with_reducible first | exact HB.out | apply below_alloc | apply pw_below_drewN | apply below_drew1 | refine below_set ?_ GE109.out | refine below_set ?_ GE110.out | refine below_set ?_ GE111.out) | exact HB.out))) : w.heap.size ≤ gb112)); have n6_ := Aside0.mk ((by rw [hg]; exact (below_size (by repeat (first | (with_reducible first | exact HB.out | apply below_alloc | apply pw_below_drewN | apply below_drew1 | refine below_set ?_ GE109.out | refine below_set ?_ GE110.out | refine below_set ?_ GE111.out) | exact HB.out))) : w.heap.size ≤ gb112)); have n7_ := Aside0.mk ((by rw [hg]; exact Nat.ne_of_lt (blk_lt (g := gb109) (o := .cells #[.int .i64 a1_0, .int .i64 a1_1] 44 (0, 0)) (by (with_reducible repeat (first | refine blk_drewN ?_ _ | refine blk_drew ?_ | refine blk_alloc ?_ _)); exact BK109.out)) : gb109 ≠ gb112)); have n8_ := Aside0.mk ((by rw [hg]; exact Nat.ne_of_gt (blk_lt (g := gb109) (o := .cells #[.int .i64 a1_0, .int .i64 a1_1] 44 (0, 0)) (by (with_reducible repeat (first | refine blk_drewN ?_ _ | refine blk_drew ?_ | refine blk_alloc ?_ _)); exact BK109.out)) : gb112 ≠ gb109)); have n9_ := Aside0.mk ((by rw [hg]; exact Nat.ne_of_lt (blk_lt (g := gb110) (o := .cells #[.int .i64 a2_0, .int .i64 a2_1] 26 (0, 0)) (by (with_reducible repeat (first | refine blk_drewN ?_ _ | refine blk_drew ?_ | refine blk_alloc ?_ _)); exact BK110.out)) : gb110 ≠ gb112)); have n10_ := Aside0.mk ((by rw [hg]; exact Nat.ne_of_gt (blk_lt (g := gb110) (o := .cells #[.int .i64 a2_0, .int .i64 a2_1] 26 (0, 0)) (by (with_reducible repeat (first | refine blk_drewN ?_ _ | refine blk_drew ?_ | refine blk_alloc ?_ _)); exact BK110.out)) : gb112 ≠ gb110)); have n11_ := Aside0.mk ((by rw [hg]; exact Nat.ne_of_lt (blk_lt (g := gb111) (o := .cells #[.int .i64 0, .int .i64 0] 44 (0, 0)) (by (with_reducible repeat (first | refine blk_drewN ?_ _ | refine blk_drew ?_ | refine blk_alloc ?_ _)); exact BK111.out)) : gb111 ≠ gb112)); have n12_ := Aside0.mk ((by rw [hg]; exact Nat.ne_of_gt (blk_lt (g := gb111) (o := .cells #[.int .i64 0, .int .i64 0] 44 (0, 0)) (by (with_reducible repeat (first | refine blk_drewN ?_ _ | refine blk_drew ?_ | refine blk_alloc ?_ _)); exact BK111.out)) : gb112 ≠ gb111)); clear BK109; clear BK110; clear BK111; clear HB; have BK109 := n0_; have BK110 := n1_; have BK111 := n2_; have HB := n3_; have BK112 := n4_; have GW112 := n5_; have GE112 := n6_; have NB109_112 := n7_; have NB112_109 := n8_; have NB110_112 := n9_; have NB112_110 := n10_; have NB111_112 := n11_; have NB112_111 := n12_; clear n0_ n1_ n2_ n3_ n4_ n5_ n6_ n7_ n8_ n9_ n10_ n11_ n12_; clear hb hbox hg) | ((with_reducible refine gate_dst (N := 9) rfl ?_); (try (refine gate_guard (by rfl) ?_; dsimp only)); refine box_event ?hg (N := 9) ?hd (cs := #[.int .i64 0, .int .i64 0, .string (⟨#[]⟩ : ByteArray)]) (t := 46) ?hr ?_; (case hd => rfl); (case hg => rfl); (case hr => first | (go_simp; done) | (go_simp; rfl)); intro gb113 hg w9 hbox hb; have n0_ := Aside0.mk (blk_below (g := gb109) (o := .cells #[.int .i64 a1_0, .int .i64 a1_1] 44 (0, 0)) (by (with_reducible repeat (first | refine blk_drewN ?_ _ | refine blk_drew ?_ | refine blk_alloc ?_ _)); exact BK109.out) hb); have n1_ := Aside0.mk (blk_below (g := gb110) (o := .cells #[.int .i64 a2_0, .int .i64 a2_1] 26 (0, 0)) (by (with_reducible repeat (first | refine blk_drewN ?_ _ | refine blk_drew ?_ | refine blk_alloc ?_ _)); exact BK110.out) hb); have n2_ := Aside0.mk (blk_below (g := gb111) (o := .cells #[.int .i64 0, .int .i64 0] 44 (0, 0)) (by (with_reducible repeat (first | refine blk_drewN ?_ _ | refine blk_drew ?_ | refine blk_alloc ?_ _)); exact BK111.out) hb); have n3_ := Aside0.mk (blk_below (g := gb112) (o := .cells #[.int .i64 0, .int .i64 0, .string (⟨#[]⟩ : ByteArray)] 46 (0, 0)) (by (with_reducible repeat (first | refine blk_drewN ?_ _ | refine blk_drew ?_ | refine blk_alloc ?_ _)); exact BK112.out) hb); have n4_ := Aside0.mk (below_step (by repeat (first | (with_reducible first | exact HB.out | apply below_alloc | apply pw_below_drewN | apply below_drew1 | refine below_set ?_ GE109.out | refine below_set ?_ GE110.out | refine below_set ?_ GE111.out | refine below_set ?_ GE112.out) | exact HB.out)) hb); have n5_ := Aside0.mk (hbox); have n6_ := Aside0.mk ((by rw [hg]; exact (below_size (by repeat (first | (with_reducible first | exact HB.out | apply below_alloc | apply pw_below_drewN | apply below_drew1 | refine below_set ?_ GE109.out | refine below_set ?_ GE110.out | refine below_set ?_ GE111.out | refine below_set ?_ GE112.out) | exact HB.out))) : w.heap.size ≤ gb113)); have n7_ := Aside0.mk ((by rw [hg]; exact (below_size (by repeat (first | (with_reducible first | exact HB.out | apply below_alloc | apply pw_below_drewN | apply below_drew1 | refine below_set ?_ GE109.out | refine below_set ?_ GE110.out | refine below_set ?_ GE111.out | refine below_set ?_ GE112.out) | exact HB.out))) : w.heap.size ≤ gb113)); have n8_ := Aside0.mk ((by rw [hg]; exact Nat.ne_of_lt (blk_lt (g := gb109) (o := .cells #[.int .i64 a1_0, .int .i64 a1_1] 44 (0, 0)) (by (with_reducible repeat (first | refine blk_drewN ?_ _ | refine blk_drew ?_ | refine blk_alloc ?_ _)); exact BK109.out)) : gb109 ≠ gb113)); have n9_ := Aside0.mk ((by rw [hg]; exact Nat.ne_of_gt (blk_lt (g := gb109) (o := .cells #[.int .i64 a1_0, .int .i64 a1_1] 44 (0, 0)) (by (with_reducible repeat (first | refine blk_drewN ?_ _ | refine blk_drew ?_ | refine blk_alloc ?_ _)); exact BK109.out)) : gb113 ≠ gb109)); have n10_ := Aside0.mk ((by rw [hg]; exact Nat.ne_of_lt (blk_lt (g := gb110) (o := .cells #[.int .i64 a2_0, .int .i64 a2_1] 26 (0, 0)) (by (with_reducible repeat (first | refine blk_drewN ?_ _ | refine blk_drew ?_ | refine blk_alloc ?_ _)); exact BK110.out)) : gb110 ≠ gb113)); have n11_ := Aside0.mk ((by rw [hg]; exact Nat.ne_of_gt (blk_lt (g := gb110) (o := .cells #[.int .i64 a2_0, .int .i64 a2_1] 26 (0, 0)) (by (with_reducible repeat (first | refine blk_drewN ?_ _ | refine blk_drew ?_ | refine blk_alloc ?_ _)); exact BK110.out)) : gb113 ≠ gb110)); have n12_ := Aside0.mk ((by rw [hg]; exact Nat.ne_of_lt (blk_lt (g := gb111) (o := .cells #[.int .i64 0, .int .i64 0] 44 (0, 0)) (by (with_reducible repeat (first | refine blk_drewN ?_ _ | refine blk_drew ?_ | refine blk_alloc ?_ _)); exact BK111.out)) : gb111 ≠ gb113)); have n13_ := Aside0.mk ((by rw [hg]; exact Nat.ne_of_gt (blk_lt (g := gb111) (o := .cells #[.int .i64 0, .int .i64 0] 44 (0, 0)) (by (with_reducible repeat (first | refine blk_drewN ?_ _ | refine blk_drew ?_ | refine blk_alloc ?_ _)); exact BK111.out)) : gb113 ≠ gb111)); have n14_ := Aside0.mk ((by rw [hg]; exact Nat.ne_of_lt (blk_lt (g := gb112) (o := .cells #[.int .i64 0, .int .i64 0, .string (⟨#[]⟩ : ByteArray)] 46 (0, 0)) (by (with_reducible repeat (first | refine blk_drewN ?_ _ | refine blk_drew ?_ | refine blk_alloc ?_ _)); exact BK112.out)) : gb112 ≠ gb113)); have n15_ := Aside0.mk ((by rw [hg]; exact Nat.ne_of_gt (blk_lt (g := gb112) (o := .cells #[.int .i64 0, .int .i64 0, .string (⟨#[]⟩ : ByteArray)] 46 (0, 0)) (by (with_reducible repeat (first | refine blk_drewN ?_ _ | refine blk_drew ?_ | refine blk_alloc ?_ _)); exact BK112.out)) : gb113 ≠ gb112)); clear BK109; clear BK110; clear BK111; clear BK112; clear HB; have BK109 := n0_; have BK110 := n1_; have BK111 := n2_; have BK112 := n3_; have HB := n4_; have BK113 := n5_; have GW113 := n6_; have GE113 := n7_; have NB109_113 := n8_; have NB113_109 := n9_; have NB110_113 := n10_; have NB113_110 := n11_; have NB111_113 := n12_; have NB113_111 := n13_; have NB112_113 := n14_; have NB113_112 := n15_; clear n0_ n1_ n2_ n3_ n4_ n5_ n6_ n7_ n8_ n9_ n10_ n11_ n12_ n13_ n14_ n15_; clear hb hbox hg; have hnb10 := NB113_109.out; have hnc10 := NB109_113.out; have hnb11 := NB113_110.out; have hnc11 := NB110_113.out; have hnb12 := NB113_111.out; have hnc12 := NB111_113.out; have hnb13 := NB113_112.out; have hnc13 := NB112_113.out; have hcz14_0 : w9.cell? ⟨gb113, 0, none⟩ = some (.int .i64 0) := (blk_cell BK113.out 0).trans rfl; have hcz14_1 : w9.cell? ⟨gb113, 1, none⟩ = some (.int .i64 0) := (blk_cell BK113.out 1).trans rfl; have hcz14_2 : w9.cell? ⟨gb113, 2, none⟩ = some (.string (⟨#[]⟩ : ByteArray)) := (blk_cell BK113.out 2).trans rfl; have hfz14_0 := blk_frozen BK113.out 0; have hfz14_1 := blk_frozen BK113.out 1; have hfz14_2 := blk_frozen BK113.out 2; have hnb15 := NB109_110.out; have hnc15 := NB110_109.out; have hnb16 := NB109_111.out; have hnc16 := NB111_109.out; have hnb17 := NB109_112.out; have hnc17 := NB112_109.out; have hcz18_0 : w9.cell? ⟨gb109, 0, none⟩ = some (.int .i64 a1_0) := (blk_cell BK109.out 0).trans rfl; have hcz18_1 : w9.cell? ⟨gb109, 1, none⟩ = some (.int .i64 a1_1) := (blk_cell BK109.out 1).trans rfl; have hfz18_0 := blk_frozen BK109.out 0; have hfz18_1 := blk_frozen BK109.out 1; have hnb19 := NB110_111.out; have hnc19 := NB111_110.out; have hnb20 := NB110_112.out; have hnc20 := NB112_110.out; have hcz21_0 : w9.cell? ⟨gb110, 0, none⟩ = some (.int .i64 a2_0) := (blk_cell BK110.out 0).trans rfl; have hcz21_1 : w9.cell? ⟨gb110, 1, none⟩ = some (.int .i64 a2_1) := (blk_cell BK110.out 1).trans rfl; have hfz21_0 := blk_frozen BK110.out 0; have hfz21_1 := blk_frozen BK110.out 1))
  (try simp only [Act.put, List.setIfInBounds_toArray, List.set_cons_zero, List.set_cons_succ])
  go_cut [11] (fun v11 wc => ∃ (kq : Nat) (x11_3 : Bool), v11 = .bool x11_3 ∧ Aside0 (spec_Next.j0 kq l0 (wrap64 (a1_1 + a2_1)) x11_3 a1_0 a1_1 a2_0 a2_1 0 0 (⟨#[]⟩ : ByteArray) = some (r1, r2, r3, r4, r5, r6)) ∧ Aside0 (kq ≤ k) ∧ Aside0 (wc.heap[gb109]? = some (.cells #[.int .i64 a1_0, .int .i64 a1_1] 44 (0, 0))) ∧ Aside0 (wc.heap[gb110]? = some (.cells #[.int .i64 a2_0, .int .i64 a2_1] 26 (0, 0))) ∧ Aside0 (wc.heap[gb111]? = some (.cells #[.int .i64 0, .int .i64 0] 44 (0, 0))) ∧ Aside0 (wc.heap[gb112]? = some (.cells #[.int .i64 0, .int .i64 0, .string (⟨#[]⟩ : ByteArray)] 46 (0, 0))) ∧ Aside0 (wc.heap[gb113]? = some (.cells #[.int .i64 0, .int .i64 0, .string (⟨#[]⟩ : ByteArray)] 46 (0, 0))) ∧ Aside0 (Below w.heap.size w wc))
  case first =>
    have H := HC4.out
    clear HC4
    by_cases c22 : a2_1 ≥ (wrap64 (-(l0.length : Int)))
    · rw [if_pos c22] at H
      have c22b0 : decide ((wrap64 (-(l0.length : Int))) ≤ a2_1) = true := decide_eq_true c22
      clear c22
      (first | rw [c22b0] | (simp only [i64_w, i32_w]; rw [c22b0]) | skip)
      by_cases c23 : a2_1 ≤ (l0.length : Int)
      · rw [if_pos c23] at H
        have c23b0 : decide (a2_1 ≤ (l0.length : Int)) = true := decide_eq_true c23
        clear c23
        by_cases c24 : (wrap64 (a1_1 + a2_1)) ≥ a1_0
        · rw [if_pos c24] at H
          have c24b0 : decide (a1_0 ≤ (wrap64 (a1_1 + a2_1))) = true := decide_eq_true c24
          clear c24
          have H' := Aside0.mk H
          clear H
          have hnb25 := NB110_109.out
          have hnc25 := NB109_110.out
          have hnb26 := NB110_111.out
          have hnc26 := NB111_110.out
          have hnb27 := NB110_112.out
          have hnc27 := NB112_110.out
          have hnb28 := NB110_113.out
          have hnc28 := NB113_110.out
          have hcz29_0 : w9.cell? ⟨gb110, 0, none⟩ = some (.int .i64 a2_0) := (blk_cell BK110.out 0).trans rfl
          have hcz29_1 : w9.cell? ⟨gb110, 1, none⟩ = some (.int .i64 a2_1) := (blk_cell BK110.out 1).trans rfl
          have hfz29_0 := blk_frozen BK110.out 0
          have hfz29_1 := blk_frozen BK110.out 1
          have hnb30 := NB109_111.out
          have hnc30 := NB111_109.out
          have hnb31 := NB109_112.out
          have hnc31 := NB112_109.out
          have hnb32 := NB109_113.out
          have hnc32 := NB113_109.out
          have hcz33_0 : w9.cell? ⟨gb109, 0, none⟩ = some (.int .i64 a1_0) := (blk_cell BK109.out 0).trans rfl
          have hcz33_1 : w9.cell? ⟨gb109, 1, none⟩ = some (.int .i64 a1_1) := (blk_cell BK109.out 1).trans rfl
          have hfz33_0 := blk_frozen BK109.out 0
          have hfz33_1 := blk_frozen BK109.out 1
          go_wp2
          go_meet
          case rel => exact ⟨_, (decide ((wrap64 (a1_1 + a2_1)) ≤ (l0.length : Int))), (by first | rfl | (simp; done) | (simp [*]; done)), H', ⟨by first | omega | exact Nat.le_refl _⟩, ⟨by (with_reducible repeat (first | refine blk_drewN ?_ _ | refine blk_drew ?_ | refine blk_alloc ?_ _)); refine blk_far ?_ NB109_113.out _; (with_reducible repeat (first | refine blk_drewN ?_ _ | refine blk_drew ?_ | refine blk_alloc ?_ _)); refine blk_far ?_ NB109_113.out _; (with_reducible repeat (first | refine blk_drewN ?_ _ | refine blk_drew ?_ | refine blk_alloc ?_ _)); refine blk_far ?_ NB109_113.out _; (with_reducible repeat (first | refine blk_drewN ?_ _ | refine blk_drew ?_ | refine blk_alloc ?_ _)); exact BK109.out⟩, ⟨by (with_reducible repeat (first | refine blk_drewN ?_ _ | refine blk_drew ?_ | refine blk_alloc ?_ _)); refine blk_far ?_ NB110_113.out _; (with_reducible repeat (first | refine blk_drewN ?_ _ | refine blk_drew ?_ | refine blk_alloc ?_ _)); refine blk_far ?_ NB110_113.out _; (with_reducible repeat (first | refine blk_drewN ?_ _ | refine blk_drew ?_ | refine blk_alloc ?_ _)); refine blk_far ?_ NB110_113.out _; (with_reducible repeat (first | refine blk_drewN ?_ _ | refine blk_drew ?_ | refine blk_alloc ?_ _)); exact BK110.out⟩, ⟨by (with_reducible repeat (first | refine blk_drewN ?_ _ | refine blk_drew ?_ | refine blk_alloc ?_ _)); refine blk_far ?_ NB111_113.out _; (with_reducible repeat (first | refine blk_drewN ?_ _ | refine blk_drew ?_ | refine blk_alloc ?_ _)); refine blk_far ?_ NB111_113.out _; (with_reducible repeat (first | refine blk_drewN ?_ _ | refine blk_drew ?_ | refine blk_alloc ?_ _)); refine blk_far ?_ NB111_113.out _; (with_reducible repeat (first | refine blk_drewN ?_ _ | refine blk_drew ?_ | refine blk_alloc ?_ _)); exact BK111.out⟩, ⟨by (with_reducible repeat (first | refine blk_drewN ?_ _ | refine blk_drew ?_ | refine blk_alloc ?_ _)); refine blk_far ?_ NB112_113.out _; (with_reducible repeat (first | refine blk_drewN ?_ _ | refine blk_drew ?_ | refine blk_alloc ?_ _)); refine blk_far ?_ NB112_113.out _; (with_reducible repeat (first | refine blk_drewN ?_ _ | refine blk_drew ?_ | refine blk_alloc ?_ _)); refine blk_far ?_ NB112_113.out _; (with_reducible repeat (first | refine blk_drewN ?_ _ | refine blk_drew ?_ | refine blk_alloc ?_ _)); exact BK112.out⟩, ⟨by (with_reducible repeat (first | refine blk_drewN ?_ _ | refine blk_drew ?_ | refine blk_alloc ?_ _)); refine blk_put (cs := #[.int .i64 0, .int .i64 0, .string (⟨#[]⟩ : ByteArray)]) ?_ 2 _ rfl; (with_reducible repeat (first | refine blk_drewN ?_ _ | refine blk_drew ?_ | refine blk_alloc ?_ _)); refine blk_put (cs := #[.int .i64 0, .int .i64 0, .string (⟨#[]⟩ : ByteArray)]) ?_ 1 _ rfl; (with_reducible repeat (first | refine blk_drewN ?_ _ | refine blk_drew ?_ | refine blk_alloc ?_ _)); refine blk_put (cs := #[.int .i64 0, .int .i64 0, .string (⟨#[]⟩ : ByteArray)]) ?_ 0 _ rfl; (with_reducible repeat (first | refine blk_drewN ?_ _ | refine blk_drew ?_ | refine blk_alloc ?_ _)); exact BK113.out⟩, ⟨by repeat (first | (with_reducible first | exact HB.out | apply below_alloc | apply pw_below_drewN | apply below_drew1 | refine below_set ?_ GE109.out | refine below_set ?_ GE110.out | refine below_set ?_ GE111.out | refine below_set ?_ GE112.out | refine below_set ?_ GE113.out) | exact HB.out)⟩⟩
        · rw [if_neg c24] at H
          have c24b0 : decide (a1_0 ≤ (wrap64 (a1_1 + a2_1))) = false := decide_eq_false c24
          clear c24
          have H' := Aside0.mk H
          clear H
          have hnb34 := NB110_109.out
          have hnc34 := NB109_110.out
          have hnb35 := NB110_111.out
          have hnc35 := NB111_110.out
          have hnb36 := NB110_112.out
          have hnc36 := NB112_110.out
          have hnb37 := NB110_113.out
          have hnc37 := NB113_110.out
          have hcz38_0 : w9.cell? ⟨gb110, 0, none⟩ = some (.int .i64 a2_0) := (blk_cell BK110.out 0).trans rfl
          have hcz38_1 : w9.cell? ⟨gb110, 1, none⟩ = some (.int .i64 a2_1) := (blk_cell BK110.out 1).trans rfl
          have hfz38_0 := blk_frozen BK110.out 0
          have hfz38_1 := blk_frozen BK110.out 1
          have hnb39 := NB109_111.out
          have hnc39 := NB111_109.out
          have hnb40 := NB109_112.out
          have hnc40 := NB112_109.out
          have hnb41 := NB109_113.out
          have hnc41 := NB113_109.out
          have hcz42_0 : w9.cell? ⟨gb109, 0, none⟩ = some (.int .i64 a1_0) := (blk_cell BK109.out 0).trans rfl
          have hcz42_1 : w9.cell? ⟨gb109, 1, none⟩ = some (.int .i64 a1_1) := (blk_cell BK109.out 1).trans rfl
          have hfz42_0 := blk_frozen BK109.out 0
          have hfz42_1 := blk_frozen BK109.out 1
          go_wp2
          go_meet
          case rel => exact ⟨_, (false), (by first | rfl | (simp; done) | (simp [*]; done)), H', ⟨by first | omega | exact Nat.le_refl _⟩, ⟨by (with_reducible repeat (first | refine blk_drewN ?_ _ | refine blk_drew ?_ | refine blk_alloc ?_ _)); refine blk_far ?_ NB109_113.out _; (with_reducible repeat (first | refine blk_drewN ?_ _ | refine blk_drew ?_ | refine blk_alloc ?_ _)); refine blk_far ?_ NB109_113.out _; (with_reducible repeat (first | refine blk_drewN ?_ _ | refine blk_drew ?_ | refine blk_alloc ?_ _)); refine blk_far ?_ NB109_113.out _; (with_reducible repeat (first | refine blk_drewN ?_ _ | refine blk_drew ?_ | refine blk_alloc ?_ _)); exact BK109.out⟩, ⟨by (with_reducible repeat (first | refine blk_drewN ?_ _ | refine blk_drew ?_ | refine blk_alloc ?_ _)); refine blk_far ?_ NB110_113.out _; (with_reducible repeat (first | refine blk_drewN ?_ _ | refine blk_drew ?_ | refine blk_alloc ?_ _)); refine blk_far ?_ NB110_113.out _; (with_reducible repeat (first | refine blk_drewN ?_ _ | refine blk_drew ?_ | refine blk_alloc ?_ _)); refine blk_far ?_ NB110_113.out _; (with_reducible repeat (first | refine blk_drewN ?_ _ | refine blk_drew ?_ | refine blk_alloc ?_ _)); exact BK110.out⟩, ⟨by (with_reducible repeat (first | refine blk_drewN ?_ _ | refine blk_drew ?_ | refine blk_alloc ?_ _)); refine blk_far ?_ NB111_113.out _; (with_reducible repeat (first | refine blk_drewN ?_ _ | refine blk_drew ?_ | refine blk_alloc ?_ _)); refine blk_far ?_ NB111_113.out _; (with_reducible repeat (first | refine blk_drewN ?_ _ | refine blk_drew ?_ | refine blk_alloc ?_ _)); refine blk_far ?_ NB111_113.out _; (with_reducible repeat (first | refine blk_drewN ?_ _ | refine blk_drew ?_ | refine blk_alloc ?_ _)); exact BK111.out⟩, ⟨by (with_reducible repeat (first | refine blk_drewN ?_ _ | refine blk_drew ?_ | refine blk_alloc ?_ _)); refine blk_far ?_ NB112_113.out _; (with_reducible repeat (first | refine blk_drewN ?_ _ | refine blk_drew ?_ | refine blk_alloc ?_ _)); refine blk_far ?_ NB112_113.out _; (with_reducible repeat (first | refine blk_drewN ?_ _ | refine blk_drew ?_ | refine blk_alloc ?_ _)); refine blk_far ?_ NB112_113.out _; (with_reducible repeat (first | refine blk_drewN ?_ _ | refine blk_drew ?_ | refine blk_alloc ?_ _)); exact BK112.out⟩, ⟨by (with_reducible repeat (first | refine blk_drewN ?_ _ | refine blk_drew ?_ | refine blk_alloc ?_ _)); refine blk_put (cs := #[.int .i64 0, .int .i64 0, .string (⟨#[]⟩ : ByteArray)]) ?_ 2 _ rfl; (with_reducible repeat (first | refine blk_drewN ?_ _ | refine blk_drew ?_ | refine blk_alloc ?_ _)); refine blk_put (cs := #[.int .i64 0, .int .i64 0, .string (⟨#[]⟩ : ByteArray)]) ?_ 1 _ rfl; (with_reducible repeat (first | refine blk_drewN ?_ _ | refine blk_drew ?_ | refine blk_alloc ?_ _)); refine blk_put (cs := #[.int .i64 0, .int .i64 0, .string (⟨#[]⟩ : ByteArray)]) ?_ 0 _ rfl; (with_reducible repeat (first | refine blk_drewN ?_ _ | refine blk_drew ?_ | refine blk_alloc ?_ _)); exact BK113.out⟩, ⟨by repeat (first | (with_reducible first | exact HB.out | apply below_alloc | apply pw_below_drewN | apply below_drew1 | refine below_set ?_ GE109.out | refine below_set ?_ GE110.out | refine below_set ?_ GE111.out | refine below_set ?_ GE112.out | refine below_set ?_ GE113.out) | exact HB.out)⟩⟩
      · rw [if_neg c23] at H
        have c23b0 : decide (a2_1 ≤ (l0.length : Int)) = false := decide_eq_false c23
        clear c23
        have H' := Aside0.mk H
        clear H
        have hnb43 := NB110_109.out
        have hnc43 := NB109_110.out
        have hnb44 := NB110_111.out
        have hnc44 := NB111_110.out
        have hnb45 := NB110_112.out
        have hnc45 := NB112_110.out
        have hnb46 := NB110_113.out
        have hnc46 := NB113_110.out
        have hcz47_0 : w9.cell? ⟨gb110, 0, none⟩ = some (.int .i64 a2_0) := (blk_cell BK110.out 0).trans rfl
        have hcz47_1 : w9.cell? ⟨gb110, 1, none⟩ = some (.int .i64 a2_1) := (blk_cell BK110.out 1).trans rfl
        have hfz47_0 := blk_frozen BK110.out 0
        have hfz47_1 := blk_frozen BK110.out 1
        go_wp2
        go_meet
        case rel => exact ⟨_, (false), (by first | rfl | (simp; done) | (simp [*]; done)), H', ⟨by first | omega | exact Nat.le_refl _⟩, ⟨by (with_reducible repeat (first | refine blk_drewN ?_ _ | refine blk_drew ?_ | refine blk_alloc ?_ _)); refine blk_far ?_ NB109_113.out _; (with_reducible repeat (first | refine blk_drewN ?_ _ | refine blk_drew ?_ | refine blk_alloc ?_ _)); refine blk_far ?_ NB109_113.out _; (with_reducible repeat (first | refine blk_drewN ?_ _ | refine blk_drew ?_ | refine blk_alloc ?_ _)); refine blk_far ?_ NB109_113.out _; (with_reducible repeat (first | refine blk_drewN ?_ _ | refine blk_drew ?_ | refine blk_alloc ?_ _)); exact BK109.out⟩, ⟨by (with_reducible repeat (first | refine blk_drewN ?_ _ | refine blk_drew ?_ | refine blk_alloc ?_ _)); refine blk_far ?_ NB110_113.out _; (with_reducible repeat (first | refine blk_drewN ?_ _ | refine blk_drew ?_ | refine blk_alloc ?_ _)); refine blk_far ?_ NB110_113.out _; (with_reducible repeat (first | refine blk_drewN ?_ _ | refine blk_drew ?_ | refine blk_alloc ?_ _)); refine blk_far ?_ NB110_113.out _; (with_reducible repeat (first | refine blk_drewN ?_ _ | refine blk_drew ?_ | refine blk_alloc ?_ _)); exact BK110.out⟩, ⟨by (with_reducible repeat (first | refine blk_drewN ?_ _ | refine blk_drew ?_ | refine blk_alloc ?_ _)); refine blk_far ?_ NB111_113.out _; (with_reducible repeat (first | refine blk_drewN ?_ _ | refine blk_drew ?_ | refine blk_alloc ?_ _)); refine blk_far ?_ NB111_113.out _; (with_reducible repeat (first | refine blk_drewN ?_ _ | refine blk_drew ?_ | refine blk_alloc ?_ _)); refine blk_far ?_ NB111_113.out _; (with_reducible repeat (first | refine blk_drewN ?_ _ | refine blk_drew ?_ | refine blk_alloc ?_ _)); exact BK111.out⟩, ⟨by (with_reducible repeat (first | refine blk_drewN ?_ _ | refine blk_drew ?_ | refine blk_alloc ?_ _)); refine blk_far ?_ NB112_113.out _; (with_reducible repeat (first | refine blk_drewN ?_ _ | refine blk_drew ?_ | refine blk_alloc ?_ _)); refine blk_far ?_ NB112_113.out _; (with_reducible repeat (first | refine blk_drewN ?_ _ | refine blk_drew ?_ | refine blk_alloc ?_ _)); refine blk_far ?_ NB112_113.out _; (with_reducible repeat (first | refine blk_drewN ?_ _ | refine blk_drew ?_ | refine blk_alloc ?_ _)); exact BK112.out⟩, ⟨by (with_reducible repeat (first | refine blk_drewN ?_ _ | refine blk_drew ?_ | refine blk_alloc ?_ _)); refine blk_put (cs := #[.int .i64 0, .int .i64 0, .string (⟨#[]⟩ : ByteArray)]) ?_ 2 _ rfl; (with_reducible repeat (first | refine blk_drewN ?_ _ | refine blk_drew ?_ | refine blk_alloc ?_ _)); refine blk_put (cs := #[.int .i64 0, .int .i64 0, .string (⟨#[]⟩ : ByteArray)]) ?_ 1 _ rfl; (with_reducible repeat (first | refine blk_drewN ?_ _ | refine blk_drew ?_ | refine blk_alloc ?_ _)); refine blk_put (cs := #[.int .i64 0, .int .i64 0, .string (⟨#[]⟩ : ByteArray)]) ?_ 0 _ rfl; (with_reducible repeat (first | refine blk_drewN ?_ _ | refine blk_drew ?_ | refine blk_alloc ?_ _)); exact BK113.out⟩, ⟨by repeat (first | (with_reducible first | exact HB.out | apply below_alloc | apply pw_below_drewN | apply below_drew1 | refine below_set ?_ GE109.out | refine below_set ?_ GE110.out | refine below_set ?_ GE111.out | refine below_set ?_ GE112.out | refine below_set ?_ GE113.out) | exact HB.out)⟩⟩
    · rw [if_neg c22] at H
      have c22b0 : decide ((wrap64 (-(l0.length : Int))) ≤ a2_1) = false := decide_eq_false c22
      clear c22
      (first | rw [c22b0] | (simp only [i64_w, i32_w]; rw [c22b0]) | skip)
      have H' := Aside0.mk H
      clear H
      have hnb48 := NB110_109.out
      have hnc48 := NB109_110.out
      have hnb49 := NB110_111.out
      have hnc49 := NB111_110.out
      have hnb50 := NB110_112.out
      have hnc50 := NB112_110.out
      have hnb51 := NB110_113.out
      have hnc51 := NB113_110.out
      have hcz52_0 : w9.cell? ⟨gb110, 0, none⟩ = some (.int .i64 a2_0) := (blk_cell BK110.out 0).trans rfl
      have hcz52_1 : w9.cell? ⟨gb110, 1, none⟩ = some (.int .i64 a2_1) := (blk_cell BK110.out 1).trans rfl
      have hfz52_0 := blk_frozen BK110.out 0
      have hfz52_1 := blk_frozen BK110.out 1
      go_wp2
      go_meet
      case rel => exact ⟨_, (false), (by first | rfl | (simp; done) | (simp [*]; done)), H', ⟨by first | omega | exact Nat.le_refl _⟩, ⟨by (with_reducible repeat (first | refine blk_drewN ?_ _ | refine blk_drew ?_ | refine blk_alloc ?_ _)); refine blk_far ?_ NB109_113.out _; (with_reducible repeat (first | refine blk_drewN ?_ _ | refine blk_drew ?_ | refine blk_alloc ?_ _)); refine blk_far ?_ NB109_113.out _; (with_reducible repeat (first | refine blk_drewN ?_ _ | refine blk_drew ?_ | refine blk_alloc ?_ _)); refine blk_far ?_ NB109_113.out _; (with_reducible repeat (first | refine blk_drewN ?_ _ | refine blk_drew ?_ | refine blk_alloc ?_ _)); exact BK109.out⟩, ⟨by (with_reducible repeat (first | refine blk_drewN ?_ _ | refine blk_drew ?_ | refine blk_alloc ?_ _)); refine blk_far ?_ NB110_113.out _; (with_reducible repeat (first | refine blk_drewN ?_ _ | refine blk_drew ?_ | refine blk_alloc ?_ _)); refine blk_far ?_ NB110_113.out _; (with_reducible repeat (first | refine blk_drewN ?_ _ | refine blk_drew ?_ | refine blk_alloc ?_ _)); refine blk_far ?_ NB110_113.out _; (with_reducible repeat (first | refine blk_drewN ?_ _ | refine blk_drew ?_ | refine blk_alloc ?_ _)); exact BK110.out⟩, ⟨by (with_reducible repeat (first | refine blk_drewN ?_ _ | refine blk_drew ?_ | refine blk_alloc ?_ _)); refine blk_far ?_ NB111_113.out _; (with_reducible repeat (first | refine blk_drewN ?_ _ | refine blk_drew ?_ | refine blk_alloc ?_ _)); refine blk_far ?_ NB111_113.out _; (with_reducible repeat (first | refine blk_drewN ?_ _ | refine blk_drew ?_ | refine blk_alloc ?_ _)); refine blk_far ?_ NB111_113.out _; (with_reducible repeat (first | refine blk_drewN ?_ _ | refine blk_drew ?_ | refine blk_alloc ?_ _)); exact BK111.out⟩, ⟨by (with_reducible repeat (first | refine blk_drewN ?_ _ | refine blk_drew ?_ | refine blk_alloc ?_ _)); refine blk_far ?_ NB112_113.out _; (with_reducible repeat (first | refine blk_drewN ?_ _ | refine blk_drew ?_ | refine blk_alloc ?_ _)); refine blk_far ?_ NB112_113.out _; (with_reducible repeat (first | refine blk_drewN ?_ _ | refine blk_drew ?_ | refine blk_alloc ?_ _)); refine blk_far ?_ NB112_113.out _; (with_reducible repeat (first | refine blk_drewN ?_ _ | refine blk_drew ?_ | refine blk_alloc ?_ _)); exact BK112.out⟩, ⟨by (with_reducible repeat (first | refine blk_drewN ?_ _ | refine blk_drew ?_ | refine blk_alloc ?_ _)); refine blk_put (cs := #[.int .i64 0, .int .i64 0, .string (⟨#[]⟩ : ByteArray)]) ?_ 2 _ rfl; (with_reducible repeat (first | refine blk_drewN ?_ _ | refine blk_drew ?_ | refine blk_alloc ?_ _)); refine blk_put (cs := #[.int .i64 0, .int .i64 0, .string (⟨#[]⟩ : ByteArray)]) ?_ 1 _ rfl; (with_reducible repeat (first | refine blk_drewN ?_ _ | refine blk_drew ?_ | refine blk_alloc ?_ _)); refine blk_put (cs := #[.int .i64 0, .int .i64 0, .string (⟨#[]⟩ : ByteArray)]) ?_ 0 _ rfl; (with_reducible repeat (first | refine blk_drewN ?_ _ | refine blk_drew ?_ | refine blk_alloc ?_ _)); exact BK113.out⟩, ⟨by repeat (first | (with_reducible first | exact HB.out | apply below_alloc | apply pw_below_drewN | apply below_drew1 | refine below_set ?_ GE109.out | refine below_set ?_ GE110.out | refine below_set ?_ GE111.out | refine below_set ?_ GE112.out | refine below_set ?_ GE113.out) | exact HB.out)⟩⟩
  case rest =>
    clear HC4
    try clear c1
    try clear c2
    try clear p2
    try clear c3
    try clear c4
    try clear c5
    try clear p6
    try clear c10
    try clear c11
    try clear c12
    try clear c13
    try clear c15
    try clear c16
    try clear c17
    try clear c19
    try clear c20
    try clear c22
    try clear c22b0
    try clear c23
    try clear c23b0
    try clear c24
    try clear c24b0
    try clear c25
    try clear c26
    try clear c27
    try clear c28
    try clear c30
    try clear c31
    try clear c32
    try clear c34
    try clear c35
    try clear c36
    try clear c37
    try clear c39
    try clear c40
    try clear c41
    try clear c43
    try clear c44
    try clear c45
    try clear c46
    try clear c48
    try clear c49
    try clear c50
    try clear c51
    try clear hcz14_0
    try clear hcz14_1
    try clear hcz14_2
    try clear hcz18_0
    try clear hcz18_1
    try clear hcz21_0
    try clear hcz21_1
    try clear hcz29_0
    try clear hcz29_1
    try clear hcz33_0
    try clear hcz33_1
    try clear hcz38_0
    try clear hcz38_1
    try clear hcz42_0
    try clear hcz42_1
    try clear hcz47_0
    try clear hcz47_1
    try clear hcz52_0
    try clear hcz52_1
    try clear hfz14_0
    try clear hfz14_1
    try clear hfz14_2
    try clear hfz18_0
    try clear hfz18_1
    try clear hfz21_0
    try clear hfz21_1
    try clear hfz29_0
    try clear hfz29_1
    try clear hfz33_0
    try clear hfz33_1
    try clear hfz38_0
    try clear hfz38_1
    try clear hfz42_0
    try clear hfz42_1
    try clear hfz47_0
    try clear hfz47_1
    try clear hfz52_0
    try clear hfz52_1
    obtain ⟨kq, x11_3, rfl, HA, HJ3, BK109, BK110, BK111, BK112, BK113, HB⟩ := hcut
    cases kq with
    | zero => exact absurd HA.out (by simp [spec_Next.j0])
    | succ kj3 =>
      have H := HA.out
      clear HA
      simp only [spec_Next.j0] at H
      by_cases c53 : a2_0 = 0
      · exact absurd HGRP.out (by omega)
      · rw [if_neg c53] at H
        have c53b0 : (a2_0 == 0) = false := beq_eq_false_iff_ne.mpr c53
        have c53b1 : (a2_0 != 0) = true := bne_iff_ne.mpr c53
        by_cases c70 : a2_0 = 1
        · exact absurd HGRP.out (by omega)
        · rw [if_neg c70] at H
          have c70b0 : (a2_0 == 1) = false := beq_eq_false_iff_ne.mpr c70
          have c70b1 : (a2_0 != 1) = true := bne_iff_ne.mpr c70
          by_cases c104 : a2_0 = 2
          · exact absurd HGRP.out (by omega)
          · rw [if_neg c104] at H
            have c104b0 : (a2_0 == 2) = false := beq_eq_false_iff_ne.mpr c104
            have c104b1 : (a2_0 != 2) = true := bne_iff_ne.mpr c104
            by_cases c129 : a2_0 = 3
            · exact absurd HGRP.out (by omega)
            · rw [if_neg c129] at H
              have c129b0 : (a2_0 == 3) = false := beq_eq_false_iff_ne.mpr c129
              have c129b1 : (a2_0 != 3) = true := bne_iff_ne.mpr c129
              by_cases c146 : a2_0 = 4
              · exact absurd HGRP.out (by omega)
              · rw [if_neg c146] at H
                have c146b0 : (a2_0 == 4) = false := beq_eq_false_iff_ne.mpr c146
                have c146b1 : (a2_0 != 4) = true := bne_iff_ne.mpr c146
                by_cases c189 : a2_0 = 5
                · exact absurd HGRP.out (by omega)
                · rw [if_neg c189] at H
                  have c189b0 : (a2_0 == 5) = false := beq_eq_false_iff_ne.mpr c189
                  have c189b1 : (a2_0 != 5) = true := bne_iff_ne.mpr c189
                  by_cases c230 : a2_0 = 6
                  · exact absurd HGRP.out (by omega)
                  · rw [if_neg c230] at H
                    have c230b0 : (a2_0 == 6) = false := beq_eq_false_iff_ne.mpr c230
                    have c230b1 : (a2_0 != 6) = true := bne_iff_ne.mpr c230
                    by_cases c255 : a2_0 = 7
                    · exact absurd HGRP.out (by omega)
                    · rw [if_neg c255] at H
                      have c255b0 : (a2_0 == 7) = false := beq_eq_false_iff_ne.mpr c255
                      have c255b1 : (a2_0 != 7) = true := bne_iff_ne.mpr c255
                      by_cases c275 : a2_0 = 8
                      · rw [if_pos c275] at H
                        have c275b0 : (a2_0 == 8) = true := beq_iff_eq.mpr c275
                        have c275b1 : (a2_0 != 8) = false := bne_eq_false_iff_eq.mpr c275
                        clear c275
                        simp only [Option.some.injEq, Prod.mk.injEq] at H
                        obtain ⟨rfl, rfl, rfl, rfl, rfl, rfl⟩ := H
                        have hnb276 := NB110_109.out
                        have hnc276 := NB109_110.out
                        have hnb277 := NB110_111.out
                        have hnc277 := NB111_110.out
                        have hnb278 := NB110_112.out
                        have hnc278 := NB112_110.out
                        have hnb279 := NB110_113.out
                        have hnc279 := NB113_110.out
                        have hcz280_0 : wc.cell? ⟨gb110, 0, none⟩ = some (.int .i64 a2_0) := (blk_cell BK110.out 0).trans rfl
                        have hcz280_1 : wc.cell? ⟨gb110, 1, none⟩ = some (.int .i64 a2_1) := (blk_cell BK110.out 1).trans rfl
                        have hfz280_0 := blk_frozen BK110.out 0
                        have hfz280_1 := blk_frozen BK110.out 1
                        have hnb281 := NB109_111.out
                        have hnc281 := NB111_109.out
                        have hnb282 := NB109_112.out
                        have hnc282 := NB112_109.out
                        have hnb283 := NB109_113.out
                        have hnc283 := NB113_109.out
                        have hcz284_0 : wc.cell? ⟨gb109, 0, none⟩ = some (.int .i64 a1_0) := (blk_cell BK109.out 0).trans rfl
                        have hcz284_1 : wc.cell? ⟨gb109, 1, none⟩ = some (.int .i64 a1_1) := (blk_cell BK109.out 1).trans rfl
                        have hfz284_0 := blk_frozen BK109.out 0
                        have hfz284_1 := blk_frozen BK109.out 1
                        have hnb285 := NB113_111.out
                        have hnc285 := NB111_113.out
                        have hnb286 := NB113_112.out
                        have hnc286 := NB112_113.out
                        have hcz287_0 : wc.cell? ⟨gb113, 0, none⟩ = some (.int .i64 0) := (blk_cell BK113.out 0).trans rfl
                        have hcz287_1 : wc.cell? ⟨gb113, 1, none⟩ = some (.int .i64 0) := (blk_cell BK113.out 1).trans rfl
                        have hcz287_2 : wc.cell? ⟨gb113, 2, none⟩ = some (.string (⟨#[]⟩ : ByteArray)) := (blk_cell BK113.out 2).trans rfl
                        have hfz287_0 := blk_frozen BK113.out 0
                        have hfz287_1 := blk_frozen BK113.out 1
                        have hfz287_2 := blk_frozen BK113.out 2
                        try go_wp2
                        have n0_ : Aside0 ((wc.setCell ⟨gb113, 0, none⟩ (.int .i64 a1_1)).heap[gb109]? = some (.cells #[.int .i64 a1_0, .int .i64 a1_1] 44 (0, 0))) := ⟨by (with_reducible repeat (first | refine blk_drewN ?_ _ | refine blk_drew ?_ | refine blk_alloc ?_ _)); refine blk_far ?_ NB109_113.out _; (with_reducible repeat (first | refine blk_drewN ?_ _ | refine blk_drew ?_ | refine blk_alloc ?_ _)); exact BK109.out⟩
                        have n1_ : Aside0 ((wc.setCell ⟨gb113, 0, none⟩ (.int .i64 a1_1)).heap[gb110]? = some (.cells #[.int .i64 a2_0, .int .i64 a2_1] 26 (0, 0))) := ⟨by (with_reducible repeat (first | refine blk_drewN ?_ _ | refine blk_drew ?_ | refine blk_alloc ?_ _)); refine blk_far ?_ NB110_113.out _; (with_reducible repeat (first | refine blk_drewN ?_ _ | refine blk_drew ?_ | refine blk_alloc ?_ _)); exact BK110.out⟩
                        have n2_ : Aside0 ((wc.setCell ⟨gb113, 0, none⟩ (.int .i64 a1_1)).heap[gb111]? = some (.cells #[.int .i64 0, .int .i64 0] 44 (0, 0))) := ⟨by (with_reducible repeat (first | refine blk_drewN ?_ _ | refine blk_drew ?_ | refine blk_alloc ?_ _)); refine blk_far ?_ NB111_113.out _; (with_reducible repeat (first | refine blk_drewN ?_ _ | refine blk_drew ?_ | refine blk_alloc ?_ _)); exact BK111.out⟩
                        have n3_ : Aside0 ((wc.setCell ⟨gb113, 0, none⟩ (.int .i64 a1_1)).heap[gb112]? = some (.cells #[.int .i64 0, .int .i64 0, .string (⟨#[]⟩ : ByteArray)] 46 (0, 0))) := ⟨by (with_reducible repeat (first | refine blk_drewN ?_ _ | refine blk_drew ?_ | refine blk_alloc ?_ _)); refine blk_far ?_ NB112_113.out _; (with_reducible repeat (first | refine blk_drewN ?_ _ | refine blk_drew ?_ | refine blk_alloc ?_ _)); exact BK112.out⟩
                        have n4_ : Aside0 ((wc.setCell ⟨gb113, 0, none⟩ (.int .i64 a1_1)).heap[gb113]? = some (.cells #[.int .i64 a1_1, .int .i64 0, .string (⟨#[]⟩ : ByteArray)] 46 (0, 0))) := ⟨by (with_reducible repeat (first | refine blk_drewN ?_ _ | refine blk_drew ?_ | refine blk_alloc ?_ _)); refine blk_put (cs := #[.int .i64 0, .int .i64 0, .string (⟨#[]⟩ : ByteArray)]) ?_ 0 _ rfl; (with_reducible repeat (first | refine blk_drewN ?_ _ | refine blk_drew ?_ | refine blk_alloc ?_ _)); exact BK113.out⟩
                        have n5_ : Aside0 (Below w.heap.size w (wc.setCell ⟨gb113, 0, none⟩ (.int .i64 a1_1))) := ⟨by repeat (first | (with_reducible first | exact HB.out | apply below_alloc | apply pw_below_drewN | apply below_drew1 | refine below_set ?_ GE109.out | refine below_set ?_ GE110.out | refine below_set ?_ GE111.out | refine below_set ?_ GE112.out | refine below_set ?_ GE113.out) | exact HB.out)⟩
                        (try clear BK109)
                        (try clear BK110)
                        (try clear BK111)
                        (try clear BK112)
                        (try clear BK113)
                        (try clear HB)
                        generalize (wc.setCell ⟨gb113, 0, none⟩ (.int .i64 a1_1)) = w288 at n0_ n1_ n2_ n3_ n4_ n5_ ⊢
                        have BK109 := n0_
                        have BK110 := n1_
                        have BK111 := n2_
                        have BK112 := n3_
                        have BK113 := n4_
                        have HB := n5_
                        clear n0_ n1_ n2_ n3_ n4_ n5_
                        have n0_ := Aside0.mk (blk_drew BK109.out)
                        have n1_ := Aside0.mk (blk_drew BK110.out)
                        have n2_ := Aside0.mk (blk_drew BK111.out)
                        have n3_ := Aside0.mk (blk_drew BK112.out)
                        have n4_ := Aside0.mk (blk_drew BK113.out)
                        have n5_ := Aside0.mk (below_drew1 HB.out)
                        clear BK109
                        clear BK110
                        clear BK111
                        clear BK112
                        clear BK113
                        clear HB
                        have BK109 := n0_
                        have BK110 := n1_
                        have BK111 := n2_
                        have BK112 := n3_
                        have BK113 := n4_
                        have HB := n5_
                        clear n0_ n1_ n2_ n3_ n4_ n5_
                        refine start_ (n := 5) (S := fun w' => w'.cell? ⟨gb109, 0, none⟩ = some (.int .i64 a1_0) ∧ w'.cell? ⟨gb109, 1, none⟩ = some (.int .i64 a1_1) ∧ w'.cell? ⟨gb113, 0, none⟩ = some (.int .i64 a1_1) ∧ w'.cell? ⟨gb113, 1, none⟩ = some (.int .i64 0) ∧ w'.cell? ⟨gb113, 2, none⟩ = some (.string (⟨#[]⟩ : ByteArray))) (ds := []) #[false, false, false, false, false] (by kernel_rfl) rfl rfl ⟨(blk_cell BK109.out 0).trans rfl, (blk_cell BK109.out 1).trans rfl, (blk_cell BK113.out 0).trans rfl, (blk_cell BK113.out 1).trans rfl, (blk_cell BK113.out 2).trans rfl⟩ (fun hHeld => ?_)
                        generalize w288.drew = w289 at BK109 BK110 BK111 BK112 BK113 HB hHeld ⊢
                        refine take_ (i := 0) (N := some 191) (v := ?_) (a' := ?_) #[true, false, false, false, false] rfl rfl (by kernel_rfl) (fun _ _ _ h => h) (Or.inl ⟨by rfl, ?_⟩) hHeld ?_ ?_
                        rotate_left
                        · rintro w' ⟨s0, s1, s2, s3, s4⟩
                          go_simp
                          with_reducible rfl
                        rotate_left
                        · simp only [Act.put, List.setIfInBounds_toArray, List.set_cons_zero, List.set_cons_succ, i64_w, i32_w]
                          rfl
                        refine take_ (i := 1) (N := some 192) (v := ?_) (a' := ?_) #[true, true, false, false, false] rfl rfl (by kernel_rfl) (fun _ _ _ h => h) (Or.inl ⟨by rfl, ?_⟩) hHeld ?_ ?_
                        rotate_left
                        · rintro w' ⟨s0, s1, s2, s3, s4⟩
                          go_simp
                          with_reducible rfl
                        rotate_left
                        · simp only [Act.put, List.setIfInBounds_toArray, List.set_cons_zero, List.set_cons_succ, i64_w, i32_w]
                          rfl
                        refine one_ (i := 2) (N := none) #[true, true, true, false, false] rfl rfl (by kernel_rfl) (by decide) (fun K hK => ?_)
                        have hs290 : w289.cell? ⟨gb111, 0, none⟩ = some (.int .i64 0) := (blk_cell BK111.out 0).trans rfl
                        have hfs290 := blk_frozen BK111.out 0
                        have hns290_0 := NB109_111.out
                        have hns290_1 := NB110_111.out
                        have hns290_3 := NB112_111.out
                        have hns290_4 := NB113_111.out
                        have hms290_0 := NB111_109.out
                        have hms290_1 := NB111_110.out
                        have hms290_3 := NB111_112.out
                        have hms290_4 := NB111_113.out
                        have hs291 : w289.cell? ⟨gb111, 1, none⟩ = some (.int .i64 0) := (blk_cell BK111.out 1).trans rfl
                        have hfs291 := blk_frozen BK111.out 1
                        have hns291_0 := NB109_111.out
                        have hns291_1 := NB110_111.out
                        have hns291_3 := NB112_111.out
                        have hns291_4 := NB113_111.out
                        have hms291_0 := NB111_109.out
                        have hms291_1 := NB111_110.out
                        have hms291_3 := NB111_112.out
                        have hms291_4 := NB111_113.out
                        refine skip_ (w1 := ?_) (by rfl) rfl ?_ ?_
                        rotate_left
                        · go_simp
                          rfl
                        refine hK.out _ _ ⟨((cell_far (p := ⟨gb111, _, none⟩) NB109_111.out _).trans (((cell_far (p := ⟨gb111, _, none⟩) NB109_111.out _).trans (hHeld.1)))), ((cell_far (p := ⟨gb111, _, none⟩) NB109_111.out _).trans (((cell_far (p := ⟨gb111, _, none⟩) NB109_111.out _).trans (hHeld.2.1)))), ((cell_far (p := ⟨gb111, _, none⟩) NB113_111.out _).trans (((cell_far (p := ⟨gb111, _, none⟩) NB113_111.out _).trans (hHeld.2.2.1)))), ((cell_far (p := ⟨gb111, _, none⟩) NB113_111.out _).trans (((cell_far (p := ⟨gb111, _, none⟩) NB113_111.out _).trans (hHeld.2.2.2.1)))), ((cell_far (p := ⟨gb111, _, none⟩) NB113_111.out _).trans (((cell_far (p := ⟨gb111, _, none⟩) NB113_111.out _).trans (hHeld.2.2.2.2))))⟩ (fun hHeld => ?_)
                        clear hK K
                        refine one_ (i := 3) (N := none) #[true, true, true, true, false] rfl rfl (by kernel_rfl) (by decide) (fun K hK => ?_)
                        have hs292 : w289.cell? ⟨gb112, 0, none⟩ = some (.int .i64 0) := (blk_cell BK112.out 0).trans rfl
                        have hfs292 := blk_frozen BK112.out 0
                        have hns292_0 := NB109_112.out
                        have hns292_1 := NB110_112.out
                        have hns292_2 := NB111_112.out
                        have hns292_4 := NB113_112.out
                        have hms292_0 := NB112_109.out
                        have hms292_1 := NB112_110.out
                        have hms292_2 := NB112_111.out
                        have hms292_4 := NB112_113.out
                        have hs293 : w289.cell? ⟨gb112, 1, none⟩ = some (.int .i64 0) := (blk_cell BK112.out 1).trans rfl
                        have hfs293 := blk_frozen BK112.out 1
                        have hns293_0 := NB109_112.out
                        have hns293_1 := NB110_112.out
                        have hns293_2 := NB111_112.out
                        have hns293_4 := NB113_112.out
                        have hms293_0 := NB112_109.out
                        have hms293_1 := NB112_110.out
                        have hms293_2 := NB112_111.out
                        have hms293_4 := NB112_113.out
                        have hs294 : w289.cell? ⟨gb112, 2, none⟩ = some (.string (⟨#[]⟩ : ByteArray)) := (blk_cell BK112.out 2).trans rfl
                        have hfs294 := blk_frozen BK112.out 2
                        have hns294_0 := NB109_112.out
                        have hns294_1 := NB110_112.out
                        have hns294_2 := NB111_112.out
                        have hns294_4 := NB113_112.out
                        have hms294_0 := NB112_109.out
                        have hms294_1 := NB112_110.out
                        have hms294_2 := NB112_111.out
                        have hms294_4 := NB112_113.out
                        refine skip_ (w1 := ?_) (by rfl) rfl ?_ ?_
                        rotate_left
                        · go_simp
                          rfl
                        refine hK.out _ _ ⟨((cell_far (p := ⟨gb112, _, none⟩) NB109_112.out _).trans (((cell_far (p := ⟨gb112, _, none⟩) NB109_112.out _).trans (((cell_far (p := ⟨gb112, _, none⟩) NB109_112.out _).trans (hHeld.1)))))), ((cell_far (p := ⟨gb112, _, none⟩) NB109_112.out _).trans (((cell_far (p := ⟨gb112, _, none⟩) NB109_112.out _).trans (((cell_far (p := ⟨gb112, _, none⟩) NB109_112.out _).trans (hHeld.2.1)))))), ((cell_far (p := ⟨gb112, _, none⟩) NB113_112.out _).trans (((cell_far (p := ⟨gb112, _, none⟩) NB113_112.out _).trans (((cell_far (p := ⟨gb112, _, none⟩) NB113_112.out _).trans (hHeld.2.2.1)))))), ((cell_far (p := ⟨gb112, _, none⟩) NB113_112.out _).trans (((cell_far (p := ⟨gb112, _, none⟩) NB113_112.out _).trans (((cell_far (p := ⟨gb112, _, none⟩) NB113_112.out _).trans (hHeld.2.2.2.1)))))), ((cell_far (p := ⟨gb112, _, none⟩) NB113_112.out _).trans (((cell_far (p := ⟨gb112, _, none⟩) NB113_112.out _).trans (((cell_far (p := ⟨gb112, _, none⟩) NB113_112.out _).trans (hHeld.2.2.2.2))))))⟩ (fun hHeld => ?_)
                        clear hK K
                        refine pure_ (i := 4) (N := some 8) (v := ?_) (a' := ?_) #[true, true, true, true, true] rfl rfl (by kernel_rfl) (fun _ _ _ h => h) (Or.inl ⟨by rfl, ?_⟩) ?_ ?_
                        rotate_left
                        · intro w'
                          go_simp
                          with_reducible rfl
                        rotate_left
                        · simp only [Act.put, List.setIfInBounds_toArray, List.set_cons_zero, List.set_cons_succ, i64_w, i32_w]
                          rfl
                        refine done_ (by kernel_rfl) ?_
                        try go_wp2
                        refine bodyPost_ret (results_list (rs := [.cell 6 44, .cell 7 46, .tmp 8]) rfl (by simp) (.cell gb111 44 #[.int .i64 a1_0, .int .i64 a1_1] (0, 0) _ rfl (by (with_reducible repeat (first | refine blk_drewN ?_ _ | refine blk_drew ?_ | refine blk_alloc ?_ _)); refine blk_far ?_ NB111_112.out _; (with_reducible repeat (first | refine blk_drewN ?_ _ | refine blk_drew ?_ | refine blk_alloc ?_ _)); refine blk_far ?_ NB111_112.out _; (with_reducible repeat (first | refine blk_drewN ?_ _ | refine blk_drew ?_ | refine blk_alloc ?_ _)); refine blk_far ?_ NB111_112.out _; (with_reducible repeat (first | refine blk_drewN ?_ _ | refine blk_drew ?_ | refine blk_alloc ?_ _)); refine blk_put (cs := #[.int .i64 a1_0, .int .i64 0]) ?_ 1 _ rfl; (with_reducible repeat (first | refine blk_drewN ?_ _ | refine blk_drew ?_ | refine blk_alloc ?_ _)); refine blk_put (cs := #[.int .i64 0, .int .i64 0]) ?_ 0 _ rfl; (with_reducible repeat (first | refine blk_drewN ?_ _ | refine blk_drew ?_ | refine blk_alloc ?_ _)); exact BK111.out) Tryd.underlying44 rfl (by kernel_rfl) (.cell gb112 46 #[.int .i64 a1_1, .int .i64 0, .string (⟨#[]⟩ : ByteArray)] (0, 0) _ rfl (by (with_reducible repeat (first | refine blk_drewN ?_ _ | refine blk_drew ?_ | refine blk_alloc ?_ _)); refine blk_put (cs := #[.int .i64 a1_1, .int .i64 0, .string (⟨#[]⟩ : ByteArray)]) ?_ 2 _ rfl; (with_reducible repeat (first | refine blk_drewN ?_ _ | refine blk_drew ?_ | refine blk_alloc ?_ _)); refine blk_put (cs := #[.int .i64 a1_1, .int .i64 0, .string (⟨#[]⟩ : ByteArray)]) ?_ 1 _ rfl; (with_reducible repeat (first | refine blk_drewN ?_ _ | refine blk_drew ?_ | refine blk_alloc ?_ _)); refine blk_put (cs := #[.int .i64 0, .int .i64 0, .string (⟨#[]⟩ : ByteArray)]) ?_ 0 _ rfl; (with_reducible repeat (first | refine blk_drewN ?_ _ | refine blk_drew ?_ | refine blk_alloc ?_ _)); refine blk_far ?_ NB112_111.out _; (with_reducible repeat (first | refine blk_drewN ?_ _ | refine blk_drew ?_ | refine blk_alloc ?_ _)); refine blk_far ?_ NB112_111.out _; (with_reducible repeat (first | refine blk_drewN ?_ _ | refine blk_drew ?_ | refine blk_alloc ?_ _)); exact BK112.out) Tryd.underlying46 rfl (by kernel_rfl) (.tmp .nil)))) rfl ?_
                        exact ⟨by first | rfl | (simp [errW_none, errW_some] <;> rfl) | (simp [*, errW_none, errW_some] <;> rfl), by repeat (first | (with_reducible first | exact HB.out | apply below_alloc | apply pw_below_drewN | apply below_drew1 | refine below_set ?_ GE109.out | refine below_set ?_ GE110.out | refine below_set ?_ GE111.out | refine below_set ?_ GE112.out | refine below_set ?_ GE113.out) | exact HB.out)⟩
                      · rw [if_neg c275] at H
                        have c275b0 : (a2_0 == 8) = false := beq_eq_false_iff_ne.mpr c275
                        have c275b1 : (a2_0 != 8) = true := bne_iff_ne.mpr c275
                        by_cases c295 : a2_0 = 9
                        · rw [if_pos c295] at H
                          have c295b0 : (a2_0 == 9) = true := beq_iff_eq.mpr c295
                          have c295b1 : (a2_0 != 9) = false := bne_eq_false_iff_eq.mpr c295
                          clear c295
                          by_cases c296 : x11_3 = true
                          · subst c296
                            have H1 : ((spec_RuneAt.f kj3 l0 (wrap64 (a1_1 + a2_1))).bind fun bt117 => (some (a1_0, a1_1, bt117.1, bt117.2, (⟨#[]⟩ : ByteArray), decide (bt117.1 > 0)))) = some (r1, r2, r3, r4, r5, r6) := by rw [if_pos rfl] at H; exact H
                            clear H
                            have H := H1
                            clear H1
                            replace H := Option.bind_eq_some_iff.mp H
                            obtain ⟨⟨t117, t118⟩, A2970, H⟩ := H
                            replace H : (some (a1_0, a1_1, t117, t118, (⟨#[]⟩ : ByteArray), decide (t117 > 0))) = some (r1, r2, r3, r4, r5, r6) := H
                            have A297 := Aside0.mk A2970
                            clear A2970
                            simp only [Option.some.injEq, Prod.mk.injEq] at H
                            obtain ⟨rfl, rfl, rfl, rfl, rfl, rfl⟩ := H
                            have hnb298 := NB110_109.out
                            have hnc298 := NB109_110.out
                            have hnb299 := NB110_111.out
                            have hnc299 := NB111_110.out
                            have hnb300 := NB110_112.out
                            have hnc300 := NB112_110.out
                            have hnb301 := NB110_113.out
                            have hnc301 := NB113_110.out
                            have hcz302_0 : wc.cell? ⟨gb110, 0, none⟩ = some (.int .i64 a2_0) := (blk_cell BK110.out 0).trans rfl
                            have hcz302_1 : wc.cell? ⟨gb110, 1, none⟩ = some (.int .i64 a2_1) := (blk_cell BK110.out 1).trans rfl
                            have hfz302_0 := blk_frozen BK110.out 0
                            have hfz302_1 := blk_frozen BK110.out 1
                            try go_wp2_with (first | ((with_reducible refine gate_callee (f := 37) rfl ?_); refine goesL_ (some 159) rfl rfl Tryd.func37 (by kernel_rfl) rfl #[.slice A0 l0.length c0, .int .i64 (wrap64 (a1_1 + a2_1))] rfl (by (try simp only [List.map_toArray, List.map_cons, List.map_nil]); first | done | rfl | (simp only [List.length_drop, List.length_take]; rfl)) ?_; (with_reducible refine (spec_RuneAt.calls kj3 _ _ l0 (wrap64 (a1_1 + a2_1)) t117 t118 _ ?side1 ?side2 A297.out).mono ?_); (case side1 => repeat (first | exact (Kd.C_below HR0.out HB.out) | (with_reducible refine Kd.C_alloc ?_ _) | (with_reducible refine Kd.C_drewN ?_ _) | (with_reducible refine Kd.C_drew ?_))); (case side2 => exact HC0.out); rintro e w' ⟨rfl, ⟨nd, rfl⟩⟩; refine ⟨_, rfl, ?_⟩; (try (rw [drewN_self wc]; generalize hq_ : World.drewN wc _ = wc; have n0_ : Aside0 (wc.heap[gb109]? = some (.cells #[.int .i64 a1_0, .int .i64 a1_1] 44 (0, 0))) := ⟨by rw [← hq_]; exact (by (with_reducible repeat (first | refine blk_drewN ?_ _ | refine blk_drew ?_ | refine blk_alloc ?_ _)); exact BK109.out)⟩; have n1_ : Aside0 (wc.heap[gb110]? = some (.cells #[.int .i64 a2_0, .int .i64 a2_1] 26 (0, 0))) := ⟨by rw [← hq_]; exact (by (with_reducible repeat (first | refine blk_drewN ?_ _ | refine blk_drew ?_ | refine blk_alloc ?_ _)); exact BK110.out)⟩; have n2_ : Aside0 (wc.heap[gb111]? = some (.cells #[.int .i64 0, .int .i64 0] 44 (0, 0))) := ⟨by rw [← hq_]; exact (by (with_reducible repeat (first | refine blk_drewN ?_ _ | refine blk_drew ?_ | refine blk_alloc ?_ _)); exact BK111.out)⟩; have n3_ : Aside0 (wc.heap[gb112]? = some (.cells #[.int .i64 0, .int .i64 0, .string (⟨#[]⟩ : ByteArray)] 46 (0, 0))) := ⟨by rw [← hq_]; exact (by (with_reducible repeat (first | refine blk_drewN ?_ _ | refine blk_drew ?_ | refine blk_alloc ?_ _)); exact BK112.out)⟩; have n4_ : Aside0 (wc.heap[gb113]? = some (.cells #[.int .i64 0, .int .i64 0, .string (⟨#[]⟩ : ByteArray)] 46 (0, 0))) := ⟨by rw [← hq_]; exact (by (with_reducible repeat (first | refine blk_drewN ?_ _ | refine blk_drew ?_ | refine blk_alloc ?_ _)); exact BK113.out)⟩; have n5_ : Aside0 (Below w.heap.size w wc) := ⟨by rw [← hq_]; exact (by repeat (first | (with_reducible first | exact HB.out | apply below_alloc | apply pw_below_drewN | apply below_drew1 | refine below_set ?_ GE109.out | refine below_set ?_ GE110.out | refine below_set ?_ GE111.out | refine below_set ?_ GE112.out | refine below_set ?_ GE113.out) | exact HB.out))⟩; clear BK109 BK110 BK111 BK112 BK113 HB hq_; have BK109 := n0_; have BK110 := n1_; have BK111 := n2_; have BK112 := n3_; have BK113 := n4_; have HB := n5_; clear n0_ n1_ n2_ n3_ n4_ n5_)); have hnb303 := NB113_109.out; have hnc303 := NB109_113.out; have hnb304 := NB113_111.out; have hnc304 := NB111_113.out; have hnb305 := NB113_112.out; have hnc305 := NB112_113.out; have hcz306_0 : wc.cell? ⟨gb113, 0, none⟩ = some (.int .i64 0) := (blk_cell BK113.out 0).trans rfl; have hcz306_1 : wc.cell? ⟨gb113, 1, none⟩ = some (.int .i64 0) := (blk_cell BK113.out 1).trans rfl; have hcz306_2 : wc.cell? ⟨gb113, 2, none⟩ = some (.string (⟨#[]⟩ : ByteArray)) := (blk_cell BK113.out 2).trans rfl; have hfz306_0 := blk_frozen BK113.out 0; have hfz306_1 := blk_frozen BK113.out 1; have hfz306_2 := blk_frozen BK113.out 2))
                            have n0_ : Aside0 (((wc.setCell ⟨gb113, 0, none⟩ (.int .i64 t117)).setCell ⟨gb113, 1, none⟩ (.int .i64 t118)).heap[gb109]? = some (.cells #[.int .i64 a1_0, .int .i64 a1_1] 44 (0, 0))) := ⟨by (with_reducible repeat (first | refine blk_drewN ?_ _ | refine blk_drew ?_ | refine blk_alloc ?_ _)); refine blk_far ?_ NB109_113.out _; (with_reducible repeat (first | refine blk_drewN ?_ _ | refine blk_drew ?_ | refine blk_alloc ?_ _)); refine blk_far ?_ NB109_113.out _; (with_reducible repeat (first | refine blk_drewN ?_ _ | refine blk_drew ?_ | refine blk_alloc ?_ _)); exact BK109.out⟩
                            have n1_ : Aside0 (((wc.setCell ⟨gb113, 0, none⟩ (.int .i64 t117)).setCell ⟨gb113, 1, none⟩ (.int .i64 t118)).heap[gb110]? = some (.cells #[.int .i64 a2_0, .int .i64 a2_1] 26 (0, 0))) := ⟨by (with_reducible repeat (first | refine blk_drewN ?_ _ | refine blk_drew ?_ | refine blk_alloc ?_ _)); refine blk_far ?_ NB110_113.out _; (with_reducible repeat (first | refine blk_drewN ?_ _ | refine blk_drew ?_ | refine blk_alloc ?_ _)); refine blk_far ?_ NB110_113.out _; (with_reducible repeat (first | refine blk_drewN ?_ _ | refine blk_drew ?_ | refine blk_alloc ?_ _)); exact BK110.out⟩
                            have n2_ : Aside0 (((wc.setCell ⟨gb113, 0, none⟩ (.int .i64 t117)).setCell ⟨gb113, 1, none⟩ (.int .i64 t118)).heap[gb111]? = some (.cells #[.int .i64 0, .int .i64 0] 44 (0, 0))) := ⟨by (with_reducible repeat (first | refine blk_drewN ?_ _ | refine blk_drew ?_ | refine blk_alloc ?_ _)); refine blk_far ?_ NB111_113.out _; (with_reducible repeat (first | refine blk_drewN ?_ _ | refine blk_drew ?_ | refine blk_alloc ?_ _)); refine blk_far ?_ NB111_113.out _; (with_reducible repeat (first | refine blk_drewN ?_ _ | refine blk_drew ?_ | refine blk_alloc ?_ _)); exact BK111.out⟩
                            have n3_ : Aside0 (((wc.setCell ⟨gb113, 0, none⟩ (.int .i64 t117)).setCell ⟨gb113, 1, none⟩ (.int .i64 t118)).heap[gb112]? = some (.cells #[.int .i64 0, .int .i64 0, .string (⟨#[]⟩ : ByteArray)] 46 (0, 0))) := ⟨by (with_reducible repeat (first | refine blk_drewN ?_ _ | refine blk_drew ?_ | refine blk_alloc ?_ _)); refine blk_far ?_ NB112_113.out _; (with_reducible repeat (first | refine blk_drewN ?_ _ | refine blk_drew ?_ | refine blk_alloc ?_ _)); refine blk_far ?_ NB112_113.out _; (with_reducible repeat (first | refine blk_drewN ?_ _ | refine blk_drew ?_ | refine blk_alloc ?_ _)); exact BK112.out⟩
                            have n4_ : Aside0 (((wc.setCell ⟨gb113, 0, none⟩ (.int .i64 t117)).setCell ⟨gb113, 1, none⟩ (.int .i64 t118)).heap[gb113]? = some (.cells #[.int .i64 t117, .int .i64 t118, .string (⟨#[]⟩ : ByteArray)] 46 (0, 0))) := ⟨by (with_reducible repeat (first | refine blk_drewN ?_ _ | refine blk_drew ?_ | refine blk_alloc ?_ _)); refine blk_put (cs := #[.int .i64 t117, .int .i64 0, .string (⟨#[]⟩ : ByteArray)]) ?_ 1 _ rfl; (with_reducible repeat (first | refine blk_drewN ?_ _ | refine blk_drew ?_ | refine blk_alloc ?_ _)); refine blk_put (cs := #[.int .i64 0, .int .i64 0, .string (⟨#[]⟩ : ByteArray)]) ?_ 0 _ rfl; (with_reducible repeat (first | refine blk_drewN ?_ _ | refine blk_drew ?_ | refine blk_alloc ?_ _)); exact BK113.out⟩
                            have n5_ : Aside0 (Below w.heap.size w ((wc.setCell ⟨gb113, 0, none⟩ (.int .i64 t117)).setCell ⟨gb113, 1, none⟩ (.int .i64 t118))) := ⟨by repeat (first | (with_reducible first | exact HB.out | apply below_alloc | apply pw_below_drewN | apply below_drew1 | refine below_set ?_ GE109.out | refine below_set ?_ GE110.out | refine below_set ?_ GE111.out | refine below_set ?_ GE112.out | refine below_set ?_ GE113.out) | exact HB.out)⟩
                            (try clear BK109)
                            (try clear BK110)
                            (try clear BK111)
                            (try clear BK112)
                            (try clear BK113)
                            (try clear HB)
                            generalize ((wc.setCell ⟨gb113, 0, none⟩ (.int .i64 t117)).setCell ⟨gb113, 1, none⟩ (.int .i64 t118)) = w307 at n0_ n1_ n2_ n3_ n4_ n5_ ⊢
                            have BK109 := n0_
                            have BK110 := n1_
                            have BK111 := n2_
                            have BK112 := n3_
                            have BK113 := n4_
                            have HB := n5_
                            clear n0_ n1_ n2_ n3_ n4_ n5_
                            have n0_ := Aside0.mk (blk_drew BK109.out)
                            have n1_ := Aside0.mk (blk_drew BK110.out)
                            have n2_ := Aside0.mk (blk_drew BK111.out)
                            have n3_ := Aside0.mk (blk_drew BK112.out)
                            have n4_ := Aside0.mk (blk_drew BK113.out)
                            have n5_ := Aside0.mk (below_drew1 HB.out)
                            clear BK109
                            clear BK110
                            clear BK111
                            clear BK112
                            clear BK113
                            clear HB
                            have BK109 := n0_
                            have BK110 := n1_
                            have BK111 := n2_
                            have BK112 := n3_
                            have BK113 := n4_
                            have HB := n5_
                            clear n0_ n1_ n2_ n3_ n4_ n5_
                            refine start_ (n := 7) (S := fun w' => w'.cell? ⟨gb109, 0, none⟩ = some (.int .i64 a1_0) ∧ w'.cell? ⟨gb109, 1, none⟩ = some (.int .i64 a1_1) ∧ w'.cell? ⟨gb113, 0, none⟩ = some (.int .i64 t117) ∧ w'.cell? ⟨gb113, 1, none⟩ = some (.int .i64 t118) ∧ w'.cell? ⟨gb113, 2, none⟩ = some (.string (⟨#[]⟩ : ByteArray))) (ds := []) #[false, false, false, false, false, false, false] (by kernel_rfl) rfl rfl ⟨(blk_cell BK109.out 0).trans rfl, (blk_cell BK109.out 1).trans rfl, (blk_cell BK113.out 0).trans rfl, (blk_cell BK113.out 1).trans rfl, (blk_cell BK113.out 2).trans rfl⟩ (fun hHeld => ?_)
                            generalize w307.drew = w308 at BK109 BK110 BK111 BK112 BK113 HB hHeld ⊢
                            refine pure_ (i := 2) (N := some 168) (v := ?_) (a' := ?_) #[false, false, true, false, false, false, false] rfl rfl (by kernel_rfl) (fun _ _ _ h => h) (Or.inl ⟨by rfl, ?_⟩) ?_ ?_
                            rotate_left
                            · intro w'
                              go_simp
                              with_reducible rfl
                            rotate_left
                            · simp only [Act.put, List.setIfInBounds_toArray, List.set_cons_zero, List.set_cons_succ, i64_w, i32_w]
                              rfl
                            refine pure_ (i := 3) (N := some 169) (v := ?_) (a' := ?_) #[false, false, true, true, false, false, false] rfl rfl (by kernel_rfl) (fun _ _ _ h => h) (Or.inl ⟨by rfl, ?_⟩) ?_ ?_
                            rotate_left
                            · intro w'
                              go_simp
                              with_reducible rfl
                            rotate_left
                            · simp only [Act.put, List.setIfInBounds_toArray, List.set_cons_zero, List.set_cons_succ, i64_w, i32_w]
                              rfl
                            refine take_ (i := 0) (N := some 166) (v := ?_) (a' := ?_) #[true, false, true, true, false, false, false] rfl rfl (by kernel_rfl) (fun _ _ _ h => h) (Or.inl ⟨by rfl, ?_⟩) hHeld ?_ ?_
                            rotate_left
                            · rintro w' ⟨s0, s1, s2, s3, s4⟩
                              go_simp
                              with_reducible rfl
                            rotate_left
                            · simp only [Act.put, List.setIfInBounds_toArray, List.set_cons_zero, List.set_cons_succ, i64_w, i32_w]
                              rfl
                            refine take_ (i := 1) (N := some 167) (v := ?_) (a' := ?_) #[true, true, true, true, false, false, false] rfl rfl (by kernel_rfl) (fun _ _ _ h => h) (Or.inl ⟨by rfl, ?_⟩) hHeld ?_ ?_
                            rotate_left
                            · rintro w' ⟨s0, s1, s2, s3, s4⟩
                              go_simp
                              with_reducible rfl
                            rotate_left
                            · simp only [Act.put, List.setIfInBounds_toArray, List.set_cons_zero, List.set_cons_succ, i64_w, i32_w]
                              rfl
                            refine one_ (i := 4) (N := none) #[true, true, true, true, true, false, false] rfl rfl (by kernel_rfl) (by decide) (fun K hK => ?_)
                            have hs309 : w308.cell? ⟨gb111, 0, none⟩ = some (.int .i64 0) := (blk_cell BK111.out 0).trans rfl
                            have hfs309 := blk_frozen BK111.out 0
                            have hns309_0 := NB109_111.out
                            have hns309_1 := NB110_111.out
                            have hns309_3 := NB112_111.out
                            have hns309_4 := NB113_111.out
                            have hms309_0 := NB111_109.out
                            have hms309_1 := NB111_110.out
                            have hms309_3 := NB111_112.out
                            have hms309_4 := NB111_113.out
                            have hs310 : w308.cell? ⟨gb111, 1, none⟩ = some (.int .i64 0) := (blk_cell BK111.out 1).trans rfl
                            have hfs310 := blk_frozen BK111.out 1
                            have hns310_0 := NB109_111.out
                            have hns310_1 := NB110_111.out
                            have hns310_3 := NB112_111.out
                            have hns310_4 := NB113_111.out
                            have hms310_0 := NB111_109.out
                            have hms310_1 := NB111_110.out
                            have hms310_3 := NB111_112.out
                            have hms310_4 := NB111_113.out
                            refine skip_ (w1 := ?_) (by rfl) rfl ?_ ?_
                            rotate_left
                            · go_simp
                              rfl
                            refine hK.out _ _ ⟨((cell_far (p := ⟨gb111, _, none⟩) NB109_111.out _).trans (((cell_far (p := ⟨gb111, _, none⟩) NB109_111.out _).trans (hHeld.1)))), ((cell_far (p := ⟨gb111, _, none⟩) NB109_111.out _).trans (((cell_far (p := ⟨gb111, _, none⟩) NB109_111.out _).trans (hHeld.2.1)))), ((cell_far (p := ⟨gb111, _, none⟩) NB113_111.out _).trans (((cell_far (p := ⟨gb111, _, none⟩) NB113_111.out _).trans (hHeld.2.2.1)))), ((cell_far (p := ⟨gb111, _, none⟩) NB113_111.out _).trans (((cell_far (p := ⟨gb111, _, none⟩) NB113_111.out _).trans (hHeld.2.2.2.1)))), ((cell_far (p := ⟨gb111, _, none⟩) NB113_111.out _).trans (((cell_far (p := ⟨gb111, _, none⟩) NB113_111.out _).trans (hHeld.2.2.2.2))))⟩ (fun hHeld => ?_)
                            clear hK K
                            refine one_ (i := 5) (N := none) #[true, true, true, true, true, true, false] rfl rfl (by kernel_rfl) (by decide) (fun K hK => ?_)
                            have hs311 : w308.cell? ⟨gb112, 0, none⟩ = some (.int .i64 0) := (blk_cell BK112.out 0).trans rfl
                            have hfs311 := blk_frozen BK112.out 0
                            have hns311_0 := NB109_112.out
                            have hns311_1 := NB110_112.out
                            have hns311_2 := NB111_112.out
                            have hns311_4 := NB113_112.out
                            have hms311_0 := NB112_109.out
                            have hms311_1 := NB112_110.out
                            have hms311_2 := NB112_111.out
                            have hms311_4 := NB112_113.out
                            have hs312 : w308.cell? ⟨gb112, 1, none⟩ = some (.int .i64 0) := (blk_cell BK112.out 1).trans rfl
                            have hfs312 := blk_frozen BK112.out 1
                            have hns312_0 := NB109_112.out
                            have hns312_1 := NB110_112.out
                            have hns312_2 := NB111_112.out
                            have hns312_4 := NB113_112.out
                            have hms312_0 := NB112_109.out
                            have hms312_1 := NB112_110.out
                            have hms312_2 := NB112_111.out
                            have hms312_4 := NB112_113.out
                            have hs313 : w308.cell? ⟨gb112, 2, none⟩ = some (.string (⟨#[]⟩ : ByteArray)) := (blk_cell BK112.out 2).trans rfl
                            have hfs313 := blk_frozen BK112.out 2
                            have hns313_0 := NB109_112.out
                            have hns313_1 := NB110_112.out
                            have hns313_2 := NB111_112.out
                            have hns313_4 := NB113_112.out
                            have hms313_0 := NB112_109.out
                            have hms313_1 := NB112_110.out
                            have hms313_2 := NB112_111.out
                            have hms313_4 := NB112_113.out
                            refine skip_ (w1 := ?_) (by rfl) rfl ?_ ?_
                            rotate_left
                            · go_simp
                              rfl
                            refine hK.out _ _ ⟨((cell_far (p := ⟨gb112, _, none⟩) NB109_112.out _).trans (((cell_far (p := ⟨gb112, _, none⟩) NB109_112.out _).trans (((cell_far (p := ⟨gb112, _, none⟩) NB109_112.out _).trans (hHeld.1)))))), ((cell_far (p := ⟨gb112, _, none⟩) NB109_112.out _).trans (((cell_far (p := ⟨gb112, _, none⟩) NB109_112.out _).trans (((cell_far (p := ⟨gb112, _, none⟩) NB109_112.out _).trans (hHeld.2.1)))))), ((cell_far (p := ⟨gb112, _, none⟩) NB113_112.out _).trans (((cell_far (p := ⟨gb112, _, none⟩) NB113_112.out _).trans (((cell_far (p := ⟨gb112, _, none⟩) NB113_112.out _).trans (hHeld.2.2.1)))))), ((cell_far (p := ⟨gb112, _, none⟩) NB113_112.out _).trans (((cell_far (p := ⟨gb112, _, none⟩) NB113_112.out _).trans (((cell_far (p := ⟨gb112, _, none⟩) NB113_112.out _).trans (hHeld.2.2.2.1)))))), ((cell_far (p := ⟨gb112, _, none⟩) NB113_112.out _).trans (((cell_far (p := ⟨gb112, _, none⟩) NB113_112.out _).trans (((cell_far (p := ⟨gb112, _, none⟩) NB113_112.out _).trans (hHeld.2.2.2.2))))))⟩ (fun hHeld => ?_)
                            clear hK K
                            refine pure_ (i := 6) (N := some 8) (v := ?_) (a' := ?_) #[true, true, true, true, true, true, true] rfl rfl (by kernel_rfl) (fun _ _ _ h => h) (Or.inl ⟨by rfl, ?_⟩) ?_ ?_
                            rotate_left
                            · intro w'
                              go_simp
                              with_reducible rfl
                            rotate_left
                            · simp only [Act.put, List.setIfInBounds_toArray, List.set_cons_zero, List.set_cons_succ, i64_w, i32_w]
                              rfl
                            refine done_ (by kernel_rfl) ?_
                            try go_wp2
                            refine bodyPost_ret (results_list (rs := [.cell 6 44, .cell 7 46, .tmp 8]) rfl (by simp) (.cell gb111 44 #[.int .i64 a1_0, .int .i64 a1_1] (0, 0) _ rfl (by (with_reducible repeat (first | refine blk_drewN ?_ _ | refine blk_drew ?_ | refine blk_alloc ?_ _)); refine blk_far ?_ NB111_112.out _; (with_reducible repeat (first | refine blk_drewN ?_ _ | refine blk_drew ?_ | refine blk_alloc ?_ _)); refine blk_far ?_ NB111_112.out _; (with_reducible repeat (first | refine blk_drewN ?_ _ | refine blk_drew ?_ | refine blk_alloc ?_ _)); refine blk_far ?_ NB111_112.out _; (with_reducible repeat (first | refine blk_drewN ?_ _ | refine blk_drew ?_ | refine blk_alloc ?_ _)); refine blk_put (cs := #[.int .i64 a1_0, .int .i64 0]) ?_ 1 _ rfl; (with_reducible repeat (first | refine blk_drewN ?_ _ | refine blk_drew ?_ | refine blk_alloc ?_ _)); refine blk_put (cs := #[.int .i64 0, .int .i64 0]) ?_ 0 _ rfl; (with_reducible repeat (first | refine blk_drewN ?_ _ | refine blk_drew ?_ | refine blk_alloc ?_ _)); exact BK111.out) Tryd.underlying44 rfl (by kernel_rfl) (.cell gb112 46 #[.int .i64 t117, .int .i64 t118, .string (⟨#[]⟩ : ByteArray)] (0, 0) _ rfl (by (with_reducible repeat (first | refine blk_drewN ?_ _ | refine blk_drew ?_ | refine blk_alloc ?_ _)); refine blk_put (cs := #[.int .i64 t117, .int .i64 t118, .string (⟨#[]⟩ : ByteArray)]) ?_ 2 _ rfl; (with_reducible repeat (first | refine blk_drewN ?_ _ | refine blk_drew ?_ | refine blk_alloc ?_ _)); refine blk_put (cs := #[.int .i64 t117, .int .i64 0, .string (⟨#[]⟩ : ByteArray)]) ?_ 1 _ rfl; (with_reducible repeat (first | refine blk_drewN ?_ _ | refine blk_drew ?_ | refine blk_alloc ?_ _)); refine blk_put (cs := #[.int .i64 0, .int .i64 0, .string (⟨#[]⟩ : ByteArray)]) ?_ 0 _ rfl; (with_reducible repeat (first | refine blk_drewN ?_ _ | refine blk_drew ?_ | refine blk_alloc ?_ _)); refine blk_far ?_ NB112_111.out _; (with_reducible repeat (first | refine blk_drewN ?_ _ | refine blk_drew ?_ | refine blk_alloc ?_ _)); refine blk_far ?_ NB112_111.out _; (with_reducible repeat (first | refine blk_drewN ?_ _ | refine blk_drew ?_ | refine blk_alloc ?_ _)); exact BK112.out) Tryd.underlying46 rfl (by kernel_rfl) (.tmp .nil)))) rfl ?_
                            exact ⟨by first | rfl | (simp [errW_none, errW_some] <;> rfl) | (simp [*, errW_none, errW_some] <;> rfl), by repeat (first | (with_reducible first | exact HB.out | apply below_alloc | apply pw_below_drewN | apply below_drew1 | refine below_set ?_ GE109.out | refine below_set ?_ GE110.out | refine below_set ?_ GE111.out | refine below_set ?_ GE112.out | refine below_set ?_ GE113.out) | exact HB.out)⟩
                          · replace c296 := Bool.eq_false_iff.mpr c296
                            subst c296
                            have H1 : (some (a1_0, a1_1, 0, 0, (⟨#[]⟩ : ByteArray), false)) = some (r1, r2, r3, r4, r5, r6) := by rw [if_neg (show ¬ (false = true) by decide)] at H; exact H
                            clear H
                            have H := H1
                            clear H1
                            simp only [Option.some.injEq, Prod.mk.injEq] at H
                            obtain ⟨rfl, rfl, rfl, rfl, rfl, rfl⟩ := H
                            have hnb314 := NB110_109.out
                            have hnc314 := NB109_110.out
                            have hnb315 := NB110_111.out
                            have hnc315 := NB111_110.out
                            have hnb316 := NB110_112.out
                            have hnc316 := NB112_110.out
                            have hnb317 := NB110_113.out
                            have hnc317 := NB113_110.out
                            have hcz318_0 : wc.cell? ⟨gb110, 0, none⟩ = some (.int .i64 a2_0) := (blk_cell BK110.out 0).trans rfl
                            have hcz318_1 : wc.cell? ⟨gb110, 1, none⟩ = some (.int .i64 a2_1) := (blk_cell BK110.out 1).trans rfl
                            have hfz318_0 := blk_frozen BK110.out 0
                            have hfz318_1 := blk_frozen BK110.out 1
                            try go_wp2
                            have n0_ := Aside0.mk (blk_drew BK109.out)
                            have n1_ := Aside0.mk (blk_drew BK110.out)
                            have n2_ := Aside0.mk (blk_drew BK111.out)
                            have n3_ := Aside0.mk (blk_drew BK112.out)
                            have n4_ := Aside0.mk (blk_drew BK113.out)
                            have n5_ := Aside0.mk (below_drew1 HB.out)
                            clear BK109
                            clear BK110
                            clear BK111
                            clear BK112
                            clear BK113
                            clear HB
                            have BK109 := n0_
                            have BK110 := n1_
                            have BK111 := n2_
                            have BK112 := n3_
                            have BK113 := n4_
                            have HB := n5_
                            clear n0_ n1_ n2_ n3_ n4_ n5_
                            refine start_ (n := 5) (S := fun w' => w'.cell? ⟨gb109, 0, none⟩ = some (.int .i64 a1_0) ∧ w'.cell? ⟨gb109, 1, none⟩ = some (.int .i64 a1_1) ∧ w'.cell? ⟨gb113, 0, none⟩ = some (.int .i64 0) ∧ w'.cell? ⟨gb113, 1, none⟩ = some (.int .i64 0) ∧ w'.cell? ⟨gb113, 2, none⟩ = some (.string (⟨#[]⟩ : ByteArray))) (ds := []) #[false, false, false, false, false] (by kernel_rfl) rfl rfl ⟨(blk_cell BK109.out 0).trans rfl, (blk_cell BK109.out 1).trans rfl, (blk_cell BK113.out 0).trans rfl, (blk_cell BK113.out 1).trans rfl, (blk_cell BK113.out 2).trans rfl⟩ (fun hHeld => ?_)
                            generalize wc.drew = w319 at BK109 BK110 BK111 BK112 BK113 HB hHeld ⊢
                            refine take_ (i := 0) (N := some 154) (v := ?_) (a' := ?_) #[true, false, false, false, false] rfl rfl (by kernel_rfl) (fun _ _ _ h => h) (Or.inl ⟨by rfl, ?_⟩) hHeld ?_ ?_
                            rotate_left
                            · rintro w' ⟨s0, s1, s2, s3, s4⟩
                              go_simp
                              with_reducible rfl
                            rotate_left
                            · simp only [Act.put, List.setIfInBounds_toArray, List.set_cons_zero, List.set_cons_succ, i64_w, i32_w]
                              rfl
                            refine take_ (i := 1) (N := some 155) (v := ?_) (a' := ?_) #[true, true, false, false, false] rfl rfl (by kernel_rfl) (fun _ _ _ h => h) (Or.inl ⟨by rfl, ?_⟩) hHeld ?_ ?_
                            rotate_left
                            · rintro w' ⟨s0, s1, s2, s3, s4⟩
                              go_simp
                              with_reducible rfl
                            rotate_left
                            · simp only [Act.put, List.setIfInBounds_toArray, List.set_cons_zero, List.set_cons_succ, i64_w, i32_w]
                              rfl
                            refine one_ (i := 2) (N := none) #[true, true, true, false, false] rfl rfl (by kernel_rfl) (by decide) (fun K hK => ?_)
                            have hs320 : w319.cell? ⟨gb111, 0, none⟩ = some (.int .i64 0) := (blk_cell BK111.out 0).trans rfl
                            have hfs320 := blk_frozen BK111.out 0
                            have hns320_0 := NB109_111.out
                            have hns320_1 := NB110_111.out
                            have hns320_3 := NB112_111.out
                            have hns320_4 := NB113_111.out
                            have hms320_0 := NB111_109.out
                            have hms320_1 := NB111_110.out
                            have hms320_3 := NB111_112.out
                            have hms320_4 := NB111_113.out
                            have hs321 : w319.cell? ⟨gb111, 1, none⟩ = some (.int .i64 0) := (blk_cell BK111.out 1).trans rfl
                            have hfs321 := blk_frozen BK111.out 1
                            have hns321_0 := NB109_111.out
                            have hns321_1 := NB110_111.out
                            have hns321_3 := NB112_111.out
                            have hns321_4 := NB113_111.out
                            have hms321_0 := NB111_109.out
                            have hms321_1 := NB111_110.out
                            have hms321_3 := NB111_112.out
                            have hms321_4 := NB111_113.out
                            refine skip_ (w1 := ?_) (by rfl) rfl ?_ ?_
                            rotate_left
                            · go_simp
                              rfl
                            refine hK.out _ _ ⟨((cell_far (p := ⟨gb111, _, none⟩) NB109_111.out _).trans (((cell_far (p := ⟨gb111, _, none⟩) NB109_111.out _).trans (hHeld.1)))), ((cell_far (p := ⟨gb111, _, none⟩) NB109_111.out _).trans (((cell_far (p := ⟨gb111, _, none⟩) NB109_111.out _).trans (hHeld.2.1)))), ((cell_far (p := ⟨gb111, _, none⟩) NB113_111.out _).trans (((cell_far (p := ⟨gb111, _, none⟩) NB113_111.out _).trans (hHeld.2.2.1)))), ((cell_far (p := ⟨gb111, _, none⟩) NB113_111.out _).trans (((cell_far (p := ⟨gb111, _, none⟩) NB113_111.out _).trans (hHeld.2.2.2.1)))), ((cell_far (p := ⟨gb111, _, none⟩) NB113_111.out _).trans (((cell_far (p := ⟨gb111, _, none⟩) NB113_111.out _).trans (hHeld.2.2.2.2))))⟩ (fun hHeld => ?_)
                            clear hK K
                            refine one_ (i := 3) (N := none) #[true, true, true, true, false] rfl rfl (by kernel_rfl) (by decide) (fun K hK => ?_)
                            have hs322 : w319.cell? ⟨gb112, 0, none⟩ = some (.int .i64 0) := (blk_cell BK112.out 0).trans rfl
                            have hfs322 := blk_frozen BK112.out 0
                            have hns322_0 := NB109_112.out
                            have hns322_1 := NB110_112.out
                            have hns322_2 := NB111_112.out
                            have hns322_4 := NB113_112.out
                            have hms322_0 := NB112_109.out
                            have hms322_1 := NB112_110.out
                            have hms322_2 := NB112_111.out
                            have hms322_4 := NB112_113.out
                            have hs323 : w319.cell? ⟨gb112, 1, none⟩ = some (.int .i64 0) := (blk_cell BK112.out 1).trans rfl
                            have hfs323 := blk_frozen BK112.out 1
                            have hns323_0 := NB109_112.out
                            have hns323_1 := NB110_112.out
                            have hns323_2 := NB111_112.out
                            have hns323_4 := NB113_112.out
                            have hms323_0 := NB112_109.out
                            have hms323_1 := NB112_110.out
                            have hms323_2 := NB112_111.out
                            have hms323_4 := NB112_113.out
                            have hs324 : w319.cell? ⟨gb112, 2, none⟩ = some (.string (⟨#[]⟩ : ByteArray)) := (blk_cell BK112.out 2).trans rfl
                            have hfs324 := blk_frozen BK112.out 2
                            have hns324_0 := NB109_112.out
                            have hns324_1 := NB110_112.out
                            have hns324_2 := NB111_112.out
                            have hns324_4 := NB113_112.out
                            have hms324_0 := NB112_109.out
                            have hms324_1 := NB112_110.out
                            have hms324_2 := NB112_111.out
                            have hms324_4 := NB112_113.out
                            refine skip_ (w1 := ?_) (by rfl) rfl ?_ ?_
                            rotate_left
                            · go_simp
                              rfl
                            refine hK.out _ _ ⟨((cell_far (p := ⟨gb112, _, none⟩) NB109_112.out _).trans (((cell_far (p := ⟨gb112, _, none⟩) NB109_112.out _).trans (((cell_far (p := ⟨gb112, _, none⟩) NB109_112.out _).trans (hHeld.1)))))), ((cell_far (p := ⟨gb112, _, none⟩) NB109_112.out _).trans (((cell_far (p := ⟨gb112, _, none⟩) NB109_112.out _).trans (((cell_far (p := ⟨gb112, _, none⟩) NB109_112.out _).trans (hHeld.2.1)))))), ((cell_far (p := ⟨gb112, _, none⟩) NB113_112.out _).trans (((cell_far (p := ⟨gb112, _, none⟩) NB113_112.out _).trans (((cell_far (p := ⟨gb112, _, none⟩) NB113_112.out _).trans (hHeld.2.2.1)))))), ((cell_far (p := ⟨gb112, _, none⟩) NB113_112.out _).trans (((cell_far (p := ⟨gb112, _, none⟩) NB113_112.out _).trans (((cell_far (p := ⟨gb112, _, none⟩) NB113_112.out _).trans (hHeld.2.2.2.1)))))), ((cell_far (p := ⟨gb112, _, none⟩) NB113_112.out _).trans (((cell_far (p := ⟨gb112, _, none⟩) NB113_112.out _).trans (((cell_far (p := ⟨gb112, _, none⟩) NB113_112.out _).trans (hHeld.2.2.2.2))))))⟩ (fun hHeld => ?_)
                            clear hK K
                            refine pure_ (i := 4) (N := some 8) (v := ?_) (a' := ?_) #[true, true, true, true, true] rfl rfl (by kernel_rfl) (fun _ _ _ h => h) (Or.inl ⟨by rfl, ?_⟩) ?_ ?_
                            rotate_left
                            · intro w'
                              go_simp
                              with_reducible rfl
                            rotate_left
                            · simp only [Act.put, List.setIfInBounds_toArray, List.set_cons_zero, List.set_cons_succ, i64_w, i32_w]
                              rfl
                            refine done_ (by kernel_rfl) ?_
                            try go_wp2
                            refine bodyPost_ret (results_list (rs := [.cell 6 44, .cell 7 46, .tmp 8]) rfl (by simp) (.cell gb111 44 #[.int .i64 a1_0, .int .i64 a1_1] (0, 0) _ rfl (by (with_reducible repeat (first | refine blk_drewN ?_ _ | refine blk_drew ?_ | refine blk_alloc ?_ _)); refine blk_far ?_ NB111_112.out _; (with_reducible repeat (first | refine blk_drewN ?_ _ | refine blk_drew ?_ | refine blk_alloc ?_ _)); refine blk_far ?_ NB111_112.out _; (with_reducible repeat (first | refine blk_drewN ?_ _ | refine blk_drew ?_ | refine blk_alloc ?_ _)); refine blk_far ?_ NB111_112.out _; (with_reducible repeat (first | refine blk_drewN ?_ _ | refine blk_drew ?_ | refine blk_alloc ?_ _)); refine blk_put (cs := #[.int .i64 a1_0, .int .i64 0]) ?_ 1 _ rfl; (with_reducible repeat (first | refine blk_drewN ?_ _ | refine blk_drew ?_ | refine blk_alloc ?_ _)); refine blk_put (cs := #[.int .i64 0, .int .i64 0]) ?_ 0 _ rfl; (with_reducible repeat (first | refine blk_drewN ?_ _ | refine blk_drew ?_ | refine blk_alloc ?_ _)); exact BK111.out) Tryd.underlying44 rfl (by kernel_rfl) (.cell gb112 46 #[.int .i64 0, .int .i64 0, .string (⟨#[]⟩ : ByteArray)] (0, 0) _ rfl (by (with_reducible repeat (first | refine blk_drewN ?_ _ | refine blk_drew ?_ | refine blk_alloc ?_ _)); refine blk_put (cs := #[.int .i64 0, .int .i64 0, .string (⟨#[]⟩ : ByteArray)]) ?_ 2 _ rfl; (with_reducible repeat (first | refine blk_drewN ?_ _ | refine blk_drew ?_ | refine blk_alloc ?_ _)); refine blk_put (cs := #[.int .i64 0, .int .i64 0, .string (⟨#[]⟩ : ByteArray)]) ?_ 1 _ rfl; (with_reducible repeat (first | refine blk_drewN ?_ _ | refine blk_drew ?_ | refine blk_alloc ?_ _)); refine blk_put (cs := #[.int .i64 0, .int .i64 0, .string (⟨#[]⟩ : ByteArray)]) ?_ 0 _ rfl; (with_reducible repeat (first | refine blk_drewN ?_ _ | refine blk_drew ?_ | refine blk_alloc ?_ _)); refine blk_far ?_ NB112_111.out _; (with_reducible repeat (first | refine blk_drewN ?_ _ | refine blk_drew ?_ | refine blk_alloc ?_ _)); refine blk_far ?_ NB112_111.out _; (with_reducible repeat (first | refine blk_drewN ?_ _ | refine blk_drew ?_ | refine blk_alloc ?_ _)); exact BK112.out) Tryd.underlying46 rfl (by kernel_rfl) (.tmp .nil)))) rfl ?_
                            exact ⟨by first | rfl | (simp [errW_none, errW_some] <;> rfl) | (simp [*, errW_none, errW_some] <;> rfl), by repeat (first | (with_reducible first | exact HB.out | apply below_alloc | apply pw_below_drewN | apply below_drew1 | refine below_set ?_ GE109.out | refine below_set ?_ GE110.out | refine below_set ?_ GE111.out | refine below_set ?_ GE112.out | refine below_set ?_ GE113.out) | exact HB.out)⟩
                        · rw [if_neg c295] at H
                          have c295b0 : (a2_0 == 9) = false := beq_eq_false_iff_ne.mpr c295
                          have c295b1 : (a2_0 != 9) = true := bne_iff_ne.mpr c295
                          by_cases c325 : a2_0 = 10
                          · rw [if_pos c325] at H
                            have c325b0 : (a2_0 == 10) = true := beq_iff_eq.mpr c325
                            have c325b1 : (a2_0 != 10) = false := bne_eq_false_iff_eq.mpr c325
                            clear c325
                            replace H := Option.bind_eq_some_iff.mp H
                            obtain ⟨⟨t119, t120⟩, A3260, H⟩ := H
                            replace H : (some (a1_0, wrap64 (a1_1 + t120), 0, 0, (⟨#[]⟩ : ByteArray), decide (t119 > 0))) = some (r1, r2, r3, r4, r5, r6) := H
                            have A326 := Aside0.mk A3260
                            clear A3260
                            simp only [Option.some.injEq, Prod.mk.injEq] at H
                            obtain ⟨rfl, rfl, rfl, rfl, rfl, rfl⟩ := H
                            have hnb327 := NB110_109.out
                            have hnc327 := NB109_110.out
                            have hnb328 := NB110_111.out
                            have hnc328 := NB111_110.out
                            have hnb329 := NB110_112.out
                            have hnc329 := NB112_110.out
                            have hnb330 := NB110_113.out
                            have hnc330 := NB113_110.out
                            have hcz331_0 : wc.cell? ⟨gb110, 0, none⟩ = some (.int .i64 a2_0) := (blk_cell BK110.out 0).trans rfl
                            have hcz331_1 : wc.cell? ⟨gb110, 1, none⟩ = some (.int .i64 a2_1) := (blk_cell BK110.out 1).trans rfl
                            have hfz331_0 := blk_frozen BK110.out 0
                            have hfz331_1 := blk_frozen BK110.out 1
                            have hnb332 := NB109_111.out
                            have hnc332 := NB111_109.out
                            have hnb333 := NB109_112.out
                            have hnc333 := NB112_109.out
                            have hnb334 := NB109_113.out
                            have hnc334 := NB113_109.out
                            have hcz335_0 : wc.cell? ⟨gb109, 0, none⟩ = some (.int .i64 a1_0) := (blk_cell BK109.out 0).trans rfl
                            have hcz335_1 : wc.cell? ⟨gb109, 1, none⟩ = some (.int .i64 a1_1) := (blk_cell BK109.out 1).trans rfl
                            have hfz335_0 := blk_frozen BK109.out 0
                            have hfz335_1 := blk_frozen BK109.out 1
                            try go_wp2_with (first | ((with_reducible refine gate_callee (f := 37) rfl ?_); refine goesL_ (some 176) rfl rfl Tryd.func37 (by kernel_rfl) rfl #[.slice A0 l0.length c0, .int .i64 a1_1] rfl (by (try simp only [List.map_toArray, List.map_cons, List.map_nil]); first | done | rfl | (simp only [List.length_drop, List.length_take]; rfl)) ?_; (with_reducible refine (spec_RuneAt.calls kj3 _ _ l0 a1_1 t119 t120 _ ?side1 ?side2 A326.out).mono ?_); (case side1 => repeat (first | exact (Kd.C_below HR0.out HB.out) | (with_reducible refine Kd.C_alloc ?_ _) | (with_reducible refine Kd.C_drewN ?_ _) | (with_reducible refine Kd.C_drew ?_))); (case side2 => exact HC0.out); rintro e w' ⟨rfl, ⟨nd, rfl⟩⟩; refine ⟨_, rfl, ?_⟩; (try (rw [drewN_self wc]; generalize hq_ : World.drewN wc _ = wc; have n0_ : Aside0 (wc.heap[gb109]? = some (.cells #[.int .i64 a1_0, .int .i64 a1_1] 44 (0, 0))) := ⟨by rw [← hq_]; exact (by (with_reducible repeat (first | refine blk_drewN ?_ _ | refine blk_drew ?_ | refine blk_alloc ?_ _)); exact BK109.out)⟩; have n1_ : Aside0 (wc.heap[gb110]? = some (.cells #[.int .i64 a2_0, .int .i64 a2_1] 26 (0, 0))) := ⟨by rw [← hq_]; exact (by (with_reducible repeat (first | refine blk_drewN ?_ _ | refine blk_drew ?_ | refine blk_alloc ?_ _)); exact BK110.out)⟩; have n2_ : Aside0 (wc.heap[gb111]? = some (.cells #[.int .i64 0, .int .i64 0] 44 (0, 0))) := ⟨by rw [← hq_]; exact (by (with_reducible repeat (first | refine blk_drewN ?_ _ | refine blk_drew ?_ | refine blk_alloc ?_ _)); exact BK111.out)⟩; have n3_ : Aside0 (wc.heap[gb112]? = some (.cells #[.int .i64 0, .int .i64 0, .string (⟨#[]⟩ : ByteArray)] 46 (0, 0))) := ⟨by rw [← hq_]; exact (by (with_reducible repeat (first | refine blk_drewN ?_ _ | refine blk_drew ?_ | refine blk_alloc ?_ _)); exact BK112.out)⟩; have n4_ : Aside0 (wc.heap[gb113]? = some (.cells #[.int .i64 0, .int .i64 0, .string (⟨#[]⟩ : ByteArray)] 46 (0, 0))) := ⟨by rw [← hq_]; exact (by (with_reducible repeat (first | refine blk_drewN ?_ _ | refine blk_drew ?_ | refine blk_alloc ?_ _)); exact BK113.out)⟩; have n5_ : Aside0 (Below w.heap.size w wc) := ⟨by rw [← hq_]; exact (by repeat (first | (with_reducible first | exact HB.out | apply below_alloc | apply pw_below_drewN | apply below_drew1 | refine below_set ?_ GE109.out | refine below_set ?_ GE110.out | refine below_set ?_ GE111.out | refine below_set ?_ GE112.out | refine below_set ?_ GE113.out) | exact HB.out))⟩; clear BK109 BK110 BK111 BK112 BK113 HB hq_; have BK109 := n0_; have BK110 := n1_; have BK111 := n2_; have BK112 := n3_; have BK113 := n4_; have HB := n5_; clear n0_ n1_ n2_ n3_ n4_ n5_; have hcy0_ : wc.cell? ⟨gb109, 0, none⟩ = some (.int .i64 a1_0) := (blk_cell BK109.out 0).trans rfl; have hcy1_ : wc.cell? ⟨gb109, 1, none⟩ = some (.int .i64 a1_1) := (blk_cell BK109.out 1).trans rfl; have hfy0_ := blk_frozen BK109.out 0; have hfy1_ := blk_frozen BK109.out 1))))
                            have n0_ : Aside0 ((wc.setCell ⟨gb109, 1, none⟩ (.int .i64 (wrap64 (a1_1 + t120)))).heap[gb109]? = some (.cells #[.int .i64 a1_0, .int .i64 (wrap64 (a1_1 + t120))] 44 (0, 0))) := ⟨by (with_reducible repeat (first | refine blk_drewN ?_ _ | refine blk_drew ?_ | refine blk_alloc ?_ _)); refine blk_put (cs := #[.int .i64 a1_0, .int .i64 a1_1]) ?_ 1 _ rfl; (with_reducible repeat (first | refine blk_drewN ?_ _ | refine blk_drew ?_ | refine blk_alloc ?_ _)); exact BK109.out⟩
                            have n1_ : Aside0 ((wc.setCell ⟨gb109, 1, none⟩ (.int .i64 (wrap64 (a1_1 + t120)))).heap[gb110]? = some (.cells #[.int .i64 a2_0, .int .i64 a2_1] 26 (0, 0))) := ⟨by (with_reducible repeat (first | refine blk_drewN ?_ _ | refine blk_drew ?_ | refine blk_alloc ?_ _)); refine blk_far ?_ NB110_109.out _; (with_reducible repeat (first | refine blk_drewN ?_ _ | refine blk_drew ?_ | refine blk_alloc ?_ _)); exact BK110.out⟩
                            have n2_ : Aside0 ((wc.setCell ⟨gb109, 1, none⟩ (.int .i64 (wrap64 (a1_1 + t120)))).heap[gb111]? = some (.cells #[.int .i64 0, .int .i64 0] 44 (0, 0))) := ⟨by (with_reducible repeat (first | refine blk_drewN ?_ _ | refine blk_drew ?_ | refine blk_alloc ?_ _)); refine blk_far ?_ NB111_109.out _; (with_reducible repeat (first | refine blk_drewN ?_ _ | refine blk_drew ?_ | refine blk_alloc ?_ _)); exact BK111.out⟩
                            have n3_ : Aside0 ((wc.setCell ⟨gb109, 1, none⟩ (.int .i64 (wrap64 (a1_1 + t120)))).heap[gb112]? = some (.cells #[.int .i64 0, .int .i64 0, .string (⟨#[]⟩ : ByteArray)] 46 (0, 0))) := ⟨by (with_reducible repeat (first | refine blk_drewN ?_ _ | refine blk_drew ?_ | refine blk_alloc ?_ _)); refine blk_far ?_ NB112_109.out _; (with_reducible repeat (first | refine blk_drewN ?_ _ | refine blk_drew ?_ | refine blk_alloc ?_ _)); exact BK112.out⟩
                            have n4_ : Aside0 ((wc.setCell ⟨gb109, 1, none⟩ (.int .i64 (wrap64 (a1_1 + t120)))).heap[gb113]? = some (.cells #[.int .i64 0, .int .i64 0, .string (⟨#[]⟩ : ByteArray)] 46 (0, 0))) := ⟨by (with_reducible repeat (first | refine blk_drewN ?_ _ | refine blk_drew ?_ | refine blk_alloc ?_ _)); refine blk_far ?_ NB113_109.out _; (with_reducible repeat (first | refine blk_drewN ?_ _ | refine blk_drew ?_ | refine blk_alloc ?_ _)); exact BK113.out⟩
                            have n5_ : Aside0 (Below w.heap.size w (wc.setCell ⟨gb109, 1, none⟩ (.int .i64 (wrap64 (a1_1 + t120))))) := ⟨by repeat (first | (with_reducible first | exact HB.out | apply below_alloc | apply pw_below_drewN | apply below_drew1 | refine below_set ?_ GE109.out | refine below_set ?_ GE110.out | refine below_set ?_ GE111.out | refine below_set ?_ GE112.out | refine below_set ?_ GE113.out) | exact HB.out)⟩
                            (try clear BK109)
                            (try clear BK110)
                            (try clear BK111)
                            (try clear BK112)
                            (try clear BK113)
                            (try clear HB)
                            generalize (wc.setCell ⟨gb109, 1, none⟩ (.int .i64 (wrap64 (a1_1 + t120)))) = w336 at n0_ n1_ n2_ n3_ n4_ n5_ ⊢
                            have BK109 := n0_
                            have BK110 := n1_
                            have BK111 := n2_
                            have BK112 := n3_
                            have BK113 := n4_
                            have HB := n5_
                            clear n0_ n1_ n2_ n3_ n4_ n5_
                            have n0_ := Aside0.mk (blk_drew BK109.out)
                            have n1_ := Aside0.mk (blk_drew BK110.out)
                            have n2_ := Aside0.mk (blk_drew BK111.out)
                            have n3_ := Aside0.mk (blk_drew BK112.out)
                            have n4_ := Aside0.mk (blk_drew BK113.out)
                            have n5_ := Aside0.mk (below_drew1 HB.out)
                            clear BK109
                            clear BK110
                            clear BK111
                            clear BK112
                            clear BK113
                            clear HB
                            have BK109 := n0_
                            have BK110 := n1_
                            have BK111 := n2_
                            have BK112 := n3_
                            have BK113 := n4_
                            have HB := n5_
                            clear n0_ n1_ n2_ n3_ n4_ n5_
                            refine start_ (n := 7) (S := fun w' => w'.cell? ⟨gb109, 0, none⟩ = some (.int .i64 a1_0) ∧ w'.cell? ⟨gb109, 1, none⟩ = some (.int .i64 (wrap64 (a1_1 + t120))) ∧ w'.cell? ⟨gb113, 0, none⟩ = some (.int .i64 0) ∧ w'.cell? ⟨gb113, 1, none⟩ = some (.int .i64 0) ∧ w'.cell? ⟨gb113, 2, none⟩ = some (.string (⟨#[]⟩ : ByteArray))) (ds := []) #[false, false, false, false, false, false, false] (by kernel_rfl) rfl rfl ⟨(blk_cell BK109.out 0).trans rfl, (blk_cell BK109.out 1).trans rfl, (blk_cell BK113.out 0).trans rfl, (blk_cell BK113.out 1).trans rfl, (blk_cell BK113.out 2).trans rfl⟩ (fun hHeld => ?_)
                            generalize w336.drew = w337 at BK109 BK110 BK111 BK112 BK113 HB hHeld ⊢
                            refine pure_ (i := 2) (N := some 186) (v := ?_) (a' := ?_) #[false, false, true, false, false, false, false] rfl rfl (by kernel_rfl) (fun _ _ _ h => h) (Or.inl ⟨by rfl, ?_⟩) ?_ ?_
                            rotate_left
                            · intro w'
                              go_simp
                              with_reducible rfl
                            rotate_left
                            · simp only [Act.put, List.setIfInBounds_toArray, List.set_cons_zero, List.set_cons_succ, i64_w, i32_w]
                              rfl
                            refine pure_ (i := 3) (N := some 187) (v := ?_) (a' := ?_) #[false, false, true, true, false, false, false] rfl rfl (by kernel_rfl) (fun _ _ _ h => h) (Or.inl ⟨by rfl, ?_⟩) ?_ ?_
                            rotate_left
                            · intro w'
                              go_simp
                              with_reducible rfl
                            rotate_left
                            · simp only [Act.put, List.setIfInBounds_toArray, List.set_cons_zero, List.set_cons_succ, i64_w, i32_w]
                              rfl
                            refine take_ (i := 0) (N := some 184) (v := ?_) (a' := ?_) #[true, false, true, true, false, false, false] rfl rfl (by kernel_rfl) (fun _ _ _ h => h) (Or.inl ⟨by rfl, ?_⟩) hHeld ?_ ?_
                            rotate_left
                            · rintro w' ⟨s0, s1, s2, s3, s4⟩
                              go_simp
                              with_reducible rfl
                            rotate_left
                            · simp only [Act.put, List.setIfInBounds_toArray, List.set_cons_zero, List.set_cons_succ, i64_w, i32_w]
                              rfl
                            refine take_ (i := 1) (N := some 185) (v := ?_) (a' := ?_) #[true, true, true, true, false, false, false] rfl rfl (by kernel_rfl) (fun _ _ _ h => h) (Or.inl ⟨by rfl, ?_⟩) hHeld ?_ ?_
                            rotate_left
                            · rintro w' ⟨s0, s1, s2, s3, s4⟩
                              go_simp
                              with_reducible rfl
                            rotate_left
                            · simp only [Act.put, List.setIfInBounds_toArray, List.set_cons_zero, List.set_cons_succ, i64_w, i32_w]
                              rfl
                            refine one_ (i := 4) (N := none) #[true, true, true, true, true, false, false] rfl rfl (by kernel_rfl) (by decide) (fun K hK => ?_)
                            have hs338 : w337.cell? ⟨gb111, 0, none⟩ = some (.int .i64 0) := (blk_cell BK111.out 0).trans rfl
                            have hfs338 := blk_frozen BK111.out 0
                            have hns338_0 := NB109_111.out
                            have hns338_1 := NB110_111.out
                            have hns338_3 := NB112_111.out
                            have hns338_4 := NB113_111.out
                            have hms338_0 := NB111_109.out
                            have hms338_1 := NB111_110.out
                            have hms338_3 := NB111_112.out
                            have hms338_4 := NB111_113.out
                            have hs339 : w337.cell? ⟨gb111, 1, none⟩ = some (.int .i64 0) := (blk_cell BK111.out 1).trans rfl
                            have hfs339 := blk_frozen BK111.out 1
                            have hns339_0 := NB109_111.out
                            have hns339_1 := NB110_111.out
                            have hns339_3 := NB112_111.out
                            have hns339_4 := NB113_111.out
                            have hms339_0 := NB111_109.out
                            have hms339_1 := NB111_110.out
                            have hms339_3 := NB111_112.out
                            have hms339_4 := NB111_113.out
                            refine skip_ (w1 := ?_) (by rfl) rfl ?_ ?_
                            rotate_left
                            · go_simp
                              rfl
                            refine hK.out _ _ ⟨((cell_far (p := ⟨gb111, _, none⟩) NB109_111.out _).trans (((cell_far (p := ⟨gb111, _, none⟩) NB109_111.out _).trans (hHeld.1)))), ((cell_far (p := ⟨gb111, _, none⟩) NB109_111.out _).trans (((cell_far (p := ⟨gb111, _, none⟩) NB109_111.out _).trans (hHeld.2.1)))), ((cell_far (p := ⟨gb111, _, none⟩) NB113_111.out _).trans (((cell_far (p := ⟨gb111, _, none⟩) NB113_111.out _).trans (hHeld.2.2.1)))), ((cell_far (p := ⟨gb111, _, none⟩) NB113_111.out _).trans (((cell_far (p := ⟨gb111, _, none⟩) NB113_111.out _).trans (hHeld.2.2.2.1)))), ((cell_far (p := ⟨gb111, _, none⟩) NB113_111.out _).trans (((cell_far (p := ⟨gb111, _, none⟩) NB113_111.out _).trans (hHeld.2.2.2.2))))⟩ (fun hHeld => ?_)
                            clear hK K
                            refine one_ (i := 5) (N := none) #[true, true, true, true, true, true, false] rfl rfl (by kernel_rfl) (by decide) (fun K hK => ?_)
                            have hs340 : w337.cell? ⟨gb112, 0, none⟩ = some (.int .i64 0) := (blk_cell BK112.out 0).trans rfl
                            have hfs340 := blk_frozen BK112.out 0
                            have hns340_0 := NB109_112.out
                            have hns340_1 := NB110_112.out
                            have hns340_2 := NB111_112.out
                            have hns340_4 := NB113_112.out
                            have hms340_0 := NB112_109.out
                            have hms340_1 := NB112_110.out
                            have hms340_2 := NB112_111.out
                            have hms340_4 := NB112_113.out
                            have hs341 : w337.cell? ⟨gb112, 1, none⟩ = some (.int .i64 0) := (blk_cell BK112.out 1).trans rfl
                            have hfs341 := blk_frozen BK112.out 1
                            have hns341_0 := NB109_112.out
                            have hns341_1 := NB110_112.out
                            have hns341_2 := NB111_112.out
                            have hns341_4 := NB113_112.out
                            have hms341_0 := NB112_109.out
                            have hms341_1 := NB112_110.out
                            have hms341_2 := NB112_111.out
                            have hms341_4 := NB112_113.out
                            have hs342 : w337.cell? ⟨gb112, 2, none⟩ = some (.string (⟨#[]⟩ : ByteArray)) := (blk_cell BK112.out 2).trans rfl
                            have hfs342 := blk_frozen BK112.out 2
                            have hns342_0 := NB109_112.out
                            have hns342_1 := NB110_112.out
                            have hns342_2 := NB111_112.out
                            have hns342_4 := NB113_112.out
                            have hms342_0 := NB112_109.out
                            have hms342_1 := NB112_110.out
                            have hms342_2 := NB112_111.out
                            have hms342_4 := NB112_113.out
                            refine skip_ (w1 := ?_) (by rfl) rfl ?_ ?_
                            rotate_left
                            · go_simp
                              rfl
                            refine hK.out _ _ ⟨((cell_far (p := ⟨gb112, _, none⟩) NB109_112.out _).trans (((cell_far (p := ⟨gb112, _, none⟩) NB109_112.out _).trans (((cell_far (p := ⟨gb112, _, none⟩) NB109_112.out _).trans (hHeld.1)))))), ((cell_far (p := ⟨gb112, _, none⟩) NB109_112.out _).trans (((cell_far (p := ⟨gb112, _, none⟩) NB109_112.out _).trans (((cell_far (p := ⟨gb112, _, none⟩) NB109_112.out _).trans (hHeld.2.1)))))), ((cell_far (p := ⟨gb112, _, none⟩) NB113_112.out _).trans (((cell_far (p := ⟨gb112, _, none⟩) NB113_112.out _).trans (((cell_far (p := ⟨gb112, _, none⟩) NB113_112.out _).trans (hHeld.2.2.1)))))), ((cell_far (p := ⟨gb112, _, none⟩) NB113_112.out _).trans (((cell_far (p := ⟨gb112, _, none⟩) NB113_112.out _).trans (((cell_far (p := ⟨gb112, _, none⟩) NB113_112.out _).trans (hHeld.2.2.2.1)))))), ((cell_far (p := ⟨gb112, _, none⟩) NB113_112.out _).trans (((cell_far (p := ⟨gb112, _, none⟩) NB113_112.out _).trans (((cell_far (p := ⟨gb112, _, none⟩) NB113_112.out _).trans (hHeld.2.2.2.2))))))⟩ (fun hHeld => ?_)
                            clear hK K
                            refine pure_ (i := 6) (N := some 8) (v := ?_) (a' := ?_) #[true, true, true, true, true, true, true] rfl rfl (by kernel_rfl) (fun _ _ _ h => h) (Or.inl ⟨by rfl, ?_⟩) ?_ ?_
                            rotate_left
                            · intro w'
                              go_simp
                              with_reducible rfl
                            rotate_left
                            · simp only [Act.put, List.setIfInBounds_toArray, List.set_cons_zero, List.set_cons_succ, i64_w, i32_w]
                              rfl
                            refine done_ (by kernel_rfl) ?_
                            try go_wp2
                            refine bodyPost_ret (results_list (rs := [.cell 6 44, .cell 7 46, .tmp 8]) rfl (by simp) (.cell gb111 44 #[.int .i64 a1_0, .int .i64 (wrap64 (a1_1 + t120))] (0, 0) _ rfl (by (with_reducible repeat (first | refine blk_drewN ?_ _ | refine blk_drew ?_ | refine blk_alloc ?_ _)); refine blk_far ?_ NB111_112.out _; (with_reducible repeat (first | refine blk_drewN ?_ _ | refine blk_drew ?_ | refine blk_alloc ?_ _)); refine blk_far ?_ NB111_112.out _; (with_reducible repeat (first | refine blk_drewN ?_ _ | refine blk_drew ?_ | refine blk_alloc ?_ _)); refine blk_far ?_ NB111_112.out _; (with_reducible repeat (first | refine blk_drewN ?_ _ | refine blk_drew ?_ | refine blk_alloc ?_ _)); refine blk_put (cs := #[.int .i64 a1_0, .int .i64 0]) ?_ 1 _ rfl; (with_reducible repeat (first | refine blk_drewN ?_ _ | refine blk_drew ?_ | refine blk_alloc ?_ _)); refine blk_put (cs := #[.int .i64 0, .int .i64 0]) ?_ 0 _ rfl; (with_reducible repeat (first | refine blk_drewN ?_ _ | refine blk_drew ?_ | refine blk_alloc ?_ _)); exact BK111.out) Tryd.underlying44 rfl (by kernel_rfl) (.cell gb112 46 #[.int .i64 0, .int .i64 0, .string (⟨#[]⟩ : ByteArray)] (0, 0) _ rfl (by (with_reducible repeat (first | refine blk_drewN ?_ _ | refine blk_drew ?_ | refine blk_alloc ?_ _)); refine blk_put (cs := #[.int .i64 0, .int .i64 0, .string (⟨#[]⟩ : ByteArray)]) ?_ 2 _ rfl; (with_reducible repeat (first | refine blk_drewN ?_ _ | refine blk_drew ?_ | refine blk_alloc ?_ _)); refine blk_put (cs := #[.int .i64 0, .int .i64 0, .string (⟨#[]⟩ : ByteArray)]) ?_ 1 _ rfl; (with_reducible repeat (first | refine blk_drewN ?_ _ | refine blk_drew ?_ | refine blk_alloc ?_ _)); refine blk_put (cs := #[.int .i64 0, .int .i64 0, .string (⟨#[]⟩ : ByteArray)]) ?_ 0 _ rfl; (with_reducible repeat (first | refine blk_drewN ?_ _ | refine blk_drew ?_ | refine blk_alloc ?_ _)); refine blk_far ?_ NB112_111.out _; (with_reducible repeat (first | refine blk_drewN ?_ _ | refine blk_drew ?_ | refine blk_alloc ?_ _)); refine blk_far ?_ NB112_111.out _; (with_reducible repeat (first | refine blk_drewN ?_ _ | refine blk_drew ?_ | refine blk_alloc ?_ _)); exact BK112.out) Tryd.underlying46 rfl (by kernel_rfl) (.tmp .nil)))) rfl ?_
                            exact ⟨by first | rfl | (simp [errW_none, errW_some] <;> rfl) | (simp [*, errW_none, errW_some] <;> rfl), by repeat (first | (with_reducible first | exact HB.out | apply below_alloc | apply pw_below_drewN | apply below_drew1 | refine below_set ?_ GE109.out | refine below_set ?_ GE110.out | refine below_set ?_ GE111.out | refine below_set ?_ GE112.out | refine below_set ?_ GE113.out) | exact HB.out)⟩
                          · rw [if_neg c325] at H
                            have c325b0 : (a2_0 == 10) = false := beq_eq_false_iff_ne.mpr c325
                            have c325b1 : (a2_0 != 10) = true := bne_iff_ne.mpr c325
                            by_cases c343 : a2_0 = 11
                            · rw [if_pos c343] at H
                              have c343b0 : (a2_0 == 11) = true := beq_iff_eq.mpr c343
                              have c343b1 : (a2_0 != 11) = false := bne_eq_false_iff_eq.mpr c343
                              clear c343
                              simp only [Option.some.injEq, Prod.mk.injEq] at H
                              obtain ⟨rfl, rfl, rfl, rfl, rfl, rfl⟩ := H
                              have hnb344 := NB110_109.out
                              have hnc344 := NB109_110.out
                              have hnb345 := NB110_111.out
                              have hnc345 := NB111_110.out
                              have hnb346 := NB110_112.out
                              have hnc346 := NB112_110.out
                              have hnb347 := NB110_113.out
                              have hnc347 := NB113_110.out
                              have hcz348_0 : wc.cell? ⟨gb110, 0, none⟩ = some (.int .i64 a2_0) := (blk_cell BK110.out 0).trans rfl
                              have hcz348_1 : wc.cell? ⟨gb110, 1, none⟩ = some (.int .i64 a2_1) := (blk_cell BK110.out 1).trans rfl
                              have hfz348_0 := blk_frozen BK110.out 0
                              have hfz348_1 := blk_frozen BK110.out 1
                              have hnb349 := NB109_111.out
                              have hnc349 := NB111_109.out
                              have hnb350 := NB109_112.out
                              have hnc350 := NB112_109.out
                              have hnb351 := NB109_113.out
                              have hnc351 := NB113_109.out
                              have hcz352_0 : wc.cell? ⟨gb109, 0, none⟩ = some (.int .i64 a1_0) := (blk_cell BK109.out 0).trans rfl
                              have hcz352_1 : wc.cell? ⟨gb109, 1, none⟩ = some (.int .i64 a1_1) := (blk_cell BK109.out 1).trans rfl
                              have hfz352_0 := blk_frozen BK109.out 0
                              have hfz352_1 := blk_frozen BK109.out 1
                              try go_wp2
                              have n0_ : Aside0 (((wc.setCell ⟨gb109, 0, none⟩ (.int .i64 0)).setCell ⟨gb109, 1, none⟩ (.int .i64 0)).heap[gb109]? = some (.cells #[.int .i64 0, .int .i64 0] 44 (0, 0))) := ⟨by (with_reducible repeat (first | refine blk_drewN ?_ _ | refine blk_drew ?_ | refine blk_alloc ?_ _)); refine blk_put (cs := #[.int .i64 0, .int .i64 a1_1]) ?_ 1 _ rfl; (with_reducible repeat (first | refine blk_drewN ?_ _ | refine blk_drew ?_ | refine blk_alloc ?_ _)); refine blk_put (cs := #[.int .i64 a1_0, .int .i64 a1_1]) ?_ 0 _ rfl; (with_reducible repeat (first | refine blk_drewN ?_ _ | refine blk_drew ?_ | refine blk_alloc ?_ _)); exact BK109.out⟩
                              have n1_ : Aside0 (((wc.setCell ⟨gb109, 0, none⟩ (.int .i64 0)).setCell ⟨gb109, 1, none⟩ (.int .i64 0)).heap[gb110]? = some (.cells #[.int .i64 a2_0, .int .i64 a2_1] 26 (0, 0))) := ⟨by (with_reducible repeat (first | refine blk_drewN ?_ _ | refine blk_drew ?_ | refine blk_alloc ?_ _)); refine blk_far ?_ NB110_109.out _; (with_reducible repeat (first | refine blk_drewN ?_ _ | refine blk_drew ?_ | refine blk_alloc ?_ _)); refine blk_far ?_ NB110_109.out _; (with_reducible repeat (first | refine blk_drewN ?_ _ | refine blk_drew ?_ | refine blk_alloc ?_ _)); exact BK110.out⟩
                              have n2_ : Aside0 (((wc.setCell ⟨gb109, 0, none⟩ (.int .i64 0)).setCell ⟨gb109, 1, none⟩ (.int .i64 0)).heap[gb111]? = some (.cells #[.int .i64 0, .int .i64 0] 44 (0, 0))) := ⟨by (with_reducible repeat (first | refine blk_drewN ?_ _ | refine blk_drew ?_ | refine blk_alloc ?_ _)); refine blk_far ?_ NB111_109.out _; (with_reducible repeat (first | refine blk_drewN ?_ _ | refine blk_drew ?_ | refine blk_alloc ?_ _)); refine blk_far ?_ NB111_109.out _; (with_reducible repeat (first | refine blk_drewN ?_ _ | refine blk_drew ?_ | refine blk_alloc ?_ _)); exact BK111.out⟩
                              have n3_ : Aside0 (((wc.setCell ⟨gb109, 0, none⟩ (.int .i64 0)).setCell ⟨gb109, 1, none⟩ (.int .i64 0)).heap[gb112]? = some (.cells #[.int .i64 0, .int .i64 0, .string (⟨#[]⟩ : ByteArray)] 46 (0, 0))) := ⟨by (with_reducible repeat (first | refine blk_drewN ?_ _ | refine blk_drew ?_ | refine blk_alloc ?_ _)); refine blk_far ?_ NB112_109.out _; (with_reducible repeat (first | refine blk_drewN ?_ _ | refine blk_drew ?_ | refine blk_alloc ?_ _)); refine blk_far ?_ NB112_109.out _; (with_reducible repeat (first | refine blk_drewN ?_ _ | refine blk_drew ?_ | refine blk_alloc ?_ _)); exact BK112.out⟩
                              have n4_ : Aside0 (((wc.setCell ⟨gb109, 0, none⟩ (.int .i64 0)).setCell ⟨gb109, 1, none⟩ (.int .i64 0)).heap[gb113]? = some (.cells #[.int .i64 0, .int .i64 0, .string (⟨#[]⟩ : ByteArray)] 46 (0, 0))) := ⟨by (with_reducible repeat (first | refine blk_drewN ?_ _ | refine blk_drew ?_ | refine blk_alloc ?_ _)); refine blk_far ?_ NB113_109.out _; (with_reducible repeat (first | refine blk_drewN ?_ _ | refine blk_drew ?_ | refine blk_alloc ?_ _)); refine blk_far ?_ NB113_109.out _; (with_reducible repeat (first | refine blk_drewN ?_ _ | refine blk_drew ?_ | refine blk_alloc ?_ _)); exact BK113.out⟩
                              have n5_ : Aside0 (Below w.heap.size w ((wc.setCell ⟨gb109, 0, none⟩ (.int .i64 0)).setCell ⟨gb109, 1, none⟩ (.int .i64 0))) := ⟨by repeat (first | (with_reducible first | exact HB.out | apply below_alloc | apply pw_below_drewN | apply below_drew1 | refine below_set ?_ GE109.out | refine below_set ?_ GE110.out | refine below_set ?_ GE111.out | refine below_set ?_ GE112.out | refine below_set ?_ GE113.out) | exact HB.out)⟩
                              (try clear BK109)
                              (try clear BK110)
                              (try clear BK111)
                              (try clear BK112)
                              (try clear BK113)
                              (try clear HB)
                              generalize ((wc.setCell ⟨gb109, 0, none⟩ (.int .i64 0)).setCell ⟨gb109, 1, none⟩ (.int .i64 0)) = w353 at n0_ n1_ n2_ n3_ n4_ n5_ ⊢
                              have BK109 := n0_
                              have BK110 := n1_
                              have BK111 := n2_
                              have BK112 := n3_
                              have BK113 := n4_
                              have HB := n5_
                              clear n0_ n1_ n2_ n3_ n4_ n5_
                              have n0_ := Aside0.mk (blk_drew BK109.out)
                              have n1_ := Aside0.mk (blk_drew BK110.out)
                              have n2_ := Aside0.mk (blk_drew BK111.out)
                              have n3_ := Aside0.mk (blk_drew BK112.out)
                              have n4_ := Aside0.mk (blk_drew BK113.out)
                              have n5_ := Aside0.mk (below_drew1 HB.out)
                              clear BK109
                              clear BK110
                              clear BK111
                              clear BK112
                              clear BK113
                              clear HB
                              have BK109 := n0_
                              have BK110 := n1_
                              have BK111 := n2_
                              have BK112 := n3_
                              have BK113 := n4_
                              have HB := n5_
                              clear n0_ n1_ n2_ n3_ n4_ n5_
                              refine start_ (n := 5) (S := fun w' => w'.cell? ⟨gb109, 0, none⟩ = some (.int .i64 0) ∧ w'.cell? ⟨gb109, 1, none⟩ = some (.int .i64 0) ∧ w'.cell? ⟨gb113, 0, none⟩ = some (.int .i64 0) ∧ w'.cell? ⟨gb113, 1, none⟩ = some (.int .i64 0) ∧ w'.cell? ⟨gb113, 2, none⟩ = some (.string (⟨#[]⟩ : ByteArray))) (ds := []) #[false, false, false, false, false] (by kernel_rfl) rfl rfl ⟨(blk_cell BK109.out 0).trans rfl, (blk_cell BK109.out 1).trans rfl, (blk_cell BK113.out 0).trans rfl, (blk_cell BK113.out 1).trans rfl, (blk_cell BK113.out 2).trans rfl⟩ (fun hHeld => ?_)
                              generalize w353.drew = w354 at BK109 BK110 BK111 BK112 BK113 HB hHeld ⊢
                              refine take_ (i := 0) (N := some 191) (v := ?_) (a' := ?_) #[true, false, false, false, false] rfl rfl (by kernel_rfl) (fun _ _ _ h => h) (Or.inl ⟨by rfl, ?_⟩) hHeld ?_ ?_
                              rotate_left
                              · rintro w' ⟨s0, s1, s2, s3, s4⟩
                                go_simp
                                with_reducible rfl
                              rotate_left
                              · simp only [Act.put, List.setIfInBounds_toArray, List.set_cons_zero, List.set_cons_succ, i64_w, i32_w]
                                rfl
                              refine take_ (i := 1) (N := some 192) (v := ?_) (a' := ?_) #[true, true, false, false, false] rfl rfl (by kernel_rfl) (fun _ _ _ h => h) (Or.inl ⟨by rfl, ?_⟩) hHeld ?_ ?_
                              rotate_left
                              · rintro w' ⟨s0, s1, s2, s3, s4⟩
                                go_simp
                                with_reducible rfl
                              rotate_left
                              · simp only [Act.put, List.setIfInBounds_toArray, List.set_cons_zero, List.set_cons_succ, i64_w, i32_w]
                                rfl
                              refine one_ (i := 2) (N := none) #[true, true, true, false, false] rfl rfl (by kernel_rfl) (by decide) (fun K hK => ?_)
                              have hs355 : w354.cell? ⟨gb111, 0, none⟩ = some (.int .i64 0) := (blk_cell BK111.out 0).trans rfl
                              have hfs355 := blk_frozen BK111.out 0
                              have hns355_0 := NB109_111.out
                              have hns355_1 := NB110_111.out
                              have hns355_3 := NB112_111.out
                              have hns355_4 := NB113_111.out
                              have hms355_0 := NB111_109.out
                              have hms355_1 := NB111_110.out
                              have hms355_3 := NB111_112.out
                              have hms355_4 := NB111_113.out
                              have hs356 : w354.cell? ⟨gb111, 1, none⟩ = some (.int .i64 0) := (blk_cell BK111.out 1).trans rfl
                              have hfs356 := blk_frozen BK111.out 1
                              have hns356_0 := NB109_111.out
                              have hns356_1 := NB110_111.out
                              have hns356_3 := NB112_111.out
                              have hns356_4 := NB113_111.out
                              have hms356_0 := NB111_109.out
                              have hms356_1 := NB111_110.out
                              have hms356_3 := NB111_112.out
                              have hms356_4 := NB111_113.out
                              refine skip_ (w1 := ?_) (by rfl) rfl ?_ ?_
                              rotate_left
                              · go_simp
                                rfl
                              refine hK.out _ _ ⟨((cell_far (p := ⟨gb111, _, none⟩) NB109_111.out _).trans (((cell_far (p := ⟨gb111, _, none⟩) NB109_111.out _).trans (hHeld.1)))), ((cell_far (p := ⟨gb111, _, none⟩) NB109_111.out _).trans (((cell_far (p := ⟨gb111, _, none⟩) NB109_111.out _).trans (hHeld.2.1)))), ((cell_far (p := ⟨gb111, _, none⟩) NB113_111.out _).trans (((cell_far (p := ⟨gb111, _, none⟩) NB113_111.out _).trans (hHeld.2.2.1)))), ((cell_far (p := ⟨gb111, _, none⟩) NB113_111.out _).trans (((cell_far (p := ⟨gb111, _, none⟩) NB113_111.out _).trans (hHeld.2.2.2.1)))), ((cell_far (p := ⟨gb111, _, none⟩) NB113_111.out _).trans (((cell_far (p := ⟨gb111, _, none⟩) NB113_111.out _).trans (hHeld.2.2.2.2))))⟩ (fun hHeld => ?_)
                              clear hK K
                              refine one_ (i := 3) (N := none) #[true, true, true, true, false] rfl rfl (by kernel_rfl) (by decide) (fun K hK => ?_)
                              have hs357 : w354.cell? ⟨gb112, 0, none⟩ = some (.int .i64 0) := (blk_cell BK112.out 0).trans rfl
                              have hfs357 := blk_frozen BK112.out 0
                              have hns357_0 := NB109_112.out
                              have hns357_1 := NB110_112.out
                              have hns357_2 := NB111_112.out
                              have hns357_4 := NB113_112.out
                              have hms357_0 := NB112_109.out
                              have hms357_1 := NB112_110.out
                              have hms357_2 := NB112_111.out
                              have hms357_4 := NB112_113.out
                              have hs358 : w354.cell? ⟨gb112, 1, none⟩ = some (.int .i64 0) := (blk_cell BK112.out 1).trans rfl
                              have hfs358 := blk_frozen BK112.out 1
                              have hns358_0 := NB109_112.out
                              have hns358_1 := NB110_112.out
                              have hns358_2 := NB111_112.out
                              have hns358_4 := NB113_112.out
                              have hms358_0 := NB112_109.out
                              have hms358_1 := NB112_110.out
                              have hms358_2 := NB112_111.out
                              have hms358_4 := NB112_113.out
                              have hs359 : w354.cell? ⟨gb112, 2, none⟩ = some (.string (⟨#[]⟩ : ByteArray)) := (blk_cell BK112.out 2).trans rfl
                              have hfs359 := blk_frozen BK112.out 2
                              have hns359_0 := NB109_112.out
                              have hns359_1 := NB110_112.out
                              have hns359_2 := NB111_112.out
                              have hns359_4 := NB113_112.out
                              have hms359_0 := NB112_109.out
                              have hms359_1 := NB112_110.out
                              have hms359_2 := NB112_111.out
                              have hms359_4 := NB112_113.out
                              refine skip_ (w1 := ?_) (by rfl) rfl ?_ ?_
                              rotate_left
                              · go_simp
                                rfl
                              refine hK.out _ _ ⟨((cell_far (p := ⟨gb112, _, none⟩) NB109_112.out _).trans (((cell_far (p := ⟨gb112, _, none⟩) NB109_112.out _).trans (((cell_far (p := ⟨gb112, _, none⟩) NB109_112.out _).trans (hHeld.1)))))), ((cell_far (p := ⟨gb112, _, none⟩) NB109_112.out _).trans (((cell_far (p := ⟨gb112, _, none⟩) NB109_112.out _).trans (((cell_far (p := ⟨gb112, _, none⟩) NB109_112.out _).trans (hHeld.2.1)))))), ((cell_far (p := ⟨gb112, _, none⟩) NB113_112.out _).trans (((cell_far (p := ⟨gb112, _, none⟩) NB113_112.out _).trans (((cell_far (p := ⟨gb112, _, none⟩) NB113_112.out _).trans (hHeld.2.2.1)))))), ((cell_far (p := ⟨gb112, _, none⟩) NB113_112.out _).trans (((cell_far (p := ⟨gb112, _, none⟩) NB113_112.out _).trans (((cell_far (p := ⟨gb112, _, none⟩) NB113_112.out _).trans (hHeld.2.2.2.1)))))), ((cell_far (p := ⟨gb112, _, none⟩) NB113_112.out _).trans (((cell_far (p := ⟨gb112, _, none⟩) NB113_112.out _).trans (((cell_far (p := ⟨gb112, _, none⟩) NB113_112.out _).trans (hHeld.2.2.2.2))))))⟩ (fun hHeld => ?_)
                              clear hK K
                              refine pure_ (i := 4) (N := some 8) (v := ?_) (a' := ?_) #[true, true, true, true, true] rfl rfl (by kernel_rfl) (fun _ _ _ h => h) (Or.inl ⟨by rfl, ?_⟩) ?_ ?_
                              rotate_left
                              · intro w'
                                go_simp
                                with_reducible rfl
                              rotate_left
                              · simp only [Act.put, List.setIfInBounds_toArray, List.set_cons_zero, List.set_cons_succ, i64_w, i32_w]
                                rfl
                              refine done_ (by kernel_rfl) ?_
                              try go_wp2
                              refine bodyPost_ret (results_list (rs := [.cell 6 44, .cell 7 46, .tmp 8]) rfl (by simp) (.cell gb111 44 #[.int .i64 0, .int .i64 0] (0, 0) _ rfl (by (with_reducible repeat (first | refine blk_drewN ?_ _ | refine blk_drew ?_ | refine blk_alloc ?_ _)); refine blk_far ?_ NB111_112.out _; (with_reducible repeat (first | refine blk_drewN ?_ _ | refine blk_drew ?_ | refine blk_alloc ?_ _)); refine blk_far ?_ NB111_112.out _; (with_reducible repeat (first | refine blk_drewN ?_ _ | refine blk_drew ?_ | refine blk_alloc ?_ _)); refine blk_far ?_ NB111_112.out _; (with_reducible repeat (first | refine blk_drewN ?_ _ | refine blk_drew ?_ | refine blk_alloc ?_ _)); refine blk_put (cs := #[.int .i64 0, .int .i64 0]) ?_ 1 _ rfl; (with_reducible repeat (first | refine blk_drewN ?_ _ | refine blk_drew ?_ | refine blk_alloc ?_ _)); refine blk_put (cs := #[.int .i64 0, .int .i64 0]) ?_ 0 _ rfl; (with_reducible repeat (first | refine blk_drewN ?_ _ | refine blk_drew ?_ | refine blk_alloc ?_ _)); exact BK111.out) Tryd.underlying44 rfl (by kernel_rfl) (.cell gb112 46 #[.int .i64 0, .int .i64 0, .string (⟨#[]⟩ : ByteArray)] (0, 0) _ rfl (by (with_reducible repeat (first | refine blk_drewN ?_ _ | refine blk_drew ?_ | refine blk_alloc ?_ _)); refine blk_put (cs := #[.int .i64 0, .int .i64 0, .string (⟨#[]⟩ : ByteArray)]) ?_ 2 _ rfl; (with_reducible repeat (first | refine blk_drewN ?_ _ | refine blk_drew ?_ | refine blk_alloc ?_ _)); refine blk_put (cs := #[.int .i64 0, .int .i64 0, .string (⟨#[]⟩ : ByteArray)]) ?_ 1 _ rfl; (with_reducible repeat (first | refine blk_drewN ?_ _ | refine blk_drew ?_ | refine blk_alloc ?_ _)); refine blk_put (cs := #[.int .i64 0, .int .i64 0, .string (⟨#[]⟩ : ByteArray)]) ?_ 0 _ rfl; (with_reducible repeat (first | refine blk_drewN ?_ _ | refine blk_drew ?_ | refine blk_alloc ?_ _)); refine blk_far ?_ NB112_111.out _; (with_reducible repeat (first | refine blk_drewN ?_ _ | refine blk_drew ?_ | refine blk_alloc ?_ _)); refine blk_far ?_ NB112_111.out _; (with_reducible repeat (first | refine blk_drewN ?_ _ | refine blk_drew ?_ | refine blk_alloc ?_ _)); exact BK112.out) Tryd.underlying46 rfl (by kernel_rfl) (.tmp .nil)))) rfl ?_
                              exact ⟨by first | rfl | (simp [errW_none, errW_some] <;> rfl) | (simp [*, errW_none, errW_some] <;> rfl), by repeat (first | (with_reducible first | exact HB.out | apply below_alloc | apply pw_below_drewN | apply below_drew1 | refine below_set ?_ GE109.out | refine below_set ?_ GE110.out | refine below_set ?_ GE111.out | refine below_set ?_ GE112.out | refine below_set ?_ GE113.out) | exact HB.out)⟩
                            · rw [if_neg c343] at H
                              have c343b0 : (a2_0 == 11) = false := beq_eq_false_iff_ne.mpr c343
                              have c343b1 : (a2_0 != 11) = true := bne_iff_ne.mpr c343
                              simp only [Option.some.injEq, Prod.mk.injEq] at H
                              obtain ⟨rfl, rfl, rfl, rfl, rfl, rfl⟩ := H
                              have hnb360 := NB110_109.out
                              have hnc360 := NB109_110.out
                              have hnb361 := NB110_111.out
                              have hnc361 := NB111_110.out
                              have hnb362 := NB110_112.out
                              have hnc362 := NB112_110.out
                              have hnb363 := NB110_113.out
                              have hnc363 := NB113_110.out
                              have hcz364_0 : wc.cell? ⟨gb110, 0, none⟩ = some (.int .i64 a2_0) := (blk_cell BK110.out 0).trans rfl
                              have hcz364_1 : wc.cell? ⟨gb110, 1, none⟩ = some (.int .i64 a2_1) := (blk_cell BK110.out 1).trans rfl
                              have hfz364_0 := blk_frozen BK110.out 0
                              have hfz364_1 := blk_frozen BK110.out 1
                              try go_wp2
                              have n0_ := Aside0.mk (blk_drew BK109.out)
                              have n1_ := Aside0.mk (blk_drew BK110.out)
                              have n2_ := Aside0.mk (blk_drew BK111.out)
                              have n3_ := Aside0.mk (blk_drew BK112.out)
                              have n4_ := Aside0.mk (blk_drew BK113.out)
                              have n5_ := Aside0.mk (below_drew1 HB.out)
                              clear BK109
                              clear BK110
                              clear BK111
                              clear BK112
                              clear BK113
                              clear HB
                              have BK109 := n0_
                              have BK110 := n1_
                              have BK111 := n2_
                              have BK112 := n3_
                              have BK113 := n4_
                              have HB := n5_
                              clear n0_ n1_ n2_ n3_ n4_ n5_
                              refine start_ (n := 5) (S := fun w' => w'.cell? ⟨gb109, 0, none⟩ = some (.int .i64 a1_0) ∧ w'.cell? ⟨gb109, 1, none⟩ = some (.int .i64 a1_1) ∧ w'.cell? ⟨gb113, 0, none⟩ = some (.int .i64 0) ∧ w'.cell? ⟨gb113, 1, none⟩ = some (.int .i64 0) ∧ w'.cell? ⟨gb113, 2, none⟩ = some (.string (⟨#[]⟩ : ByteArray))) (ds := []) #[false, false, false, false, false] (by kernel_rfl) rfl rfl ⟨(blk_cell BK109.out 0).trans rfl, (blk_cell BK109.out 1).trans rfl, (blk_cell BK113.out 0).trans rfl, (blk_cell BK113.out 1).trans rfl, (blk_cell BK113.out 2).trans rfl⟩ (fun hHeld => ?_)
                              generalize wc.drew = w365 at BK109 BK110 BK111 BK112 BK113 HB hHeld ⊢
                              refine take_ (i := 0) (N := some 191) (v := ?_) (a' := ?_) #[true, false, false, false, false] rfl rfl (by kernel_rfl) (fun _ _ _ h => h) (Or.inl ⟨by rfl, ?_⟩) hHeld ?_ ?_
                              rotate_left
                              · rintro w' ⟨s0, s1, s2, s3, s4⟩
                                go_simp
                                with_reducible rfl
                              rotate_left
                              · simp only [Act.put, List.setIfInBounds_toArray, List.set_cons_zero, List.set_cons_succ, i64_w, i32_w]
                                rfl
                              refine take_ (i := 1) (N := some 192) (v := ?_) (a' := ?_) #[true, true, false, false, false] rfl rfl (by kernel_rfl) (fun _ _ _ h => h) (Or.inl ⟨by rfl, ?_⟩) hHeld ?_ ?_
                              rotate_left
                              · rintro w' ⟨s0, s1, s2, s3, s4⟩
                                go_simp
                                with_reducible rfl
                              rotate_left
                              · simp only [Act.put, List.setIfInBounds_toArray, List.set_cons_zero, List.set_cons_succ, i64_w, i32_w]
                                rfl
                              refine one_ (i := 2) (N := none) #[true, true, true, false, false] rfl rfl (by kernel_rfl) (by decide) (fun K hK => ?_)
                              have hs366 : w365.cell? ⟨gb111, 0, none⟩ = some (.int .i64 0) := (blk_cell BK111.out 0).trans rfl
                              have hfs366 := blk_frozen BK111.out 0
                              have hns366_0 := NB109_111.out
                              have hns366_1 := NB110_111.out
                              have hns366_3 := NB112_111.out
                              have hns366_4 := NB113_111.out
                              have hms366_0 := NB111_109.out
                              have hms366_1 := NB111_110.out
                              have hms366_3 := NB111_112.out
                              have hms366_4 := NB111_113.out
                              have hs367 : w365.cell? ⟨gb111, 1, none⟩ = some (.int .i64 0) := (blk_cell BK111.out 1).trans rfl
                              have hfs367 := blk_frozen BK111.out 1
                              have hns367_0 := NB109_111.out
                              have hns367_1 := NB110_111.out
                              have hns367_3 := NB112_111.out
                              have hns367_4 := NB113_111.out
                              have hms367_0 := NB111_109.out
                              have hms367_1 := NB111_110.out
                              have hms367_3 := NB111_112.out
                              have hms367_4 := NB111_113.out
                              refine skip_ (w1 := ?_) (by rfl) rfl ?_ ?_
                              rotate_left
                              · go_simp
                                rfl
                              refine hK.out _ _ ⟨((cell_far (p := ⟨gb111, _, none⟩) NB109_111.out _).trans (((cell_far (p := ⟨gb111, _, none⟩) NB109_111.out _).trans (hHeld.1)))), ((cell_far (p := ⟨gb111, _, none⟩) NB109_111.out _).trans (((cell_far (p := ⟨gb111, _, none⟩) NB109_111.out _).trans (hHeld.2.1)))), ((cell_far (p := ⟨gb111, _, none⟩) NB113_111.out _).trans (((cell_far (p := ⟨gb111, _, none⟩) NB113_111.out _).trans (hHeld.2.2.1)))), ((cell_far (p := ⟨gb111, _, none⟩) NB113_111.out _).trans (((cell_far (p := ⟨gb111, _, none⟩) NB113_111.out _).trans (hHeld.2.2.2.1)))), ((cell_far (p := ⟨gb111, _, none⟩) NB113_111.out _).trans (((cell_far (p := ⟨gb111, _, none⟩) NB113_111.out _).trans (hHeld.2.2.2.2))))⟩ (fun hHeld => ?_)
                              clear hK K
                              refine one_ (i := 3) (N := none) #[true, true, true, true, false] rfl rfl (by kernel_rfl) (by decide) (fun K hK => ?_)
                              have hs368 : w365.cell? ⟨gb112, 0, none⟩ = some (.int .i64 0) := (blk_cell BK112.out 0).trans rfl
                              have hfs368 := blk_frozen BK112.out 0
                              have hns368_0 := NB109_112.out
                              have hns368_1 := NB110_112.out
                              have hns368_2 := NB111_112.out
                              have hns368_4 := NB113_112.out
                              have hms368_0 := NB112_109.out
                              have hms368_1 := NB112_110.out
                              have hms368_2 := NB112_111.out
                              have hms368_4 := NB112_113.out
                              have hs369 : w365.cell? ⟨gb112, 1, none⟩ = some (.int .i64 0) := (blk_cell BK112.out 1).trans rfl
                              have hfs369 := blk_frozen BK112.out 1
                              have hns369_0 := NB109_112.out
                              have hns369_1 := NB110_112.out
                              have hns369_2 := NB111_112.out
                              have hns369_4 := NB113_112.out
                              have hms369_0 := NB112_109.out
                              have hms369_1 := NB112_110.out
                              have hms369_2 := NB112_111.out
                              have hms369_4 := NB112_113.out
                              have hs370 : w365.cell? ⟨gb112, 2, none⟩ = some (.string (⟨#[]⟩ : ByteArray)) := (blk_cell BK112.out 2).trans rfl
                              have hfs370 := blk_frozen BK112.out 2
                              have hns370_0 := NB109_112.out
                              have hns370_1 := NB110_112.out
                              have hns370_2 := NB111_112.out
                              have hns370_4 := NB113_112.out
                              have hms370_0 := NB112_109.out
                              have hms370_1 := NB112_110.out
                              have hms370_2 := NB112_111.out
                              have hms370_4 := NB112_113.out
                              refine skip_ (w1 := ?_) (by rfl) rfl ?_ ?_
                              rotate_left
                              · go_simp
                                rfl
                              refine hK.out _ _ ⟨((cell_far (p := ⟨gb112, _, none⟩) NB109_112.out _).trans (((cell_far (p := ⟨gb112, _, none⟩) NB109_112.out _).trans (((cell_far (p := ⟨gb112, _, none⟩) NB109_112.out _).trans (hHeld.1)))))), ((cell_far (p := ⟨gb112, _, none⟩) NB109_112.out _).trans (((cell_far (p := ⟨gb112, _, none⟩) NB109_112.out _).trans (((cell_far (p := ⟨gb112, _, none⟩) NB109_112.out _).trans (hHeld.2.1)))))), ((cell_far (p := ⟨gb112, _, none⟩) NB113_112.out _).trans (((cell_far (p := ⟨gb112, _, none⟩) NB113_112.out _).trans (((cell_far (p := ⟨gb112, _, none⟩) NB113_112.out _).trans (hHeld.2.2.1)))))), ((cell_far (p := ⟨gb112, _, none⟩) NB113_112.out _).trans (((cell_far (p := ⟨gb112, _, none⟩) NB113_112.out _).trans (((cell_far (p := ⟨gb112, _, none⟩) NB113_112.out _).trans (hHeld.2.2.2.1)))))), ((cell_far (p := ⟨gb112, _, none⟩) NB113_112.out _).trans (((cell_far (p := ⟨gb112, _, none⟩) NB113_112.out _).trans (((cell_far (p := ⟨gb112, _, none⟩) NB113_112.out _).trans (hHeld.2.2.2.2))))))⟩ (fun hHeld => ?_)
                              clear hK K
                              refine pure_ (i := 4) (N := some 8) (v := ?_) (a' := ?_) #[true, true, true, true, true] rfl rfl (by kernel_rfl) (fun _ _ _ h => h) (Or.inl ⟨by rfl, ?_⟩) ?_ ?_
                              rotate_left
                              · intro w'
                                go_simp
                                with_reducible rfl
                              rotate_left
                              · simp only [Act.put, List.setIfInBounds_toArray, List.set_cons_zero, List.set_cons_succ, i64_w, i32_w]
                                rfl
                              refine done_ (by kernel_rfl) ?_
                              try go_wp2
                              refine bodyPost_ret (results_list (rs := [.cell 6 44, .cell 7 46, .tmp 8]) rfl (by simp) (.cell gb111 44 #[.int .i64 a1_0, .int .i64 a1_1] (0, 0) _ rfl (by (with_reducible repeat (first | refine blk_drewN ?_ _ | refine blk_drew ?_ | refine blk_alloc ?_ _)); refine blk_far ?_ NB111_112.out _; (with_reducible repeat (first | refine blk_drewN ?_ _ | refine blk_drew ?_ | refine blk_alloc ?_ _)); refine blk_far ?_ NB111_112.out _; (with_reducible repeat (first | refine blk_drewN ?_ _ | refine blk_drew ?_ | refine blk_alloc ?_ _)); refine blk_far ?_ NB111_112.out _; (with_reducible repeat (first | refine blk_drewN ?_ _ | refine blk_drew ?_ | refine blk_alloc ?_ _)); refine blk_put (cs := #[.int .i64 a1_0, .int .i64 0]) ?_ 1 _ rfl; (with_reducible repeat (first | refine blk_drewN ?_ _ | refine blk_drew ?_ | refine blk_alloc ?_ _)); refine blk_put (cs := #[.int .i64 0, .int .i64 0]) ?_ 0 _ rfl; (with_reducible repeat (first | refine blk_drewN ?_ _ | refine blk_drew ?_ | refine blk_alloc ?_ _)); exact BK111.out) Tryd.underlying44 rfl (by kernel_rfl) (.cell gb112 46 #[.int .i64 0, .int .i64 0, .string (⟨#[]⟩ : ByteArray)] (0, 0) _ rfl (by (with_reducible repeat (first | refine blk_drewN ?_ _ | refine blk_drew ?_ | refine blk_alloc ?_ _)); refine blk_put (cs := #[.int .i64 0, .int .i64 0, .string (⟨#[]⟩ : ByteArray)]) ?_ 2 _ rfl; (with_reducible repeat (first | refine blk_drewN ?_ _ | refine blk_drew ?_ | refine blk_alloc ?_ _)); refine blk_put (cs := #[.int .i64 0, .int .i64 0, .string (⟨#[]⟩ : ByteArray)]) ?_ 1 _ rfl; (with_reducible repeat (first | refine blk_drewN ?_ _ | refine blk_drew ?_ | refine blk_alloc ?_ _)); refine blk_put (cs := #[.int .i64 0, .int .i64 0, .string (⟨#[]⟩ : ByteArray)]) ?_ 0 _ rfl; (with_reducible repeat (first | refine blk_drewN ?_ _ | refine blk_drew ?_ | refine blk_alloc ?_ _)); refine blk_far ?_ NB112_111.out _; (with_reducible repeat (first | refine blk_drewN ?_ _ | refine blk_drew ?_ | refine blk_alloc ?_ _)); refine blk_far ?_ NB112_111.out _; (with_reducible repeat (first | refine blk_drewN ?_ _ | refine blk_drew ?_ | refine blk_alloc ?_ _)); exact BK112.out) Tryd.underlying46 rfl (by kernel_rfl) (.tmp .nil)))) rfl ?_
                              exact ⟨by first | rfl | (simp [errW_none, errW_some] <;> rfl) | (simp [*, errW_none, errW_some] <;> rfl), by repeat (first | (with_reducible first | exact HB.out | apply below_alloc | apply pw_below_drewN | apply below_drew1 | refine below_set ?_ GE109.out | refine below_set ?_ GE110.out | refine below_set ?_ GE111.out | refine below_set ?_ GE112.out | refine below_set ?_ GE113.out) | exact HB.out)⟩

end Go.Proofs.YtojgpdphdhcjiaaDoor.PFnInput
