import Derived.Test.YtojgpdphdhcjiaaDoorPFnInputx0
import Derived.Test.YtojgpdphdhcjiaaDoorPFnInputx3
namespace Go.Proofs.YtojgpdphdhcjiaaDoor.PFnInput
open Go.RowKit Go.Proofs.YtojgpdphdhcjiaaDoorW.PrintWords Go.Proofs.YtojgpdphdhcjiaaDoorW.PrintLast Go.Proofs.YtojgpdphdhcjiaaDoorW.PrintMore
attribute [local go_sem] max2_int min2_int max_two min_two max_three min_three max_four min_four   -- for this text's walks alone
set_option linter.unusedVariables false
set_option linter.unusedSimpArgs false

/-! ### spec_Next: function 15 -/
def spec_Next.j0 : Nat → List Int → Int → Bool → Int → Int → Int → Int → Int → Int → ByteArray → Option (Int × Int × Int × Int × ByteArray × Bool)
  | 0, _, _, _, _, _, _, _, _, _, _ => none
  | k + 1, x0, x10, x11, x110000, x110001, x111000, x111001, x114000, x114001, x114002 => if x111000 = 0 then (some (x110000, x10, x114000, x114001, x114002, x11)) else (if x111000 = 1 then (if x111001 ≥ 0 then (some (x110000, wrap64 (x110000 + x111001), x114000, x114001, x114002, decide (x111001 ≤ (wrap64 (x110001 - x110000))))) else (some (x110000, wrap64 (x110000 + x111001), x114000, x114001, x114002, false))) else (if x111000 = 2 then (if 0 ≤ x110000 then (if x110000 ≤ x110001 then (if x110001 ≤ (x0.length : Int) then (some (x110001, x110001, x114000, x114001, strOfNums ((x0.take (x110001 : Int).toNat).drop (x110000 : Int).toNat), true)) else (none)) else (none)) else (none)) else (if x111000 = 3 then (some (x110001, x110001, x114000, x114001, x114002, true)) else (if x111000 = 4 then (if x11 = true then (if x10 < (x0.length : Int) then (if 0 ≤ x10 then (some (x110000, x110001, wrap64 (rd x0 x10), x114001, x114002, true)) else (none)) else (some (x110000, x110001, x114000, x114001, x114002, true))) else (some (x110000, x110001, x114000, x114001, x114002, false))) else (if x111000 = 5 then (if x11 = true then (if x10 = (x0.length : Int) then (some (x110000, x110001, 1, x114001, x114002, x11)) else (some (x110000, x110001, x114000, x114001, x114002, x11))) else (some (x110000, x110001, x114000, x114001, x114002, x11))) else (if x111000 = 6 then (if 0 ≤ x110000 then (if x110000 ≤ x110001 then (if x110001 ≤ (x0.length : Int) then (some (x110000, x110001, x114000, x114001, strOfNums ((x0.take (x110001 : Int).toNat).drop (x110000 : Int).toNat), true)) else (none)) else (none)) else (none)) else (if x111000 = 7 then (some (x110000, x110001, wrap64 (x110001 - x110000), x114001, x114002, true)) else (if x111000 = 8 then (some (x110000, x110001, x110001, x114001, x114002, true)) else (if x111000 = 9 then (if x11 = true then ((spec_RuneAt.f k x0 x10).bind fun bt117 => (some (x110000, x110001, bt117.1, bt117.2, x114002, decide (bt117.1 > 0)))) else (some (x110000, x110001, x114000, x114001, x114002, false))) else (if x111000 = 10 then ((spec_RuneAt.f k x0 x110001).bind fun bt119 => (some (x110000, wrap64 (x110001 + bt119.2), x114000, x114001, x114002, decide (bt119.1 > 0)))) else (if x111000 = 11 then (some (0, 0, x114000, x114001, x114002, true)) else (some (x110000, x110001, x114000, x114001, x114002, true)))))))))))))
def spec_Next.f (k : Nat) (l0 : List Int) (a1_0 : Int) (a1_1 : Int) (a2_0 : Int) (a2_1 : Int) : Option (Int × Int × Int × Int × ByteArray × Bool) := if a2_1 ≥ (wrap64 (-(l0.length : Int))) then (if a2_1 ≤ (l0.length : Int) then (if (wrap64 (a1_1 + a2_1)) ≥ a1_0 then (spec_Next.j0 k l0 (wrap64 (a1_1 + a2_1)) (decide ((wrap64 (a1_1 + a2_1)) ≤ (l0.length : Int))) a1_0 a1_1 a2_0 a2_1 0 0 (⟨#[]⟩ : ByteArray)) else (spec_Next.j0 k l0 (wrap64 (a1_1 + a2_1)) false a1_0 a1_1 a2_0 a2_1 0 0 (⟨#[]⟩ : ByteArray))) else (spec_Next.j0 k l0 (wrap64 (a1_1 + a2_1)) false a1_0 a1_1 a2_0 a2_1 0 0 (⟨#[]⟩ : ByteArray))) else (spec_Next.j0 k l0 (wrap64 (a1_1 + a2_1)) false a1_0 a1_1 a2_0 a2_1 0 0 (⟨#[]⟩ : ByteArray))
theorem spec_Next.mono_l : ∀ k, (∀ y0 y1 y2 y3 y4 y5 y6 y7 y8 y9, LeO (spec_Next.j0 k y0 y1 y2 y3 y4 y5 y6 y7 y8 y9) (spec_Next.j0 (k + 1) y0 y1 y2 y3 y4 y5 y6 y7 y8 y9))
  | 0 => fun _ _ _ _ _ _ _ _ _ _ r h => by simp [spec_Next.j0] at h
  | k + 1 => by
    have ih0 := spec_Next.mono_l k
    · intro y0 y1 y2 y3 y4 y5 y6 y7 y8 y9
      unfold spec_Next.j0
      repeat' first
      | (with_reducible exact ih0 _ _ _ _ _ _ _ _ _ _)
      | (with_reducible exact spec_RuneAt.mono _ _ _)
      | (with_reducible exact LeO.refl _)
      | (with_reducible exact LeO.none _)
      | (with_reducible refine LeO.ite ?_ ?_)
      | (with_reducible refine LeO.bind ?_ (fun _ => ?_))
      | exact ih0 _ _ _ _ _ _ _ _ _ _
      | exact spec_RuneAt.mono _ _ _
      | exact LeO.none _
      | refine LeO.ite ?_ ?_
      | refine LeO.bind ?_ (fun _ => ?_)
theorem spec_Next.mono : ∀ a0 a1 a2 a3 a4 k, LeO (spec_Next.f k a0 a1 a2 a3 a4) (spec_Next.f (k + 1) a0 a1 a2 a3 a4) := by
  intro a0 a1 a2 a3 a4 k
  have ih0 := spec_Next.mono_l k
  unfold spec_Next.f
  repeat' first
      | (with_reducible exact ih0 _ _ _ _ _ _ _ _ _ _)
      | (with_reducible exact spec_RuneAt.mono _ _ _)
      | (with_reducible exact LeO.refl _)
      | (with_reducible exact LeO.none _)
      | (with_reducible refine LeO.ite ?_ ?_)
      | (with_reducible refine LeO.bind ?_ (fun _ => ?_))
      | exact ih0 _ _ _ _ _ _ _ _ _ _
      | exact spec_RuneAt.mono _ _ _
      | exact LeO.none _
      | refine LeO.ite ?_ ?_
      | refine LeO.bind ?_ (fun _ => ?_)
set_option maxHeartbeats 8000000 in
set_option maxRecDepth 100000 in
theorem spec_Next.callsA (k : Nat) (A0 : Option Addr) (c0 : Nat) (l0 : List Int) (a1_0 : Int) (a1_1 : Int) (a2_0 : Int) (a2_1 : Int) (r1 : Int) (r2 : Int) (r3 : Int) (r4 : Int) (r5 : ByteArray) (r6 : Bool) (w : World) (hgrp_ : a2_0 = 0 ∨ a2_0 = 1 ∨ a2_0 = 2 ∨ a2_0 = 3) (hr0 : Kd.C (Kd.int .u8) w A0 l0.length l0) (hc0 : l0.length ≤ c0) (h : spec_Next.f k l0 a1_0 a1_1 a2_0 a2_1 = some (r1, r2, r3, r4, r5, r6)) :
    Calls Tryd.prog 15 #[.slice A0 l0.length c0, .agg #[.int .i64 a1_0, .int .i64 a1_1], .agg #[.int .i64 a2_0, .int .i64 a2_1]] w fun e w' => e = .returned (.tuple #[.agg #[.int .i64 r1, .int .i64 r2], .agg #[.int .i64 r3, .int .i64 r4, .string r5], .bool r6]) ∧ Below w.heap.size w w' := by
  have HGRP := Aside0.mk hgrp_
  clear hgrp_
  have hu44 := Tryd.underlying44
  have hu26 := Tryd.underlying26
  have hu46 := Tryd.underlying46
  have HR0 := Aside0.mk hr0
  have HC0 := Aside0.mk hc0
  clear hr0 hc0
  have HB := Aside0.mk (Below.refl w.heap.size w)
  have H : (if a2_1 ≥ (wrap64 (-(l0.length : Int))) then (if a2_1 ≤ (l0.length : Int) then (if (wrap64 (a1_1 + a2_1)) ≥ a1_0 then (spec_Next.j0 k l0 (wrap64 (a1_1 + a2_1)) (decide ((wrap64 (a1_1 + a2_1)) ≤ (l0.length : Int))) a1_0 a1_1 a2_0 a2_1 0 0 (⟨#[]⟩ : ByteArray)) else (spec_Next.j0 k l0 (wrap64 (a1_1 + a2_1)) false a1_0 a1_1 a2_0 a2_1 0 0 (⟨#[]⟩ : ByteArray))) else (spec_Next.j0 k l0 (wrap64 (a1_1 + a2_1)) false a1_0 a1_1 a2_0 a2_1 0 0 (⟨#[]⟩ : ByteArray))) else (spec_Next.j0 k l0 (wrap64 (a1_1 + a2_1)) false a1_0 a1_1 a2_0 a2_1 0 0 (⟨#[]⟩ : ByteArray))) = some (r1, r2, r3, r4, r5, r6) := h
  clear h
  have HC4 := Aside0.mk H
  clear H
  go_enter Tryd.func15, Tryd.ntmps15
  go_upto_region 3 with (first | ((with_reducible refine gate_dst (N := 4) rfl ?_); (try (refine gate_guard (by rfl) ?_; dsimp only)); refine box_event ?hg (N := 4) ?hd (cs := #[.int .i64 a1_0, .int .i64 a1_1]) (t := 44) ?hr ?_; (case hd => rfl); (case hg => rfl); (case hr => first | (go_simp; done) | (go_simp; rfl)); intro gb109 hg w5 hbox hb; have n0_ := Aside0.mk (below_step (by repeat (first | (with_reducible first | exact HB.out | apply below_alloc | apply pw_below_drewN | apply below_drew1) | exact HB.out)) hb); have n1_ := Aside0.mk (hbox); have n2_ := Aside0.mk ((by rw [hg]; exact (below_size (by repeat (first | (with_reducible first | exact HB.out | apply below_alloc | apply pw_below_drewN | apply below_drew1) | exact HB.out))) : w.heap.size ≤ gb109)); have n3_ := Aside0.mk ((by rw [hg]; exact (below_size (by repeat (first | (with_reducible first | exact HB.out | apply below_alloc | apply pw_below_drewN | apply below_drew1) | exact HB.out))) : w.heap.size ≤ gb109)); clear HB; have HB := n0_; have BK109 := n1_; have GW109 := n2_; have GE109 := n3_; clear n0_ n1_ n2_ n3_; clear hb hbox hg) | ((with_reducible refine gate_dst (N := 5) rfl ?_); (try (refine gate_guard (by rfl) ?_; dsimp only)); refine box_event ?hg (N := 5) ?hd (cs := #[.int .i64 a2_0, .int .i64 a2_1]) (t := 26) ?hr ?_; (case hd => rfl); (case hg => rfl); (case hr => first | (go_simp; done) | (go_simp; rfl)); intro gb110 hg w6 hbox hb; have n0_ := Aside0.mk (blk_below (g := gb109) (o := .cells #[.int .i64 a1_0, .int .i64 a1_1] 44 (0, 0)) (by (with_reducible repeat (first | refine blk_drewN ?_ _ | refine blk_drew ?_ | refine blk_alloc ?_ _)); exact BK109.out) hb); have n1_ := Aside0.mk (below_step (by repeat (first | (with_reducible first | exact HB.out | apply below_alloc | apply pw_below_drewN | apply below_drew1 | refine below_set ?_ GE109.out) | exact HB.out)) hb); have n2_ := Aside0.mk (hbox); have n3_ := Aside0.mk ((by rw [hg]; exact (below_size (by repeat (first | (with_reducible first | exact HB.out | apply below_alloc | apply pw_below_drewN | apply below_drew1 | refine below_set ?_ GE109.out) | exact HB.out))) : w.heap.size ≤ gb110)); have n4_ := Aside0.mk ((by rw [hg]; exact (below_size (by repeat (first | (with_reducible first | exact HB.out | apply below_alloc | apply pw_below_drewN | apply below_drew1 | refine below_set ?_ GE109.out) | exact HB.out))) : w.heap.size ≤ gb110)); have n5_ := Aside0.mk ((by rw [hg]; exact Nat.ne_of_lt (blk_lt (g := gb109) (o := .cells #[.int .i64 a1_0, .int .i64 a1_1] 44 (0, 0)) (by (with_reducible repeat (first | refine blk_drewN ?_ _ | refine blk_drew ?_ | refine blk_alloc ?_ _)); exact BK109.out)) : gb109 ≠ gb110)); have n6_ := Aside0.mk ((by rw [hg]; exact Nat.ne_of_gt (blk_lt (g := gb109) (o := .cells #[.int .i64 a1_0, .int .i64 a1_1] 44 (0, 0)) (by (with_reducible repeat (first | refine blk_drewN ?_ _ | refine blk_drew ?_ | refine blk_alloc ?_ _)); exact BK109.out)) : gb110 ≠ gb109)); clear BK109; clear HB; have BK109 := n0_; have HB := n1_; have BK110 := n2_; have GW110 := n3_; have GE110 := n4_; have NB109_110 := n5_; have NB110_109 := n6_; clear n0_ n1_ n2_ n3_ n4_ n5_ n6_; clear hb hbox hg) | ((with_reducible refine gate_dst (N := 6) rfl ?_); (try (refine gate_guard (by rfl) ?_; dsimp only)); refine box_event ?hg (N := 6) ?hd (cs := #[.int .i64 0, .int .i64 0]) (t := 44) ?hr ?_; (case hd => rfl); (case hg => rfl); (case hr => first | (go_simp; done) | (go_simp; rfl)); intro gb111 hg w7 hbox hb; have n0_ := Aside0.mk (blk_below (g := gb109) (o := .cells #[.int .i64 a1_0, .int .i64 a1_1] 44 (0, 0)) (by (with_reducible repeat (first | refine blk_drewN ?_ _ | refine blk_drew ?_ | refine blk_alloc ?_ _)); exact BK109.out) hb); have n1_ := Aside0.mk (blk_below (g := gb110) (o := .cells #[.int .i64 a2_0, .int .i64 a2_1] 26 (0, 0)) (by (with_reducible repeat (first | refine blk_drewN ?_ _ | refine blk_drew ?_ | refine blk_alloc ?_ _)); exact BK110.out) hb); have n2_ := Aside0.mk (below_step (by repeat (first | (with_reducible first | exact HB.out | apply below_alloc | apply pw_below_drewN | apply below_drew1 | refine below_set ?_ GE109.out | refine below_set ?_ GE110.out) | exact HB.out)) hb); have n3_ := Aside0.mk (hbox); have n4_ := Aside0.mk ((by rw [hg]; exact (below_size (by repeat (first | (with_reducible first | exact HB.out | apply below_alloc | apply pw_below_drewN | apply below_drew1 | refine below_set ?_ GE109.out | refine below_set ?_ GE110.out) | exact HB.out))) : w.heap.size ≤ gb111)); have n5_ := Aside0.mk ((by rw [hg]; exact (below_size (by repeat (first | (with_reducible first | exact HB.out | apply below_alloc | apply pw_below_drewN | apply below_drew1 | refine below_set ?_ GE109.out | refine below_set ?_ GE110.out) | exact HB.out))) : w.heap.size ≤ gb111)); have n6_ := Aside0.mk ((by rw [hg]; exact Nat.ne_of_lt (blk_lt (g := gb109) (o := .cells #[.int .i64 a1_0, .int .i64 a1_1] 44 (0, 0)) (by (with_reducible repeat (first | refine blk_drewN ?_ _ | refine blk_drew ?_ | refine blk_alloc ?_ _)); exact BK109.out)) : gb109 ≠ gb111)); have n7_ := Aside0.mk ((by rw [hg]; exact Nat.ne_of_gt (blk_lt (g := gb109) (o := .cells #[.int .i64 a1_0, .int .i64 a1_1] 44 (0, 0)) (by (with_reducible repeat (first | refine blk_drewN ?_ _ | refine blk_drew ?_ | refine blk_alloc ?_ _)); exact BK109.out)) : gb111 ≠ gb109)); have n8_ := Aside0.mk ((by rw [hg]; exact Nat.ne_of_lt (blk_lt (g := gb110) (o := .cells #[.int .i64 a2_0, .int .i64 a2_1] 26 (0, 0)) (by (with_reducible repeat (first | refine blk_drewN ?_ _ | refine blk_drew ?_ | refine blk_alloc ?_ _)); exact BK110.out)) : gb110 ≠ gb111)); have n9_ := Aside0.mk ((by rw [hg]; exact Nat.ne_of_gt (blk_lt (g := gb110) (o := .cells #[.int .i64 a2_0, .int .i64 a2_1] 26 (0, 0)) (by (with_reducible repeat (first | refine blk_drewN ?_ _ | refine blk_drew ?_ | refine blk_alloc ?_ _)); exact BK110.out)) : gb111 ≠ gb110)); clear BK109; clear BK110; clear HB; have BK109 := n0_; have BK110 := n1_; have HB := n2_; have BK111 := n3_; have GW111 := n4_; have GE111 := n5_; have NB109_111 := n6_; have NB111_109 := n7_; have NB110_111 := n8_; have NB111_110 := n9_; clear n0_ n1_ n2_ n3_ n4_ n5_ n6_ n7_ n8_ n9_; clear hb hbox hg) | ((with_reducible refine gate_dst (N := 7) rfl ?_); (try (refine gate_guard (by rfl) ?_; dsimp only)); refine box_event ?hg (N := 7) ?hd (cs := #[.int .i64 0, .int .i64 0, .string (⟨#[]⟩ : ByteArray)]) (t := 46) ?hr ?_; (case hd => rfl); (case hg => rfl); (case hr => first | (go_simp; done) | (go_simp; rfl)); intro gb112 hg w8 hbox hb; have n0_ := Aside0.mk (blk_below (g := gb109) (o := .cells #[.int .i64 a1_0, .int .i64 a1_1] 44 (0, 0)) (by (with_reducible repeat (first | refine blk_drewN ?_ _ | refine blk_drew ?_ | refine blk_alloc ?_ _)); exact BK109.out) hb); have n1_ := Aside0.mk (blk_below (g := gb110) (o := .cells #[.int .i64 a2_0, .int .i64 a2_1] 26 (0, 0)) (by (with_reducible repeat (first | refine blk_drewN ?_ _ | refine blk_drew ?_ | refine blk_alloc ?_ _)); exact BK110.out) hb); have n2_ := Aside0.mk (blk_below (g := gb111) (o := .cells #[.int .i64 0, .int .i64 0] 44 (0, 0)) (by (with_reducible repeat (first | refine blk_drewN ?_ _ | refine blk_drew ?_ | refine blk_alloc ?_ _)); exact BK111.out) hb); have n3_ := Aside0.mk (below_step (by repeat (first | (with_reducible first | exact HB.out | apply below_alloc | apply pw_below_drewN | apply below_drew1 | refine below_set ?_ GE109.out | refine below_set ?_ GE110.out | refine below_set ?_ GE111.out) | exact HB.out)) hb); have n4_ := Aside0.mk (hbox); have n5_ := Aside0.mk ((by rw [hg]; exact (below_size (by repeat (first | (with_reducible first | exact HB.out | apply below_alloc | apply pw_below_drewN | apply below_drew1 | refine below_set ?_ GE109.out | refine below_set ?_ GE110.out | refine below_set ?_ GE111.out) | exact HB.out))) : w.heap.size ≤ gb112)); have n6_ := Aside0.mk ((by rw [hg]; exact (below_size (by repeat (first | (with_reducible first | exact HB.out | apply below_alloc | apply pw_below_drewN | apply below_drew1 | refine below_set ?_ GE109.out | refine below_set ?_ GE110.out | refine below_set ?_ GE111.out) | exact HB.out))) : w.heap.size ≤ gb112)); have n7_ := Aside0.mk ((by rw [hg]; exact Nat.ne_of_lt (blk_lt (g := gb109) (o := .cells #[.int .i64 a1_0, .int .i64 a1_1] 44 (0, 0)) (by (with_reducible repeat (first | refine blk_drewN ?_ _ | refine blk_drew ?_ | refine blk_alloc ?_ _)); exact BK109.out)) : gb109 ≠ gb112)); have n8_ := Aside0.mk ((by rw [hg]; exact Nat.ne_of_gt (blk_lt (g := gb109) (o := .cells #[.int .i64 a1_0, .int .i64 a1_1] 44 (0, 0)) (by (with_reducible repeat (first | refine blk_drewN ?_ _ | refine blk_drew ?_ | refine blk_alloc ?_ _)); exact BK109.out)) : gb112 ≠ gb109)); have n9_ := Aside0.mk ((by rw [hg]; exact Nat.ne_of_lt (blk_lt (g := gb110) (o := .cells #[.int .i64 a2_0, .int .i64 a2_1] 26 (0, 0)) (by (with_reducible repeat (first | refine blk_drewN ?_ _ | refine blk_drew ?_ | refine blk_alloc ?_ _)); exact BK110.out)) : gb110 ≠ gb112)); have n10_ := Aside0.mk ((by rw [hg]; exact Nat.ne_of_gt (blk_lt (g := gb110) (o := .cells #[.int .i64 a2_0, .int .i64 a2_1] 26 (0, 0)) (by (with_reducible repeat (first | refine blk_drewN ?_ _ | refine blk_drew ?_ | refine blk_alloc ?_ _)); exact BK110.out)) : gb112 ≠ gb110)); have n11_ := Aside0.mk ((by rw [hg]; exact Nat.ne_of_lt (blk_lt (g := gb111) (o := .cells #[.int .i64 0, .int .i64 0] 44 (0, 0)) (by (with_reducible repeat (first | refine blk_drewN ?_ _ | refine blk_drew ?_ | refine blk_alloc ?_ _)); exact BK111.out)) : gb111 ≠ gb112)); have n12_ := Aside0.mk ((by rw [hg]; exact Nat.ne_of_gt (blk_lt (g := gb111) (o := .cells #[.int .i64 0, .int .i64 0] 44 (0, 0)) (by (with_reducible repeat (first | refine blk_drewN ?_ _ | refine blk_drew ?_ | refine blk_alloc ?_ _)); exact BK111.out)) : gb112 ≠ gb111)); clear BK109; clear BK110; clear BK111; clear HB; have BK109 := n0_; have BK110 := n1_; have BK111 := n2_; have HB := n3_; have BK112 := n4_; have GW112 := n5_; have GE112 := n6_; have NB109_112 := n7_; have NB112_109 := n8_; have NB110_112 := n9_; have NB112_110 := n10_; have NB111_112 := n11_; have NB112_111 := n12_; clear n0_ n1_ n2_ n3_ n4_ n5_ n6_ n7_ n8_ n9_ n10_ n11_ n12_; clear hb hbox hg) | ((with_reducible refine gate_dst (N := 9) rfl ?_); (try (refine gate_guard (by rfl) ?_; dsimp only)); refine box_event ?hg (N := 9) ?hd (cs := #[.int .i64 0, .int .i64 0, .string (⟨#[]⟩ : ByteArray)]) (t := 46) ?hr ?_; (case hd => rfl); (case hg => rfl); (case hr => first | (go_simp; done) | (go_simp; rfl)); intro gb113 hg w9 hbox hb; have n0_ := Aside0.mk (blk_below (g := gb109) (o := .cells #[.int .i64 a1_0, .int .i64 a1_1] 44 (0, 0)) (by (with_reducible repeat (first | refine blk_drewN ?_ _ | refine blk_drew ?_ | refine blk_alloc ?_ _)); exact BK109.out) hb); have n1_ := Aside0.mk (blk_below (g := gb110) (o := .cells #[.int .i64 a2_0, .int .i64 a2_1] 26 (0, 0)) (by (with_reducible repeat (first | refine blk_drewN ?_ _ | refine blk_drew ?_ | refine blk_alloc ?_ _)); exact BK110.out) hb); have n2_ := Aside0.mk (blk_below (g := gb111) (o := .cells #[.int .i64 0, .int .i64 0] 44 (0, 0)) (by (with_reducible repeat (first | refine blk_drewN ?_ _ | refine blk_drew ?_ | refine blk_alloc ?_ _)); exact BK111.out) hb); have n3_ := Aside0.mk (blk_below (g := gb112) (o := .cells #[.int .i64 0, .int .i64 0, .string (⟨#[]⟩ : ByteArray)] 46 (0, 0)) (by (with_reducible repeat (first | refine blk_drewN ?_ _ | refine blk_drew ?_ | refine blk_alloc ?_ _)); exact BK112.out) hb); have n4_ := Aside0.mk (below_step (by repeat (first | (with_reducible first | exact HB.out | apply below_alloc | apply pw_below_drewN | apply below_drew1 | refine below_set ?_ GE109.out | refine below_set ?_ GE110.out | refine below_set ?_ GE111.out | refine below_set ?_ GE112.out) | exact HB.out)) hb); have n5_ := Aside0.mk (hbox); have n6_ := Aside0.mk ((by rw [hg]; exact (below_size (by repeat (first | (with_reducible first | exact HB.out | apply below_alloc | apply pw_below_drewN | apply below_drew1 | refine below_set ?_ GE109.out | refine below_set ?_ GE110.out | refine below_set ?_ GE111.out | refine below_set ?_ GE112.out) | exact HB.out))) : w.heap.size ≤ gb113)); have n7_ := Aside0.mk ((by rw [hg]; exact (below_size (by repeat (first | (with_reducible first | exact HB.out | apply below_alloc | apply pw_below_drewN | apply below_drew1 | refine below_set ?_ GE109.out | refine below_set ?_ GE110.out | refine below_set ?_ GE111.out | refine below_set ?_ GE112.out) | exact HB.out))) : w.heap.size ≤ gb113)); have n8_ := Aside0.mk ((by rw [hg]; exact Nat.ne_of_lt (blk_lt (g := gb109) (o := .cells #[.int .i64 a1_0, .int .i64 a1_1] 44 (0, 0)) (by (with_reducible repeat (first | refine blk_drewN ?_ _ | refine blk_drew ?_ | refine blk_alloc ?_ _)); exact BK109.out)) : gb109 ≠ gb113)); have n9_ := Aside0.mk ((by rw [hg]; exact Nat.ne_of_gt (blk_lt (g := gb109) (o := .cells #[.int .i64 a1_0, .int .i64 a1_1] 44 (0, 0)) (by (with_reducible repeat (first | refine blk_drewN ?_ _ | refine blk_drew ?_ | refine blk_alloc ?_ _)); exact BK109.out)) : gb113 ≠ gb109)); have n10_ := Aside0.mk ((by rw [hg]; exact Nat.ne_of_lt (blk_lt (g := gb110) (o := .cells #[.int .i64 a2_0, .int .i64 a2_1] 26 (0, 0)) (by (with_reducible repeat (first | refine blk_drewN ?_ _ | refine blk_drew ?_ | refine blk_alloc ?_ _)); exact BK110.out)) : gb110 ≠ gb113)); have n11_ := Aside0.mk ((by rw [hg]; exact Nat.ne_of_gt (blk_lt (g := gb110) (o := .cells #[.int .i64 a2_0, .int .i64 a2_1] 26 (0, 0)) (by (with_reducible repeat (first | refine blk_drewN ?_ _ | refine blk_drew ?_ | refine blk_alloc ?_ _)); exact BK110.out)) : gb113 ≠ gb110)); have n12_ := Aside0.mk ((by rw [hg]; exact Nat.ne_of_lt (blk_lt (g := gb111) (o := .cells #[.int .i64 0, .int .i64 0] 44 (0, 0)) (by (with_reducible repeat (first | refine blk_drewN ?_ _ | refine blk_drew ?_ | refine blk_alloc ?_ _)); exact BK111.out)) : gb111 ≠ gb113)); have n13_ := Aside0.mk ((by rw [hg]; exact Nat.ne_of_gt (blk_lt (g := gb111) (o := .cells #[.int .i64 0, .int .i64 0] 44 (0, 0)) (by (with_reducible repeat (first | refine blk_drewN ?_ _ | refine blk_drew ?_ | refine blk_alloc ?_ _)); exact BK111.out)) : gb113 ≠ gb111)); have n14_ := Aside0.mk ((by rw [hg]; exact Nat.ne_of_lt (blk_lt (g := gb112) (o := .cells #[.int .i64 0, .int .i64 0, .string (⟨#[]⟩ : ByteArray)] 46 (0, 0)) (by (with_reducible repeat (first | refine blk_drewN ?_ _ | refine blk_drew ?_ | refine blk_alloc ?_ _)); exact BK112.out)) : gb112 ≠ gb113)); have n15_ := Aside0.mk ((by rw [hg]; exact Nat.ne_of_gt (blk_lt (g := gb112) (o := .cells #[.int .i64 0, .int .i64 0, .string (⟨#[]⟩ : ByteArray)] 46 (0, 0)) (by (with_reducible repeat (first | refine blk_drewN ?_ _ | refine blk_drew ?_ | refine blk_alloc ?_ _)); exact BK112.out)) : gb113 ≠ gb112)); clear BK109; clear BK110; clear BK111; clear BK112; clear HB; have BK109 := n0_; have BK110 := n1_; have BK111 := n2_; have BK112 := n3_; have HB := n4_; have BK113 := n5_; have GW113 := n6_; have GE113 := n7_; have NB109_113 := n8_; have NB113_109 := n9_; have NB110_113 := n10_; have NB113_110 := n11_; have NB111_113 := n12_; have NB113_111 := n13_; have NB112_113 := n14_; have NB113_112 := n15_; clear n0_ n1_ n2_ n3_ n4_ n5_ n6_ n7_ n8_ n9_ n10_ n11_ n12_ n13_ n14_ n15_; clear hb hbox hg; have hnb10 := NB113_109.out; have hnc10 := NB109_113.out; have hnb11 := NB113_110.out; have hnc11 := NB110_113.out; have hnb12 := NB113_111.out; have hnc12 := NB111_113.out; have hnb13 := NB113_112.out; have hnc13 := NB112_113.out; have hcz14_0 : w9.cell? ⟨gb113, 0, none⟩ = some (.int .i64 0) := (blk_cell BK113.out 0).trans rfl; have hcz14_1 : w9.cell? ⟨gb113, 1, none⟩ = some (.int .i64 0) := (blk_cell BK113.out 1).trans rfl; have hcz14_2 : w9.cell? ⟨gb113, 2, none⟩ = some (.string (⟨#[]⟩ : ByteArray)) := (blk_cell BK113.out 2).trans rfl; have hfz14_0 := blk_frozen BK113.out 0; have hfz14_1 := blk_frozen BK113.out 1; have hfz14_2 := blk_frozen BK113.out 2; have hnb15 := NB109_110.out; have hnc15 := NB110_109.out; have hnb16 := NB109_111.out; have hnc16 := NB111_109.out; have hnb17 := NB109_112.out; have hnc17 := NB112_109.out; have hcz18_0 : w9.cell? ⟨gb109, 0, none⟩ = some (.int .i64 a1_0) := (blk_cell BK109.out 0).trans rfl; have hcz18_1 : w9.cell? ⟨gb109, 1, none⟩ = some (.int .i64 a1_1) := (blk_cell BK109.out 1).trans rfl; have hfz18_0 := blk_frozen BK109.out 0; have hfz18_1 := blk_frozen BK109.out 1; have hnb19 := NB110_111.out; have hnc19 := NB111_110.out; have hnb20 := NB110_112.out; have hnc20 := NB112_110.out; have hcz21_0 : w9.cell? ⟨gb110, 0, none⟩ = some (.int .i64 a2_0) := (blk_cell BK110.out 0).trans rfl; have hcz21_1 : w9.cell? ⟨gb110, 1, none⟩ = some (.int .i64 a2_1) := (blk_cell BK110.out 1).trans rfl; have hfz21_0 := blk_frozen BK110.out 0; have hfz21_1 := blk_frozen BK110.out 1))
  (try simp only [Act.put, List.setIfInBounds_toArray, List.set_cons_zero, List.set_cons_succ])
  go_cut [11] (fun v11 wc => ∃ (kq : Nat) (x11_3 : Bool), v11 = .bool x11_3 ∧ Aside0 (spec_Next.j0 kq l0 (wrap64 (a1_1 + a2_1)) x11_3 a1_0 a1_1 a2_0 a2_1 0 0 (⟨#[]⟩ : ByteArray) = some (r1, r2, r3, r4, r5, r6)) ∧ Aside0 (kq ≤ k) ∧ Aside0 (wc.heap[gb109]? = some (.cells #[.int .i64 a1_0, .int .i64 a1_1] 44 (0, 0))) ∧ Aside0 (wc.heap[gb110]? = some (.cells #[.int .i64 a2_0, .int .i64 a2_1] 26 (0, 0))) ∧ Aside0 (wc.heap[gb111]? = some (.cells #[.int .i64 0, .int .i64 0] 44 (0, 0))) ∧ Aside0 (wc.heap[gb112]? = some (.cells #[.int .i64 0, .int .i64 0, .string (⟨#[]⟩ : ByteArray)] 46 (0, 0))) ∧ Aside0 (wc.heap[gb113]? = some (.cells #[.int .i64 0, .int .i64 0, .string (⟨#[]⟩ : ByteArray)] 46 (0, 0))) ∧ Aside0 (Below w.heap.size w wc))
  case first =>
    have H := HC4.out
    clear HC4
    by_cases c22 : a2_1 ≥ (wrap64 (-(l0.length : Int)))
    · rw [if_pos c22] at H
      have c22b0 : decide ((wrap64 (-(l0.length : Int))) ≤ a2_1) = true := decide_eq_true c22
      clear c22
      (first | rw [c22b0] | (simp only [i64_w, i32_w]; rw [c22b0]) | skip)
      by_cases c23 : a2_1 ≤ (l0.length : Int)
      · rw [if_pos c23] at H
        have c23b0 : decide (a2_1 ≤ (l0.length : Int)) = true := decide_eq_true c23
        clear c23
        by_cases c24 : (wrap64 (a1_1 + a2_1)) ≥ a1_0
        · rw [if_pos c24] at H
          have c24b0 : decide (a1_0 ≤ (wrap64 (a1_1 + a2_1))) = true := decide_eq_true c24
          clear c24
          have H' := Aside0.mk H
          clear H
          have hnb25 := NB110_109.out
          have hnc25 := NB109_110.out
          have hnb26 := NB110_111.out
          have hnc26 := NB111_110.out
          have hnb27 := NB110_112.out
          have hnc27 := NB112_110.out
          have hnb28 := NB110_113.out
          have hnc28 := NB113_110.out
          have hcz29_0 : w9.cell? ⟨gb110, 0, none⟩ = some (.int .i64 a2_0) := (blk_cell BK110.out 0).trans rfl
          have hcz29_1 : w9.cell? ⟨gb110, 1, none⟩ = some (.int .i64 a2_1) := (blk_cell BK110.out 1).trans rfl
          have hfz29_0 := blk_frozen BK110.out 0
          have hfz29_1 := blk_frozen BK110.out 1
          have hnb30 := NB109_111.out
          have hnc30 := NB111_109.out
          have hnb31 := NB109_112.out
          have hnc31 := NB112_109.out
          have hnb32 := NB109_113.out
          have hnc32 := NB113_109.out
          have hcz33_0 : w9.cell? ⟨gb109, 0, none⟩ = some (.int .i64 a1_0) := (blk_cell BK109.out 0).trans rfl
          have hcz33_1 : w9.cell? ⟨gb109, 1, none⟩ = some (.int .i64 a1_1) := (blk_cell BK109.out 1).trans rfl
          have hfz33_0 := blk_frozen BK109.out 0
          have hfz33_1 := blk_frozen BK109.out 1
          go_wp2
          go_meet
          case rel => exact ⟨_, (decide ((wrap64 (a1_1 + a2_1)) ≤ (l0.length : Int))), (by first | rfl | (simp; done) | (simp [*]; done)), H', ⟨by first | omega | exact Nat.le_refl _⟩, ⟨by (with_reducible repeat (first | refine blk_drewN ?_ _ | refine blk_drew ?_ | refine blk_alloc ?_ _)); refine blk_far ?_ NB109_113.out _; (with_reducible repeat (first | refine blk_drewN ?_ _ | refine blk_drew ?_ | refine blk_alloc ?_ _)); refine blk_far ?_ NB109_113.out _; (with_reducible repeat (first | refine blk_drewN ?_ _ | refine blk_drew ?_ | refine blk_alloc ?_ _)); refine blk_far ?_ NB109_113.out _; (with_reducible repeat (first | refine blk_drewN ?_ _ | refine blk_drew ?_ | refine blk_alloc ?_ _)); exact BK109.out⟩, ⟨by (with_reducible repeat (first | refine blk_drewN ?_ _ | refine blk_drew ?_ | refine blk_alloc ?_ _)); refine blk_far ?_ NB110_113.out _; (with_reducible repeat (first | refine blk_drewN ?_ _ | refine blk_drew ?_ | refine blk_alloc ?_ _)); refine blk_far ?_ NB110_113.out _; (with_reducible repeat (first | refine blk_drewN ?_ _ | refine blk_drew ?_ | refine blk_alloc ?_ _)); refine blk_far ?_ NB110_113.out _; (with_reducible repeat (first | refine blk_drewN ?_ _ | refine blk_drew ?_ | refine blk_alloc ?_ _)); exact BK110.out⟩, ⟨by (with_reducible repeat (first | refine blk_drewN ?_ _ | refine blk_drew ?_ | refine blk_alloc ?_ _)); refine blk_far ?_ NB111_113.out _; (with_reducible repeat (first | refine blk_drewN ?_ _ | refine blk_drew ?_ | refine blk_alloc ?_ _)); refine blk_far ?_ NB111_113.out _; (with_reducible repeat (first | refine blk_drewN ?_ _ | refine blk_drew ?_ | refine blk_alloc ?_ _)); refine blk_far ?_ NB111_113.out _; (with_reducible repeat (first | refine blk_drewN ?_ _ | refine blk_drew ?_ | refine blk_alloc ?_ _)); exact BK111.out⟩, ⟨by (with_reducible repeat (first | refine blk_drewN ?_ _ | refine blk_drew ?_ | refine blk_alloc ?_ _)); refine blk_far ?_ NB112_113.out _; (with_reducible repeat (first | refine blk_drewN ?_ _ | refine blk_drew ?_ | refine blk_alloc ?_ _)); refine blk_far ?_ NB112_113.out _; (with_reducible repeat (first | refine blk_drewN ?_ _ | refine blk_drew ?_ | refine blk_alloc ?_ _)); refine blk_far ?_ NB112_113.out _; (with_reducible repeat (first | refine blk_drewN ?_ _ | refine blk_drew ?_ | refine blk_alloc ?_ _)); exact BK112.out⟩, ⟨by (with_reducible repeat (first | refine blk_drewN ?_ _ | refine blk_drew ?_ | refine blk_alloc ?_ _)); refine blk_put (cs := #[.int .i64 0, .int .i64 0, .string (⟨#[]⟩ : ByteArray)]) ?_ 2 _ rfl; (with_reducible repeat (first | refine blk_drewN ?_ _ | refine blk_drew ?_ | refine blk_alloc ?_ _)); refine blk_put (cs := #[.int .i64 0, .int .i64 0, .string (⟨#[]⟩ : ByteArray)]) ?_ 1 _ rfl; (with_reducible repeat (first | refine blk_drewN ?_ _ | refine blk_drew ?_ | refine blk_alloc ?_ _)); refine blk_put (cs := #[.int .i64 0, .int .i64 0, .string (⟨#[]⟩ : ByteArray)]) ?_ 0 _ rfl; (with_reducible repeat (first | refine blk_drewN ?_ _ | refine blk_drew ?_ | refine blk_alloc ?_ _)); exact BK113.out⟩, ⟨by repeat (first | (with_reducible first | exact HB.out | apply below_alloc | apply pw_below_drewN | apply below_drew1 | refine below_set ?_ GE109.out | refine below_set ?_ GE110.out | refine below_set ?_ GE111.out | refine below_set ?_ GE112.out | refine below_set ?_ GE113.out) | exact HB.out)⟩⟩
        · rw [if_neg c24] at H
          have c24b0 : decide (a1_0 ≤ (wrap64 (a1_1 + a2_1))) = false := decide_eq_false c24
          clear c24
          have H' := Aside0.mk H
          clear H
          have hnb34 := NB110_109.out
          have hnc34 := NB109_110.out
          have hnb35 := NB110_111.out
          have hnc35 := NB111_110.out
          have hnb36 := NB110_112.out
          have hnc36 := NB112_110.out
          have hnb37 := NB110_113.out
          have hnc37 := NB113_110.out
          have hcz38_0 : w9.cell? ⟨gb110, 0, none⟩ = some (.int .i64 a2_0) := (blk_cell BK110.out 0).trans rfl
          have hcz38_1 : w9.cell? ⟨gb110, 1, none⟩ = some (.int .i64 a2_1) := (blk_cell BK110.out 1).trans rfl
          have hfz38_0 := blk_frozen BK110.out 0
          have hfz38_1 := blk_frozen BK110.out 1
          have hnb39 := NB109_111.out
          have hnc39 := NB111_109.out
          have hnb40 := NB109_112.out
          have hnc40 := NB112_109.out
          have hnb41 := NB109_113.out
          have hnc41 := NB113_109.out
          have hcz42_0 : w9.cell? ⟨gb109, 0, none⟩ = some (.int .i64 a1_0) := (blk_cell BK109.out 0).trans rfl
          have hcz42_1 : w9.cell? ⟨gb109, 1, none⟩ = some (.int .i64 a1_1) := (blk_cell BK109.out 1).trans rfl
          have hfz42_0 := blk_frozen BK109.out 0
          have hfz42_1 := blk_frozen BK109.out 1
          go_wp2
          go_meet
          case rel => exact ⟨_, (false), (by first | rfl | (simp; done) | (simp [*]; done)), H', ⟨by first | omega | exact Nat.le_refl _⟩, ⟨by (with_reducible repeat (first | refine blk_drewN ?_ _ | refine blk_drew ?_ | refine blk_alloc ?_ _)); refine blk_far ?_ NB109_113.out _; (with_reducible repeat (first | refine blk_drewN ?_ _ | refine blk_drew ?_ | refine blk_alloc ?_ _)); refine blk_far ?_ NB109_113.out _; (with_reducible repeat (first | refine blk_drewN ?_ _ | refine blk_drew ?_ | refine blk_alloc ?_ _)); refine blk_far ?_ NB109_113.out _; (with_reducible repeat (first | refine blk_drewN ?_ _ | refine blk_drew ?_ | refine blk_alloc ?_ _)); exact BK109.out⟩, ⟨by (with_reducible repeat (first | refine blk_drewN ?_ _ | refine blk_drew ?_ | refine blk_alloc ?_ _)); refine blk_far ?_ NB110_113.out _; (with_reducible repeat (first | refine blk_drewN ?_ _ | refine blk_drew ?_ | refine blk_alloc ?_ _)); refine blk_far ?_ NB110_113.out _; (with_reducible repeat (first | refine blk_drewN ?_ _ | refine blk_drew ?_ | refine blk_alloc ?_ _)); refine blk_far ?_ NB110_113.out _; (with_reducible repeat (first | refine blk_drewN ?_ _ | refine blk_drew ?_ | refine blk_alloc ?_ _)); exact BK110.out⟩, ⟨by (with_reducible repeat (first | refine blk_drewN ?_ _ | refine blk_drew ?_ | refine blk_alloc ?_ _)); refine blk_far ?_ NB111_113.out _; (with_reducible repeat (first | refine blk_drewN ?_ _ | refine blk_drew ?_ | refine blk_alloc ?_ _)); refine blk_far ?_ NB111_113.out _; (with_reducible repeat (first | refine blk_drewN ?_ _ | refine blk_drew ?_ | refine blk_alloc ?_ _)); refine blk_far ?_ NB111_113.out _; (with_reducible repeat (first | refine blk_drewN ?_ _ | refine blk_drew ?_ | refine blk_alloc ?_ _)); exact BK111.out⟩, ⟨by (with_reducible repeat (first | refine blk_drewN ?_ _ | refine blk_drew ?_ | refine blk_alloc ?_ _)); refine blk_far ?_ NB112_113.out _; (with_reducible repeat (first | refine blk_drewN ?_ _ | refine blk_drew ?_ | refine blk_alloc ?_ _)); refine blk_far ?_ NB112_113.out _; (with_reducible repeat (first | refine blk_drewN ?_ _ | refine blk_drew ?_ | refine blk_alloc ?_ _)); refine blk_far ?_ NB112_113.out _; (with_reducible repeat (first | refine blk_drewN ?_ _ | refine blk_drew ?_ | refine blk_alloc ?_ _)); exact BK112.out⟩, ⟨by (with_reducible repeat (first | refine blk_drewN ?_ _ | refine blk_drew ?_ | refine blk_alloc ?_ _)); refine blk_put (cs := #[.int .i64 0, .int .i64 0, .string (⟨#[]⟩ : ByteArray)]) ?_ 2 _ rfl; (with_reducible repeat (first | refine blk_drewN ?_ _ | refine blk_drew ?_ | refine blk_alloc ?_ _)); refine blk_put (cs := #[.int .i64 0, .int .i64 0, .string (⟨#[]⟩ : ByteArray)]) ?_ 1 _ rfl; (with_reducible repeat (first | refine blk_drewN ?_ _ | refine blk_drew ?_ | refine blk_alloc ?_ _)); refine blk_put (cs := #[.int .i64 0, .int .i64 0, .string (⟨#[]⟩ : ByteArray)]) ?_ 0 _ rfl; (with_reducible repeat (first | refine blk_drewN ?_ _ | refine blk_drew ?_ | refine blk_alloc ?_ _)); exact BK113.out⟩, ⟨by repeat (first | (with_reducible first | exact HB.out | apply below_alloc | apply pw_below_drewN | apply below_drew1 | refine below_set ?_ GE109.out | refine below_set ?_ GE110.out | refine below_set ?_ GE111.out | refine below_set ?_ GE112.out | refine below_set ?_ GE113.out) | exact HB.out)⟩⟩
      · rw [if_neg c23] at H
        have c23b0 : decide (a2_1 ≤ (l0.length : Int)) = false := decide_eq_false c23
        clear c23
        have H' := Aside0.mk H
        clear H
        have hnb43 := NB110_109.out
        have hnc43 := NB109_110.out
        have hnb44 := NB110_111.out
        have hnc44 := NB111_110.out
        have hnb45 := NB110_112.out
        have hnc45 := NB112_110.out
        have hnb46 := NB110_113.out
        have hnc46 := NB113_110.out
        have hcz47_0 : w9.cell? ⟨gb110, 0, none⟩ = some (.int .i64 a2_0) := (blk_cell BK110.out 0).trans rfl
        have hcz47_1 : w9.cell? ⟨gb110, 1, none⟩ = some (.int .i64 a2_1) := (blk_cell BK110.out 1).trans rfl
        have hfz47_0 := blk_frozen BK110.out 0
        have hfz47_1 := blk_frozen BK110.out 1
        go_wp2
        go_meet
        case rel => exact ⟨_, (false), (by first | rfl | (simp; done) | (simp [*]; done)), H', ⟨by first | omega | exact Nat.le_refl _⟩, ⟨by (with_reducible repeat (first | refine blk_drewN ?_ _ | refine blk_drew ?_ | refine blk_alloc ?_ _)); refine blk_far ?_ NB109_113.out _; (with_reducible repeat (first | refine blk_drewN ?_ _ | refine blk_drew ?_ | refine blk_alloc ?_ _)); refine blk_far ?_ NB109_113.out _; (with_reducible repeat (first | refine blk_drewN ?_ _ | refine blk_drew ?_ | refine blk_alloc ?_ _)); refine blk_far ?_ NB109_113.out _; (with_reducible repeat (first | refine blk_drewN ?_ _ | refine blk_drew ?_ | refine blk_alloc ?_ _)); exact BK109.out⟩, ⟨by (with_reducible repeat (first | refine blk_drewN ?_ _ | refine blk_drew ?_ | refine blk_alloc ?_ _)); refine blk_far ?_ NB110_113.out _; (with_reducible repeat (first | refine blk_drewN ?_ _ | refine blk_drew ?_ | refine blk_alloc ?_ _)); refine blk_far ?_ NB110_113.out _; (with_reducible repeat (first | refine blk_drewN ?_ _ | refine blk_drew ?_ | refine blk_alloc ?_ _)); refine blk_far ?_ NB110_113.out _; (with_reducible repeat (first | refine blk_drewN ?_ _ | refine blk_drew ?_ | refine blk_alloc ?_ _)); exact BK110.out⟩, ⟨by (with_reducible repeat (first | refine blk_drewN ?_ _ | refine blk_drew ?_ | refine blk_alloc ?_ _)); refine blk_far ?_ NB111_113.out _; (with_reducible repeat (first | refine blk_drewN ?_ _ | refine blk_drew ?_ | refine blk_alloc ?_ _)); refine blk_far ?_ NB111_113.out _; (with_reducible repeat (first | refine blk_drewN ?_ _ | refine blk_drew ?_ | refine blk_alloc ?_ _)); refine blk_far ?_ NB111_113.out _; (with_reducible repeat (first | refine blk_drewN ?_ _ | refine blk_drew ?_ | refine blk_alloc ?_ _)); exact BK111.out⟩, ⟨by (with_reducible repeat (first | refine blk_drewN ?_ _ | refine blk_drew ?_ | refine blk_alloc ?_ _)); refine blk_far ?_ NB112_113.out _; (with_reducible repeat (first | refine blk_drewN ?_ _ | refine blk_drew ?_ | refine blk_alloc ?_ _)); refine blk_far ?_ NB112_113.out _; (with_reducible repeat (first | refine blk_drewN ?_ _ | refine blk_drew ?_ | refine blk_alloc ?_ _)); refine blk_far ?_ NB112_113.out _; (with_reducible repeat (first | refine blk_drewN ?_ _ | refine blk_drew ?_ | refine blk_alloc ?_ _)); exact BK112.out⟩, ⟨by (with_reducible repeat (first | refine blk_drewN ?_ _ | refine blk_drew ?_ | refine blk_alloc ?_ _)); refine blk_put (cs := #[.int .i64 0, .int .i64 0, .string (⟨#[]⟩ : ByteArray)]) ?_ 2 _ rfl; (with_reducible repeat (first | refine blk_drewN ?_ _ | refine blk_drew ?_ | refine blk_alloc ?_ _)); refine blk_put (cs := #[.int .i64 0, .int .i64 0, .string (⟨#[]⟩ : ByteArray)]) ?_ 1 _ rfl; (with_reducible repeat (first | refine blk_drewN ?_ _ | refine blk_drew ?_ | refine blk_alloc ?_ _)); refine blk_put (cs := #[.int .i64 0, .int .i64 0, .string (⟨#[]⟩ : ByteArray)]) ?_ 0 _ rfl; (with_reducible repeat (first | refine blk_drewN ?_ _ | refine blk_drew ?_ | refine blk_alloc ?_ _)); exact BK113.out⟩, ⟨by repeat (first | (with_reducible first | exact HB.out | apply below_alloc | apply pw_below_drewN | apply below_drew1 | refine below_set ?_ GE109.out | refine below_set ?_ GE110.out | refine below_set ?_ GE111.out | refine below_set ?_ GE112.out | refine below_set ?_ GE113.out) | exact HB.out)⟩⟩
    · rw [if_neg c22] at H
      have c22b0 : decide ((wrap64 (-(l0.length : Int))) ≤ a2_1) = false := decide_eq_false c22
      clear c22
      (first | rw [c22b0] | (simp only [i64_w, i32_w]; rw [c22b0]) | skip)
      have H' := Aside0.mk H
      clear H
      have hnb48 := NB110_109.out
      have hnc48 := NB109_110.out
      have hnb49 := NB110_111.out
      have hnc49 := NB111_110.out
      have hnb50 := NB110_112.out
      have hnc50 := NB112_110.out
      have hnb51 := NB110_113.out
      have hnc51 := NB113_110.out
      have hcz52_0 : w9.cell? ⟨gb110, 0, none⟩ = some (.int .i64 a2_0) := (blk_cell BK110.out 0).trans rfl
      have hcz52_1 : w9.cell? ⟨gb110, 1, none⟩ = some (.int .i64 a2_1) := (blk_cell BK110.out 1).trans rfl
      have hfz52_0 := blk_frozen BK110.out 0
      have hfz52_1 := blk_frozen BK110.out 1
      go_wp2
      go_meet
      case rel => exact ⟨_, (false), (by first | rfl | (simp; done) | (simp [*]; done)), H', ⟨by first | omega | exact Nat.le_refl _⟩, ⟨by (with_reducible repeat (first | refine blk_drewN ?_ _ | refine blk_drew ?_ | refine blk_alloc ?_ _)); refine blk_far ?_ NB109_113.out _; (with_reducible repeat (first | refine blk_drewN ?_ _ | refine blk_drew ?_ | refine blk_alloc ?_ _)); refine blk_far ?_ NB109_113.out _; (with_reducible repeat (first | refine blk_drewN ?_ _ | refine blk_drew ?_ | refine blk_alloc ?_ _)); refine blk_far ?_ NB109_113.out _; (with_reducible repeat (first | refine blk_drewN ?_ _ | refine blk_drew ?_ | refine blk_alloc ?_ _)); exact BK109.out⟩, ⟨by (with_reducible repeat (first | refine blk_drewN ?_ _ | refine blk_drew ?_ | refine blk_alloc ?_ _)); refine blk_far ?_ NB110_113.out _; (with_reducible repeat (first | refine blk_drewN ?_ _ | refine blk_drew ?_ | refine blk_alloc ?_ _)); refine blk_far ?_ NB110_113.out _; (with_reducible repeat (first | refine blk_drewN ?_ _ | refine blk_drew ?_ | refine blk_alloc ?_ _)); refine blk_far ?_ NB110_113.out _; (with_reducible repeat (first | refine blk_drewN ?_ _ | refine blk_drew ?_ | refine blk_alloc ?_ _)); exact BK110.out⟩, ⟨by (with_reducible repeat (first | refine blk_drewN ?_ _ | refine blk_drew ?_ | refine blk_alloc ?_ _)); refine blk_far ?_ NB111_113.out _; (with_reducible repeat (first | refine blk_drewN ?_ _ | refine blk_drew ?_ | refine blk_alloc ?_ _)); refine blk_far ?_ NB111_113.out _; (with_reducible repeat (first | refine blk_drewN ?_ _ | refine blk_drew ?_ | refine blk_alloc ?_ _)); refine blk_far ?_ NB111_113.out _; (with_reducible repeat (first | refine blk_drewN ?_ _ | refine blk_drew ?_ | refine blk_alloc ?_ _)); exact BK111.out⟩, ⟨by (with_reducible repeat (first | refine blk_drewN ?_ _ | refine blk_drew ?_ | refine blk_alloc ?_ _)); refine blk_far ?_ NB112_113.out _; (with_reducible repeat (first | refine blk_drewN ?_ _ | refine blk_drew ?_ | refine blk_alloc ?_ _)); refine blk_far ?_ NB112_113.out _; (with_reducible repeat (first | refine blk_drewN ?_ _ | refine blk_drew ?_ | refine blk_alloc ?_ _)); refine blk_far ?_ NB112_113.out _; (with_reducible repeat (first | refine blk_drewN ?_ _ | refine blk_drew ?_ | refine blk_alloc ?_ _)); exact BK112.out⟩, ⟨by (with_reducible repeat (first | refine blk_drewN ?_ _ | refine blk_drew ?_ | refine blk_alloc ?_ _)); refine blk_put (cs := #[.int .i64 0, .int .i64 0, .string (⟨#[]⟩ : ByteArray)]) ?_ 2 _ rfl; (with_reducible repeat (first | refine blk_drewN ?_ _ | refine blk_drew ?_ | refine blk_alloc ?_ _)); refine blk_put (cs := #[.int .i64 0, .int .i64 0, .string (⟨#[]⟩ : ByteArray)]) ?_ 1 _ rfl; (with_reducible repeat (first | refine blk_drewN ?_ _ | refine blk_drew ?_ | refine blk_alloc ?_ _)); refine blk_put (cs := #[.int .i64 0, .int .i64 0, .string (⟨#[]⟩ : ByteArray)]) ?_ 0 _ rfl; (with_reducible repeat (first | refine blk_drewN ?_ _ | refine blk_drew ?_ | refine blk_alloc ?_ _)); exact BK113.out⟩, ⟨by repeat (first | (with_reducible first | exact HB.out | apply below_alloc | apply pw_below_drewN | apply below_drew1 | refine below_set ?_ GE109.out | refine below_set ?_ GE110.out | refine below_set ?_ GE111.out | refine below_set ?_ GE112.out | refine below_set ?_ GE113.out) | exact HB.out)⟩⟩
  case rest =>
    clear HC4
    try clear c1
    try clear c2
    try clear p2
    try clear c3
    try clear c4
    try clear c5
    try clear p6
    try clear c10
    try clear c11
    try clear c12
    try clear c13
    try clear c15
    try clear c16
    try clear c17
    try clear c19
    try clear c20
    try clear c22
    try clear c22b0
    try clear c23
    try clear c23b0
    try clear c24
    try clear c24b0
    try clear c25
    try clear c26
    try clear c27
    try clear c28
    try clear c30
    try clear c31
    try clear c32
    try clear c34
    try clear c35
    try clear c36
    try clear c37
    try clear c39
    try clear c40
    try clear c41
    try clear c43
    try clear c44
    try clear c45
    try clear c46
    try clear c48
    try clear c49
    try clear c50
    try clear c51
    try clear hcz14_0
    try clear hcz14_1
    try clear hcz14_2
    try clear hcz18_0
    try clear hcz18_1
    try clear hcz21_0
    try clear hcz21_1
    try clear hcz29_0
    try clear hcz29_1
    try clear hcz33_0
    try clear hcz33_1
    try clear hcz38_0
    try clear hcz38_1
    try clear hcz42_0
    try clear hcz42_1
    try clear hcz47_0
    try clear hcz47_1
    try clear hcz52_0
    try clear hcz52_1
    try clear hfz14_0
    try clear hfz14_1
    try clear hfz14_2
    try clear hfz18_0
    try clear hfz18_1
    try clear hfz21_0
    try clear hfz21_1
    try clear hfz29_0
    try clear hfz29_1
    try clear hfz33_0
    try clear hfz33_1
    try clear hfz38_0
    try clear hfz38_1
    try clear hfz42_0
    try clear hfz42_1
    try clear hfz47_0
    try clear hfz47_1
    try clear hfz52_0
    try clear hfz52_1
    obtain ⟨kq, x11_3, rfl, HA, HJ3, BK109, BK110, BK111, BK112, BK113, HB⟩ := hcut
    cases kq with
    | zero => exact absurd HA.out (by simp [spec_Next.j0])
    | succ kj3 =>
      have H := HA.out
      clear HA
      simp only [spec_Next.j0] at H
      by_cases c53 : a2_0 = 0
      · rw [if_pos c53] at H
        have c53b0 : (a2_0 == 0) = true := beq_iff_eq.mpr c53
        have c53b1 : (a2_0 != 0) = false := bne_eq_false_iff_eq.mpr c53
        clear c53
        simp only [Option.some.injEq, Prod.mk.injEq] at H
        obtain ⟨rfl, rfl, rfl, rfl, rfl, rfl⟩ := H
        have hnb54 := NB110_109.out
        have hnc54 := NB109_110.out
        have hnb55 := NB110_111.out
        have hnc55 := NB111_110.out
        have hnb56 := NB110_112.out
        have hnc56 := NB112_110.out
        have hnb57 := NB110_113.out
        have hnc57 := NB113_110.out
        have hcz58_0 : wc.cell? ⟨gb110, 0, none⟩ = some (.int .i64 a2_0) := (blk_cell BK110.out 0).trans rfl
        have hcz58_1 : wc.cell? ⟨gb110, 1, none⟩ = some (.int .i64 a2_1) := (blk_cell BK110.out 1).trans rfl
        have hfz58_0 := blk_frozen BK110.out 0
        have hfz58_1 := blk_frozen BK110.out 1
        have hnb59 := NB109_111.out
        have hnc59 := NB111_109.out
        have hnb60 := NB109_112.out
        have hnc60 := NB112_109.out
        have hnb61 := NB109_113.out
        have hnc61 := NB113_109.out
        have hcz62_0 : wc.cell? ⟨gb109, 0, none⟩ = some (.int .i64 a1_0) := (blk_cell BK109.out 0).trans rfl
        have hcz62_1 : wc.cell? ⟨gb109, 1, none⟩ = some (.int .i64 a1_1) := (blk_cell BK109.out 1).trans rfl
        have hfz62_0 := blk_frozen BK109.out 0
        have hfz62_1 := blk_frozen BK109.out 1
        try go_wp2
        have n0_ : Aside0 ((wc.setCell ⟨gb109, 1, none⟩ (.int .i64 (wrap64 (a1_1 + a2_1)))).heap[gb109]? = some (.cells #[.int .i64 a1_0, .int .i64 (wrap64 (a1_1 + a2_1))] 44 (0, 0))) := ⟨by (with_reducible repeat (first | refine blk_drewN ?_ _ | refine blk_drew ?_ | refine blk_alloc ?_ _)); refine blk_put (cs := #[.int .i64 a1_0, .int .i64 a1_1]) ?_ 1 _ rfl; (with_reducible repeat (first | refine blk_drewN ?_ _ | refine blk_drew ?_ | refine blk_alloc ?_ _)); exact BK109.out⟩
        have n1_ : Aside0 ((wc.setCell ⟨gb109, 1, none⟩ (.int .i64 (wrap64 (a1_1 + a2_1)))).heap[gb110]? = some (.cells #[.int .i64 a2_0, .int .i64 a2_1] 26 (0, 0))) := ⟨by (with_reducible repeat (first | refine blk_drewN ?_ _ | refine blk_drew ?_ | refine blk_alloc ?_ _)); refine blk_far ?_ NB110_109.out _; (with_reducible repeat (first | refine blk_drewN ?_ _ | refine blk_drew ?_ | refine blk_alloc ?_ _)); exact BK110.out⟩
        have n2_ : Aside0 ((wc.setCell ⟨gb109, 1, none⟩ (.int .i64 (wrap64 (a1_1 + a2_1)))).heap[gb111]? = some (.cells #[.int .i64 0, .int .i64 0] 44 (0, 0))) := ⟨by (with_reducible repeat (first | refine blk_drewN ?_ _ | refine blk_drew ?_ | refine blk_alloc ?_ _)); refine blk_far ?_ NB111_109.out _; (with_reducible repeat (first | refine blk_drewN ?_ _ | refine blk_drew ?_ | refine blk_alloc ?_ _)); exact BK111.out⟩
        have n3_ : Aside0 ((wc.setCell ⟨gb109, 1, none⟩ (.int .i64 (wrap64 (a1_1 + a2_1)))).heap[gb112]? = some (.cells #[.int .i64 0, .int .i64 0, .string (⟨#[]⟩ : ByteArray)] 46 (0, 0))) := ⟨by (with_reducible repeat (first | refine blk_drewN ?_ _ | refine blk_drew ?_ | refine blk_alloc ?_ _)); refine blk_far ?_ NB112_109.out _; (with_reducible repeat (first | refine blk_drewN ?_ _ | refine blk_drew ?_ | refine blk_alloc ?_ _)); exact BK112.out⟩
        have n4_ : Aside0 ((wc.setCell ⟨gb109, 1, none⟩ (.int .i64 (wrap64 (a1_1 + a2_1)))).heap[gb113]? = some (.cells #[.int .i64 0, .int .i64 0, .string (⟨#[]⟩ : ByteArray)] 46 (0, 0))) := ⟨by (with_reducible repeat (first | refine blk_drewN ?_ _ | refine blk_drew ?_ | refine blk_alloc ?_ _)); refine blk_far ?_ NB113_109.out _; (with_reducible repeat (first | refine blk_drewN ?_ _ | refine blk_drew ?_ | refine blk_alloc ?_ _)); exact BK113.out⟩
        have n5_ : Aside0 (Below w.heap.size w (wc.setCell ⟨gb109, 1, none⟩ (.int .i64 (wrap64 (a1_1 + a2_1))))) := ⟨by repeat (first | (with_reducible first | exact HB.out | apply below_alloc | apply pw_below_drewN | apply below_drew1 | refine below_set ?_ GE109.out | refine below_set ?_ GE110.out | refine below_set ?_ GE111.out | refine below_set ?_ GE112.out | refine below_set ?_ GE113.out) | exact HB.out)⟩
        (try clear BK109)
        (try clear BK110)
        (try clear BK111)
        (try clear BK112)
        (try clear BK113)
        (try clear HB)
        generalize (wc.setCell ⟨gb109, 1, none⟩ (.int .i64 (wrap64 (a1_1 + a2_1)))) = w63 at n0_ n1_ n2_ n3_ n4_ n5_ ⊢
        have BK109 := n0_
        have BK110 := n1_
        have BK111 := n2_
        have BK112 := n3_
        have BK113 := n4_
        have HB := n5_
        clear n0_ n1_ n2_ n3_ n4_ n5_
        have n0_ := Aside0.mk (blk_drew BK109.out)
        have n1_ := Aside0.mk (blk_drew BK110.out)
        have n2_ := Aside0.mk (blk_drew BK111.out)
        have n3_ := Aside0.mk (blk_drew BK112.out)
        have n4_ := Aside0.mk (blk_drew BK113.out)
        have n5_ := Aside0.mk (below_drew1 HB.out)
        clear BK109
        clear BK110
        clear BK111
        clear BK112
        clear BK113
        clear HB
        have BK109 := n0_
        have BK110 := n1_
        have BK111 := n2_
        have BK112 := n3_
        have BK113 := n4_
        have HB := n5_
        clear n0_ n1_ n2_ n3_ n4_ n5_
        refine start_ (n := 6) (S := fun w' => w'.cell? ⟨gb109, 0, none⟩ = some (.int .i64 a1_0) ∧ w'.cell? ⟨gb109, 1, none⟩ = some (.int .i64 (wrap64 (a1_1 + a2_1))) ∧ w'.cell? ⟨gb113, 0, none⟩ = some (.int .i64 0) ∧ w'.cell? ⟨gb113, 1, none⟩ = some (.int .i64 0) ∧ w'.cell? ⟨gb113, 2, none⟩ = some (.string (⟨#[]⟩ : ByteArray))) (ds := []) #[false, false, false, false, false, false] (by kernel_rfl) rfl rfl ⟨(blk_cell BK109.out 0).trans rfl, (blk_cell BK109.out 1).trans rfl, (blk_cell BK113.out 0).trans rfl, (blk_cell BK113.out 1).trans rfl, (blk_cell BK113.out 2).trans rfl⟩ (fun hHeld => ?_)
        generalize w63.drew = w64 at BK109 BK110 BK111 BK112 BK113 HB hHeld ⊢
        refine pure_ (i := 2) (N := some 55) (v := ?_) (a' := ?_) #[false, false, true, false, false, false] rfl rfl (by kernel_rfl) (fun _ _ _ h => h) (Or.inl ⟨by rfl, ?_⟩) ?_ ?_
        rotate_left
        · intro w'
          go_simp
          with_reducible rfl
        rotate_left
        · simp only [Act.put, List.setIfInBounds_toArray, List.set_cons_zero, List.set_cons_succ, i64_w, i32_w]
          rfl
        refine take_ (i := 0) (N := some 53) (v := ?_) (a' := ?_) #[true, false, true, false, false, false] rfl rfl (by kernel_rfl) (fun _ _ _ h => h) (Or.inl ⟨by rfl, ?_⟩) hHeld ?_ ?_
        rotate_left
        · rintro w' ⟨s0, s1, s2, s3, s4⟩
          go_simp
          with_reducible rfl
        rotate_left
        · simp only [Act.put, List.setIfInBounds_toArray, List.set_cons_zero, List.set_cons_succ, i64_w, i32_w]
          rfl
        refine take_ (i := 1) (N := some 54) (v := ?_) (a' := ?_) #[true, true, true, false, false, false] rfl rfl (by kernel_rfl) (fun _ _ _ h => h) (Or.inl ⟨by rfl, ?_⟩) hHeld ?_ ?_
        rotate_left
        · rintro w' ⟨s0, s1, s2, s3, s4⟩
          go_simp
          with_reducible rfl
        rotate_left
        · simp only [Act.put, List.setIfInBounds_toArray, List.set_cons_zero, List.set_cons_succ, i64_w, i32_w]
          rfl
        refine one_ (i := 3) (N := none) #[true, true, true, true, false, false] rfl rfl (by kernel_rfl) (by decide) (fun K hK => ?_)
        have hs65 : w64.cell? ⟨gb111, 0, none⟩ = some (.int .i64 0) := (blk_cell BK111.out 0).trans rfl
        have hfs65 := blk_frozen BK111.out 0
        have hns65_0 := NB109_111.out
        have hns65_1 := NB110_111.out
        have hns65_3 := NB112_111.out
        have hns65_4 := NB113_111.out
        have hms65_0 := NB111_109.out
        have hms65_1 := NB111_110.out
        have hms65_3 := NB111_112.out
        have hms65_4 := NB111_113.out
        have hs66 : w64.cell? ⟨gb111, 1, none⟩ = some (.int .i64 0) := (blk_cell BK111.out 1).trans rfl
        have hfs66 := blk_frozen BK111.out 1
        have hns66_0 := NB109_111.out
        have hns66_1 := NB110_111.out
        have hns66_3 := NB112_111.out
        have hns66_4 := NB113_111.out
        have hms66_0 := NB111_109.out
        have hms66_1 := NB111_110.out
        have hms66_3 := NB111_112.out
        have hms66_4 := NB111_113.out
        refine skip_ (w1 := ?_) (by rfl) rfl ?_ ?_
        rotate_left
        · go_simp
          rfl
        refine hK.out _ _ ⟨((cell_far (p := ⟨gb111, _, none⟩) NB109_111.out _).trans (((cell_far (p := ⟨gb111, _, none⟩) NB109_111.out _).trans (hHeld.1)))), ((cell_far (p := ⟨gb111, _, none⟩) NB109_111.out _).trans (((cell_far (p := ⟨gb111, _, none⟩) NB109_111.out _).trans (hHeld.2.1)))), ((cell_far (p := ⟨gb111, _, none⟩) NB113_111.out _).trans (((cell_far (p := ⟨gb111, _, none⟩) NB113_111.out _).trans (hHeld.2.2.1)))), ((cell_far (p := ⟨gb111, _, none⟩) NB113_111.out _).trans (((cell_far (p := ⟨gb111, _, none⟩) NB113_111.out _).trans (hHeld.2.2.2.1)))), ((cell_far (p := ⟨gb111, _, none⟩) NB113_111.out _).trans (((cell_far (p := ⟨gb111, _, none⟩) NB113_111.out _).trans (hHeld.2.2.2.2))))⟩ (fun hHeld => ?_)
        clear hK K
        refine one_ (i := 4) (N := none) #[true, true, true, true, true, false] rfl rfl (by kernel_rfl) (by decide) (fun K hK => ?_)
        have hs67 : w64.cell? ⟨gb112, 0, none⟩ = some (.int .i64 0) := (blk_cell BK112.out 0).trans rfl
        have hfs67 := blk_frozen BK112.out 0
        have hns67_0 := NB109_112.out
        have hns67_1 := NB110_112.out
        have hns67_2 := NB111_112.out
        have hns67_4 := NB113_112.out
        have hms67_0 := NB112_109.out
        have hms67_1 := NB112_110.out
        have hms67_2 := NB112_111.out
        have hms67_4 := NB112_113.out
        have hs68 : w64.cell? ⟨gb112, 1, none⟩ = some (.int .i64 0) := (blk_cell BK112.out 1).trans rfl
        have hfs68 := blk_frozen BK112.out 1
        have hns68_0 := NB109_112.out
        have hns68_1 := NB110_112.out
        have hns68_2 := NB111_112.out
        have hns68_4 := NB113_112.out
        have hms68_0 := NB112_109.out
        have hms68_1 := NB112_110.out
        have hms68_2 := NB112_111.out
        have hms68_4 := NB112_113.out
        have hs69 : w64.cell? ⟨gb112, 2, none⟩ = some (.string (⟨#[]⟩ : ByteArray)) := (blk_cell BK112.out 2).trans rfl
        have hfs69 := blk_frozen BK112.out 2
        have hns69_0 := NB109_112.out
        have hns69_1 := NB110_112.out
        have hns69_2 := NB111_112.out
        have hns69_4 := NB113_112.out
        have hms69_0 := NB112_109.out
        have hms69_1 := NB112_110.out
        have hms69_2 := NB112_111.out
        have hms69_4 := NB112_113.out
        refine skip_ (w1 := ?_) (by rfl) rfl ?_ ?_
        rotate_left
        · go_simp
          rfl
        refine hK.out _ _ ⟨((cell_far (p := ⟨gb112, _, none⟩) NB109_112.out _).trans (((cell_far (p := ⟨gb112, _, none⟩) NB109_112.out _).trans (((cell_far (p := ⟨gb112, _, none⟩) NB109_112.out _).trans (hHeld.1)))))), ((cell_far (p := ⟨gb112, _, none⟩) NB109_112.out _).trans (((cell_far (p := ⟨gb112, _, none⟩) NB109_112.out _).trans (((cell_far (p := ⟨gb112, _, none⟩) NB109_112.out _).trans (hHeld.2.1)))))), ((cell_far (p := ⟨gb112, _, none⟩) NB113_112.out _).trans (((cell_far (p := ⟨gb112, _, none⟩) NB113_112.out _).trans (((cell_far (p := ⟨gb112, _, none⟩) NB113_112.out _).trans (hHeld.2.2.1)))))), ((cell_far (p := ⟨gb112, _, none⟩) NB113_112.out _).trans (((cell_far (p := ⟨gb112, _, none⟩) NB113_112.out _).trans (((cell_far (p := ⟨gb112, _, none⟩) NB113_112.out _).trans (hHeld.2.2.2.1)))))), ((cell_far (p := ⟨gb112, _, none⟩) NB113_112.out _).trans (((cell_far (p := ⟨gb112, _, none⟩) NB113_112.out _).trans (((cell_far (p := ⟨gb112, _, none⟩) NB113_112.out _).trans (hHeld.2.2.2.2))))))⟩ (fun hHeld => ?_)
        clear hK K
        refine pure_ (i := 5) (N := some 8) (v := ?_) (a' := ?_) #[true, true, true, true, true, true] rfl rfl (by kernel_rfl) (fun _ _ _ h => h) (Or.inl ⟨by rfl, ?_⟩) ?_ ?_
        rotate_left
        · intro w'
          go_simp
          with_reducible rfl
        rotate_left
        · simp only [Act.put, List.setIfInBounds_toArray, List.set_cons_zero, List.set_cons_succ, i64_w, i32_w]
          rfl
        refine done_ (by kernel_rfl) ?_
        try go_wp2
        refine bodyPost_ret (results_list (rs := [.cell 6 44, .cell 7 46, .tmp 8]) rfl (by simp) (.cell gb111 44 #[.int .i64 a1_0, .int .i64 (wrap64 (a1_1 + a2_1))] (0, 0) _ rfl (by (with_reducible repeat (first | refine blk_drewN ?_ _ | refine blk_drew ?_ | refine blk_alloc ?_ _)); refine blk_far ?_ NB111_112.out _; (with_reducible repeat (first | refine blk_drewN ?_ _ | refine blk_drew ?_ | refine blk_alloc ?_ _)); refine blk_far ?_ NB111_112.out _; (with_reducible repeat (first | refine blk_drewN ?_ _ | refine blk_drew ?_ | refine blk_alloc ?_ _)); refine blk_far ?_ NB111_112.out _; (with_reducible repeat (first | refine blk_drewN ?_ _ | refine blk_drew ?_ | refine blk_alloc ?_ _)); refine blk_put (cs := #[.int .i64 a1_0, .int .i64 0]) ?_ 1 _ rfl; (with_reducible repeat (first | refine blk_drewN ?_ _ | refine blk_drew ?_ | refine blk_alloc ?_ _)); refine blk_put (cs := #[.int .i64 0, .int .i64 0]) ?_ 0 _ rfl; (with_reducible repeat (first | refine blk_drewN ?_ _ | refine blk_drew ?_ | refine blk_alloc ?_ _)); exact BK111.out) Tryd.underlying44 rfl (by kernel_rfl) (.cell gb112 46 #[.int .i64 0, .int .i64 0, .string (⟨#[]⟩ : ByteArray)] (0, 0) _ rfl (by (with_reducible repeat (first | refine blk_drewN ?_ _ | refine blk_drew ?_ | refine blk_alloc ?_ _)); refine blk_put (cs := #[.int .i64 0, .int .i64 0, .string (⟨#[]⟩ : ByteArray)]) ?_ 2 _ rfl; (with_reducible repeat (first | refine blk_drewN ?_ _ | refine blk_drew ?_ | refine blk_alloc ?_ _)); refine blk_put (cs := #[.int .i64 0, .int .i64 0, .string (⟨#[]⟩ : ByteArray)]) ?_ 1 _ rfl; (with_reducible repeat (first | refine blk_drewN ?_ _ | refine blk_drew ?_ | refine blk_alloc ?_ _)); refine blk_put (cs := #[.int .i64 0, .int .i64 0, .string (⟨#[]⟩ : ByteArray)]) ?_ 0 _ rfl; (with_reducible repeat (first | refine blk_drewN ?_ _ | refine blk_drew ?_ | refine blk_alloc ?_ _)); refine blk_far ?_ NB112_111.out _; (with_reducible repeat (first | refine blk_drewN ?_ _ | refine blk_drew ?_ | refine blk_alloc ?_ _)); refine blk_far ?_ NB112_111.out _; (with_reducible repeat (first | refine blk_drewN ?_ _ | refine blk_drew ?_ | refine blk_alloc ?_ _)); exact BK112.out) Tryd.underlying46 rfl (by kernel_rfl) (.tmp .nil)))) rfl ?_
        exact ⟨by first | rfl | (simp [errW_none, errW_some] <;> rfl) | (simp [*, errW_none, errW_some] <;> rfl), by repeat (first | (with_reducible first | exact HB.out | apply below_alloc | apply pw_below_drewN | apply below_drew1 | refine below_set ?_ GE109.out | refine below_set ?_ GE110.out | refine below_set ?_ GE111.out | refine below_set ?_ GE112.out | refine below_set ?_ GE113.out) | exact HB.out)⟩
      · rw [if_neg c53] at H
        have c53b0 : (a2_0 == 0) = false := beq_eq_false_iff_ne.mpr c53
        have c53b1 : (a2_0 != 0) = true := bne_iff_ne.mpr c53
        by_cases c70 : a2_0 = 1
        · rw [if_pos c70] at H
          have c70b0 : (a2_0 == 1) = true := beq_iff_eq.mpr c70
          have c70b1 : (a2_0 != 1) = false := bne_eq_false_iff_eq.mpr c70
          clear c70
          by_cases c71 : a2_1 ≥ 0
          · rw [if_pos c71] at H
            have c71b0 : decide (0 ≤ a2_1) = true := decide_eq_true c71
            clear c71
            simp only [Option.some.injEq, Prod.mk.injEq] at H
            obtain ⟨rfl, rfl, rfl, rfl, rfl, rfl⟩ := H
            have hnb72 := NB110_109.out
            have hnc72 := NB109_110.out
            have hnb73 := NB110_111.out
            have hnc73 := NB111_110.out
            have hnb74 := NB110_112.out
            have hnc74 := NB112_110.out
            have hnb75 := NB110_113.out
            have hnc75 := NB113_110.out
            have hcz76_0 : wc.cell? ⟨gb110, 0, none⟩ = some (.int .i64 a2_0) := (blk_cell BK110.out 0).trans rfl
            have hcz76_1 : wc.cell? ⟨gb110, 1, none⟩ = some (.int .i64 a2_1) := (blk_cell BK110.out 1).trans rfl
            have hfz76_0 := blk_frozen BK110.out 0
            have hfz76_1 := blk_frozen BK110.out 1
            have hnb77 := NB109_111.out
            have hnc77 := NB111_109.out
            have hnb78 := NB109_112.out
            have hnc78 := NB112_109.out
            have hnb79 := NB109_113.out
            have hnc79 := NB113_109.out
            have hcz80_0 : wc.cell? ⟨gb109, 0, none⟩ = some (.int .i64 a1_0) := (blk_cell BK109.out 0).trans rfl
            have hcz80_1 : wc.cell? ⟨gb109, 1, none⟩ = some (.int .i64 a1_1) := (blk_cell BK109.out 1).trans rfl
            have hfz80_0 := blk_frozen BK109.out 0
            have hfz80_1 := blk_frozen BK109.out 1
            try go_wp2
            have n0_ : Aside0 ((wc.setCell ⟨gb109, 1, none⟩ (.int .i64 (wrap64 (a1_0 + a2_1)))).heap[gb109]? = some (.cells #[.int .i64 a1_0, .int .i64 (wrap64 (a1_0 + a2_1))] 44 (0, 0))) := ⟨by (with_reducible repeat (first | refine blk_drewN ?_ _ | refine blk_drew ?_ | refine blk_alloc ?_ _)); refine blk_put (cs := #[.int .i64 a1_0, .int .i64 a1_1]) ?_ 1 _ rfl; (with_reducible repeat (first | refine blk_drewN ?_ _ | refine blk_drew ?_ | refine blk_alloc ?_ _)); exact BK109.out⟩
            have n1_ : Aside0 ((wc.setCell ⟨gb109, 1, none⟩ (.int .i64 (wrap64 (a1_0 + a2_1)))).heap[gb110]? = some (.cells #[.int .i64 a2_0, .int .i64 a2_1] 26 (0, 0))) := ⟨by (with_reducible repeat (first | refine blk_drewN ?_ _ | refine blk_drew ?_ | refine blk_alloc ?_ _)); refine blk_far ?_ NB110_109.out _; (with_reducible repeat (first | refine blk_drewN ?_ _ | refine blk_drew ?_ | refine blk_alloc ?_ _)); exact BK110.out⟩
            have n2_ : Aside0 ((wc.setCell ⟨gb109, 1, none⟩ (.int .i64 (wrap64 (a1_0 + a2_1)))).heap[gb111]? = some (.cells #[.int .i64 0, .int .i64 0] 44 (0, 0))) := ⟨by (with_reducible repeat (first | refine blk_drewN ?_ _ | refine blk_drew ?_ | refine blk_alloc ?_ _)); refine blk_far ?_ NB111_109.out _; (with_reducible repeat (first | refine blk_drewN ?_ _ | refine blk_drew ?_ | refine blk_alloc ?_ _)); exact BK111.out⟩
            have n3_ : Aside0 ((wc.setCell ⟨gb109, 1, none⟩ (.int .i64 (wrap64 (a1_0 + a2_1)))).heap[gb112]? = some (.cells #[.int .i64 0, .int .i64 0, .string (⟨#[]⟩ : ByteArray)] 46 (0, 0))) := ⟨by (with_reducible repeat (first | refine blk_drewN ?_ _ | refine blk_drew ?_ | refine blk_alloc ?_ _)); refine blk_far ?_ NB112_109.out _; (with_reducible repeat (first | refine blk_drewN ?_ _ | refine blk_drew ?_ | refine blk_alloc ?_ _)); exact BK112.out⟩
            have n4_ : Aside0 ((wc.setCell ⟨gb109, 1, none⟩ (.int .i64 (wrap64 (a1_0 + a2_1)))).heap[gb113]? = some (.cells #[.int .i64 0, .int .i64 0, .string (⟨#[]⟩ : ByteArray)] 46 (0, 0))) := ⟨by (with_reducible repeat (first | refine blk_drewN ?_ _ | refine blk_drew ?_ | refine blk_alloc ?_ _)); refine blk_far ?_ NB113_109.out _; (with_reducible repeat (first | refine blk_drewN ?_ _ | refine blk_drew ?_ | refine blk_alloc ?_ _)); exact BK113.out⟩
            have n5_ : Aside0 (Below w.heap.size w (wc.setCell ⟨gb109, 1, none⟩ (.int .i64 (wrap64 (a1_0 + a2_1))))) := ⟨by repeat (first | (with_reducible first | exact HB.out | apply below_alloc | apply pw_below_drewN | apply below_drew1 | refine below_set ?_ GE109.out | refine below_set ?_ GE110.out | refine below_set ?_ GE111.out | refine below_set ?_ GE112.out | refine below_set ?_ GE113.out) | exact HB.out)⟩
            (try clear BK109)
            (try clear BK110)
            (try clear BK111)
            (try clear BK112)
            (try clear BK113)
            (try clear HB)
            generalize (wc.setCell ⟨gb109, 1, none⟩ (.int .i64 (wrap64 (a1_0 + a2_1)))) = w81 at n0_ n1_ n2_ n3_ n4_ n5_ ⊢
            have BK109 := n0_
            have BK110 := n1_
            have BK111 := n2_
            have BK112 := n3_
            have BK113 := n4_
            have HB := n5_
            clear n0_ n1_ n2_ n3_ n4_ n5_
            have n0_ := Aside0.mk (blk_drew BK109.out)
            have n1_ := Aside0.mk (blk_drew BK110.out)
            have n2_ := Aside0.mk (blk_drew BK111.out)
            have n3_ := Aside0.mk (blk_drew BK112.out)
            have n4_ := Aside0.mk (blk_drew BK113.out)
            have n5_ := Aside0.mk (below_drew1 HB.out)
            clear BK109
            clear BK110
            clear BK111
            clear BK112
            clear BK113
            clear HB
            have BK109 := n0_
            have BK110 := n1_
            have BK111 := n2_
            have BK112 := n3_
            have BK113 := n4_
            have HB := n5_
            clear n0_ n1_ n2_ n3_ n4_ n5_
            refine start_ (n := 6) (S := fun w' => w'.cell? ⟨gb109, 0, none⟩ = some (.int .i64 a1_0) ∧ w'.cell? ⟨gb109, 1, none⟩ = some (.int .i64 (wrap64 (a1_0 + a2_1))) ∧ w'.cell? ⟨gb113, 0, none⟩ = some (.int .i64 0) ∧ w'.cell? ⟨gb113, 1, none⟩ = some (.int .i64 0) ∧ w'.cell? ⟨gb113, 2, none⟩ = some (.string (⟨#[]⟩ : ByteArray))) (ds := []) #[false, false, false, false, false, false] (by kernel_rfl) rfl rfl ⟨(blk_cell BK109.out 0).trans rfl, (blk_cell BK109.out 1).trans rfl, (blk_cell BK113.out 0).trans rfl, (blk_cell BK113.out 1).trans rfl, (blk_cell BK113.out 2).trans rfl⟩ (fun hHeld => ?_)
            generalize w81.drew = w82 at BK109 BK110 BK111 BK112 BK113 HB hHeld ⊢
            refine pure_ (i := 2) (N := some 79) (v := ?_) (a' := ?_) #[false, false, true, false, false, false] rfl rfl (by kernel_rfl) (fun _ _ _ h => h) (Or.inl ⟨by rfl, ?_⟩) ?_ ?_
            rotate_left
            · intro w'
              go_simp
              with_reducible rfl
            rotate_left
            · simp only [Act.put, List.setIfInBounds_toArray, List.set_cons_zero, List.set_cons_succ, i64_w, i32_w]
              rfl
            refine take_ (i := 0) (N := some 77) (v := ?_) (a' := ?_) #[true, false, true, false, false, false] rfl rfl (by kernel_rfl) (fun _ _ _ h => h) (Or.inl ⟨by rfl, ?_⟩) hHeld ?_ ?_
            rotate_left
            · rintro w' ⟨s0, s1, s2, s3, s4⟩
              go_simp
              with_reducible rfl
            rotate_left
            · simp only [Act.put, List.setIfInBounds_toArray, List.set_cons_zero, List.set_cons_succ, i64_w, i32_w]
              rfl
            refine take_ (i := 1) (N := some 78) (v := ?_) (a' := ?_) #[true, true, true, false, false, false] rfl rfl (by kernel_rfl) (fun _ _ _ h => h) (Or.inl ⟨by rfl, ?_⟩) hHeld ?_ ?_
            rotate_left
            · rintro w' ⟨s0, s1, s2, s3, s4⟩
              go_simp
              with_reducible rfl
            rotate_left
            · simp only [Act.put, List.setIfInBounds_toArray, List.set_cons_zero, List.set_cons_succ, i64_w, i32_w]
              rfl
            refine one_ (i := 3) (N := none) #[true, true, true, true, false, false] rfl rfl (by kernel_rfl) (by decide) (fun K hK => ?_)
            have hs83 : w82.cell? ⟨gb111, 0, none⟩ = some (.int .i64 0) := (blk_cell BK111.out 0).trans rfl
            have hfs83 := blk_frozen BK111.out 0
            have hns83_0 := NB109_111.out
            have hns83_1 := NB110_111.out
            have hns83_3 := NB112_111.out
            have hns83_4 := NB113_111.out
            have hms83_0 := NB111_109.out
            have hms83_1 := NB111_110.out
            have hms83_3 := NB111_112.out
            have hms83_4 := NB111_113.out
            have hs84 : w82.cell? ⟨gb111, 1, none⟩ = some (.int .i64 0) := (blk_cell BK111.out 1).trans rfl
            have hfs84 := blk_frozen BK111.out 1
            have hns84_0 := NB109_111.out
            have hns84_1 := NB110_111.out
            have hns84_3 := NB112_111.out
            have hns84_4 := NB113_111.out
            have hms84_0 := NB111_109.out
            have hms84_1 := NB111_110.out
            have hms84_3 := NB111_112.out
            have hms84_4 := NB111_113.out
            refine skip_ (w1 := ?_) (by rfl) rfl ?_ ?_
            rotate_left
            · go_simp
              rfl
            refine hK.out _ _ ⟨((cell_far (p := ⟨gb111, _, none⟩) NB109_111.out _).trans (((cell_far (p := ⟨gb111, _, none⟩) NB109_111.out _).trans (hHeld.1)))), ((cell_far (p := ⟨gb111, _, none⟩) NB109_111.out _).trans (((cell_far (p := ⟨gb111, _, none⟩) NB109_111.out _).trans (hHeld.2.1)))), ((cell_far (p := ⟨gb111, _, none⟩) NB113_111.out _).trans (((cell_far (p := ⟨gb111, _, none⟩) NB113_111.out _).trans (hHeld.2.2.1)))), ((cell_far (p := ⟨gb111, _, none⟩) NB113_111.out _).trans (((cell_far (p := ⟨gb111, _, none⟩) NB113_111.out _).trans (hHeld.2.2.2.1)))), ((cell_far (p := ⟨gb111, _, none⟩) NB113_111.out _).trans (((cell_far (p := ⟨gb111, _, none⟩) NB113_111.out _).trans (hHeld.2.2.2.2))))⟩ (fun hHeld => ?_)
            clear hK K
            refine one_ (i := 4) (N := none) #[true, true, true, true, true, false] rfl rfl (by kernel_rfl) (by decide) (fun K hK => ?_)
            have hs85 : w82.cell? ⟨gb112, 0, none⟩ = some (.int .i64 0) := (blk_cell BK112.out 0).trans rfl
            have hfs85 := blk_frozen BK112.out 0
            have hns85_0 := NB109_112.out
            have hns85_1 := NB110_112.out
            have hns85_2 := NB111_112.out
            have hns85_4 := NB113_112.out
            have hms85_0 := NB112_109.out
            have hms85_1 := NB112_110.out
            have hms85_2 := NB112_111.out
            have hms85_4 := NB112_113.out
            have hs86 : w82.cell? ⟨gb112, 1, none⟩ = some (.int .i64 0) := (blk_cell BK112.out 1).trans rfl
            have hfs86 := blk_frozen BK112.out 1
            have hns86_0 := NB109_112.out
            have hns86_1 := NB110_112.out
            have hns86_2 := NB111_112.out
            have hns86_4 := NB113_112.out
            have hms86_0 := NB112_109.out
            have hms86_1 := NB112_110.out
            have hms86_2 := NB112_111.out
            have hms86_4 := NB112_113.out
            have hs87 : w82.cell? ⟨gb112, 2, none⟩ = some (.string (⟨#[]⟩ : ByteArray)) := (blk_cell BK112.out 2).trans rfl
            have hfs87 := blk_frozen BK112.out 2
            have hns87_0 := NB109_112.out
            have hns87_1 := NB110_112.out
            have hns87_2 := NB111_112.out
            have hns87_4 := NB113_112.out
            have hms87_0 := NB112_109.out
            have hms87_1 := NB112_110.out
            have hms87_2 := NB112_111.out
            have hms87_4 := NB112_113.out
            refine skip_ (w1 := ?_) (by rfl) rfl ?_ ?_
            rotate_left
            · go_simp
              rfl
            refine hK.out _ _ ⟨((cell_far (p := ⟨gb112, _, none⟩) NB109_112.out _).trans (((cell_far (p := ⟨gb112, _, none⟩) NB109_112.out _).trans (((cell_far (p := ⟨gb112, _, none⟩) NB109_112.out _).trans (hHeld.1)))))), ((cell_far (p := ⟨gb112, _, none⟩) NB109_112.out _).trans (((cell_far (p := ⟨gb112, _, none⟩) NB109_112.out _).trans (((cell_far (p := ⟨gb112, _, none⟩) NB109_112.out _).trans (hHeld.2.1)))))), ((cell_far (p := ⟨gb112, _, none⟩) NB113_112.out _).trans (((cell_far (p := ⟨gb112, _, none⟩) NB113_112.out _).trans (((cell_far (p := ⟨gb112, _, none⟩) NB113_112.out _).trans (hHeld.2.2.1)))))), ((cell_far (p := ⟨gb112, _, none⟩) NB113_112.out _).trans (((cell_far (p := ⟨gb112, _, none⟩) NB113_112.out _).trans (((cell_far (p := ⟨gb112, _, none⟩) NB113_112.out _).trans (hHeld.2.2.2.1)))))), ((cell_far (p := ⟨gb112, _, none⟩) NB113_112.out _).trans (((cell_far (p := ⟨gb112, _, none⟩) NB113_112.out _).trans (((cell_far (p := ⟨gb112, _, none⟩) NB113_112.out _).trans (hHeld.2.2.2.2))))))⟩ (fun hHeld => ?_)
            clear hK K
            refine pure_ (i := 5) (N := some 8) (v := ?_) (a' := ?_) #[true, true, true, true, true, true] rfl rfl (by kernel_rfl) (fun _ _ _ h => h) (Or.inl ⟨by rfl, ?_⟩) ?_ ?_
            rotate_left
            · intro w'
              go_simp
              with_reducible rfl
            rotate_left
            · simp only [Act.put, List.setIfInBounds_toArray, List.set_cons_zero, List.set_cons_succ, i64_w, i32_w]
              rfl
            refine done_ (by kernel_rfl) ?_
            try go_wp2
            refine bodyPost_ret (results_list (rs := [.cell 6 44, .cell 7 46, .tmp 8]) rfl (by simp) (.cell gb111 44 #[.int .i64 a1_0, .int .i64 (wrap64 (a1_0 + a2_1))] (0, 0) _ rfl (by (with_reducible repeat (first | refine blk_drewN ?_ _ | refine blk_drew ?_ | refine blk_alloc ?_ _)); refine blk_far ?_ NB111_112.out _; (with_reducible repeat (first | refine blk_drewN ?_ _ | refine blk_drew ?_ | refine blk_alloc ?_ _)); refine blk_far ?_ NB111_112.out _; (with_reducible repeat (first | refine blk_drewN ?_ _ | refine blk_drew ?_ | refine blk_alloc ?_ _)); refine blk_far ?_ NB111_112.out _; (with_reducible repeat (first | refine blk_drewN ?_ _ | refine blk_drew ?_ | refine blk_alloc ?_ _)); refine blk_put (cs := #[.int .i64 a1_0, .int .i64 0]) ?_ 1 _ rfl; (with_reducible repeat (first | refine blk_drewN ?_ _ | refine blk_drew ?_ | refine blk_alloc ?_ _)); refine blk_put (cs := #[.int .i64 0, .int .i64 0]) ?_ 0 _ rfl; (with_reducible repeat (first | refine blk_drewN ?_ _ | refine blk_drew ?_ | refine blk_alloc ?_ _)); exact BK111.out) Tryd.underlying44 rfl (by kernel_rfl) (.cell gb112 46 #[.int .i64 0, .int .i64 0, .string (⟨#[]⟩ : ByteArray)] (0, 0) _ rfl (by (with_reducible repeat (first | refine blk_drewN ?_ _ | refine blk_drew ?_ | refine blk_alloc ?_ _)); refine blk_put (cs := #[.int .i64 0, .int .i64 0, .string (⟨#[]⟩ : ByteArray)]) ?_ 2 _ rfl; (with_reducible repeat (first | refine blk_drewN ?_ _ | refine blk_drew ?_ | refine blk_alloc ?_ _)); refine blk_put (cs := #[.int .i64 0, .int .i64 0, .string (⟨#[]⟩ : ByteArray)]) ?_ 1 _ rfl; (with_reducible repeat (first | refine blk_drewN ?_ _ | refine blk_drew ?_ | refine blk_alloc ?_ _)); refine blk_put (cs := #[.int .i64 0, .int .i64 0, .string (⟨#[]⟩ : ByteArray)]) ?_ 0 _ rfl; (with_reducible repeat (first | refine blk_drewN ?_ _ | refine blk_drew ?_ | refine blk_alloc ?_ _)); refine blk_far ?_ NB112_111.out _; (with_reducible repeat (first | refine blk_drewN ?_ _ | refine blk_drew ?_ | refine blk_alloc ?_ _)); refine blk_far ?_ NB112_111.out _; (with_reducible repeat (first | refine blk_drewN ?_ _ | refine blk_drew ?_ | refine blk_alloc ?_ _)); exact BK112.out) Tryd.underlying46 rfl (by kernel_rfl) (.tmp .nil)))) rfl ?_
            exact ⟨by first | rfl | (simp [errW_none, errW_some] <;> rfl) | (simp [*, errW_none, errW_some] <;> rfl), by repeat (first | (with_reducible first | exact HB.out | apply below_alloc | apply pw_below_drewN | apply below_drew1 | refine below_set ?_ GE109.out | refine below_set ?_ GE110.out | refine below_set ?_ GE111.out | refine below_set ?_ GE112.out | refine below_set ?_ GE113.out) | exact HB.out)⟩
          · rw [if_neg c71] at H
            have c71b0 : decide (0 ≤ a2_1) = false := decide_eq_false c71
            clear c71
            simp only [Option.some.injEq, Prod.mk.injEq] at H
            obtain ⟨rfl, rfl, rfl, rfl, rfl, rfl⟩ := H
            have hnb88 := NB110_109.out
            have hnc88 := NB109_110.out
            have hnb89 := NB110_111.out
            have hnc89 := NB111_110.out
            have hnb90 := NB110_112.out
            have hnc90 := NB112_110.out
            have hnb91 := NB110_113.out
            have hnc91 := NB113_110.out
            have hcz92_0 : wc.cell? ⟨gb110, 0, none⟩ = some (.int .i64 a2_0) := (blk_cell BK110.out 0).trans rfl
            have hcz92_1 : wc.cell? ⟨gb110, 1, none⟩ = some (.int .i64 a2_1) := (blk_cell BK110.out 1).trans rfl
            have hfz92_0 := blk_frozen BK110.out 0
            have hfz92_1 := blk_frozen BK110.out 1
            have hnb93 := NB109_111.out
            have hnc93 := NB111_109.out
            have hnb94 := NB109_112.out
            have hnc94 := NB112_109.out
            have hnb95 := NB109_113.out
            have hnc95 := NB113_109.out
            have hcz96_0 : wc.cell? ⟨gb109, 0, none⟩ = some (.int .i64 a1_0) := (blk_cell BK109.out 0).trans rfl
            have hcz96_1 : wc.cell? ⟨gb109, 1, none⟩ = some (.int .i64 a1_1) := (blk_cell BK109.out 1).trans rfl
            have hfz96_0 := blk_frozen BK109.out 0
            have hfz96_1 := blk_frozen BK109.out 1
            try go_wp2
            have n0_ : Aside0 ((wc.setCell ⟨gb109, 1, none⟩ (.int .i64 (wrap64 (a1_0 + a2_1)))).heap[gb109]? = some (.cells #[.int .i64 a1_0, .int .i64 (wrap64 (a1_0 + a2_1))] 44 (0, 0))) := ⟨by (with_reducible repeat (first | refine blk_drewN ?_ _ | refine blk_drew ?_ | refine blk_alloc ?_ _)); refine blk_put (cs := #[.int .i64 a1_0, .int .i64 a1_1]) ?_ 1 _ rfl; (with_reducible repeat (first | refine blk_drewN ?_ _ | refine blk_drew ?_ | refine blk_alloc ?_ _)); exact BK109.out⟩
            have n1_ : Aside0 ((wc.setCell ⟨gb109, 1, none⟩ (.int .i64 (wrap64 (a1_0 + a2_1)))).heap[gb110]? = some (.cells #[.int .i64 a2_0, .int .i64 a2_1] 26 (0, 0))) := ⟨by (with_reducible repeat (first | refine blk_drewN ?_ _ | refine blk_drew ?_ | refine blk_alloc ?_ _)); refine blk_far ?_ NB110_109.out _; (with_reducible repeat (first | refine blk_drewN ?_ _ | refine blk_drew ?_ | refine blk_alloc ?_ _)); exact BK110.out⟩
            have n2_ : Aside0 ((wc.setCell ⟨gb109, 1, none⟩ (.int .i64 (wrap64 (a1_0 + a2_1)))).heap[gb111]? = some (.cells #[.int .i64 0, .int .i64 0] 44 (0, 0))) := ⟨by (with_reducible repeat (first | refine blk_drewN ?_ _ | refine blk_drew ?_ | refine blk_alloc ?_ _)); refine blk_far ?_ NB111_109.out _; (with_reducible repeat (first | refine blk_drewN ?_ _ | refine blk_drew ?_ | refine blk_alloc ?_ _)); exact BK111.out⟩
            have n3_ : Aside0 ((wc.setCell ⟨gb109, 1, none⟩ (.int .i64 (wrap64 (a1_0 + a2_1)))).heap[gb112]? = some (.cells #[.int .i64 0, .int .i64 0, .string (⟨#[]⟩ : ByteArray)] 46 (0, 0))) := ⟨by (with_reducible repeat (first | refine blk_drewN ?_ _ | refine blk_drew ?_ | refine blk_alloc ?_ _)); refine blk_far ?_ NB112_109.out _; (with_reducible repeat (first | refine blk_drewN ?_ _ | refine blk_drew ?_ | refine blk_alloc ?_ _)); exact BK112.out⟩
            have n4_ : Aside0 ((wc.setCell ⟨gb109, 1, none⟩ (.int .i64 (wrap64 (a1_0 + a2_1)))).heap[gb113]? = some (.cells #[.int .i64 0, .int .i64 0, .string (⟨#[]⟩ : ByteArray)] 46 (0, 0))) := ⟨by (with_reducible repeat (first | refine blk_drewN ?_ _ | refine blk_drew ?_ | refine blk_alloc ?_ _)); refine blk_far ?_ NB113_109.out _; (with_reducible repeat (first | refine blk_drewN ?_ _ | refine blk_drew ?_ | refine blk_alloc ?_ _)); exact BK113.out⟩
            have n5_ : Aside0 (Below w.heap.size w (wc.setCell ⟨gb109, 1, none⟩ (.int .i64 (wrap64 (a1_0 + a2_1))))) := ⟨by repeat (first | (with_reducible first | exact HB.out | apply below_alloc | apply pw_below_drewN | apply below_drew1 | refine below_set ?_ GE109.out | refine below_set ?_ GE110.out | refine below_set ?_ GE111.out | refine below_set ?_ GE112.out | refine below_set ?_ GE113.out) | exact HB.out)⟩
            (try clear BK109)
            (try clear BK110)
            (try clear BK111)
            (try clear BK112)
            (try clear BK113)
            (try clear HB)
            generalize (wc.setCell ⟨gb109, 1, none⟩ (.int .i64 (wrap64 (a1_0 + a2_1)))) = w97 at n0_ n1_ n2_ n3_ n4_ n5_ ⊢
            have BK109 := n0_
            have BK110 := n1_
            have BK111 := n2_
            have BK112 := n3_
            have BK113 := n4_
            have HB := n5_
            clear n0_ n1_ n2_ n3_ n4_ n5_
            have n0_ := Aside0.mk (blk_drew BK109.out)
            have n1_ := Aside0.mk (blk_drew BK110.out)
            have n2_ := Aside0.mk (blk_drew BK111.out)
            have n3_ := Aside0.mk (blk_drew BK112.out)
            have n4_ := Aside0.mk (blk_drew BK113.out)
            have n5_ := Aside0.mk (below_drew1 HB.out)
            clear BK109
            clear BK110
            clear BK111
            clear BK112
            clear BK113
            clear HB
            have BK109 := n0_
            have BK110 := n1_
            have BK111 := n2_
            have BK112 := n3_
            have BK113 := n4_
            have HB := n5_
            clear n0_ n1_ n2_ n3_ n4_ n5_
            refine start_ (n := 6) (S := fun w' => w'.cell? ⟨gb109, 0, none⟩ = some (.int .i64 a1_0) ∧ w'.cell? ⟨gb109, 1, none⟩ = some (.int .i64 (wrap64 (a1_0 + a2_1))) ∧ w'.cell? ⟨gb113, 0, none⟩ = some (.int .i64 0) ∧ w'.cell? ⟨gb113, 1, none⟩ = some (.int .i64 0) ∧ w'.cell? ⟨gb113, 2, none⟩ = some (.string (⟨#[]⟩ : ByteArray))) (ds := []) #[false, false, false, false, false, false] (by kernel_rfl) rfl rfl ⟨(blk_cell BK109.out 0).trans rfl, (blk_cell BK109.out 1).trans rfl, (blk_cell BK113.out 0).trans rfl, (blk_cell BK113.out 1).trans rfl, (blk_cell BK113.out 2).trans rfl⟩ (fun hHeld => ?_)
            generalize w97.drew = w98 at BK109 BK110 BK111 BK112 BK113 HB hHeld ⊢
            refine pure_ (i := 2) (N := some 79) (v := ?_) (a' := ?_) #[false, false, true, false, false, false] rfl rfl (by kernel_rfl) (fun _ _ _ h => h) (Or.inl ⟨by rfl, ?_⟩) ?_ ?_
            rotate_left
            · intro w'
              go_simp
              with_reducible rfl
            rotate_left
            · simp only [Act.put, List.setIfInBounds_toArray, List.set_cons_zero, List.set_cons_succ, i64_w, i32_w]
              rfl
            refine take_ (i := 0) (N := some 77) (v := ?_) (a' := ?_) #[true, false, true, false, false, false] rfl rfl (by kernel_rfl) (fun _ _ _ h => h) (Or.inl ⟨by rfl, ?_⟩) hHeld ?_ ?_
            rotate_left
            · rintro w' ⟨s0, s1, s2, s3, s4⟩
              go_simp
              with_reducible rfl
            rotate_left
            · simp only [Act.put, List.setIfInBounds_toArray, List.set_cons_zero, List.set_cons_succ, i64_w, i32_w]
              rfl
            refine take_ (i := 1) (N := some 78) (v := ?_) (a' := ?_) #[true, true, true, false, false, false] rfl rfl (by kernel_rfl) (fun _ _ _ h => h) (Or.inl ⟨by rfl, ?_⟩) hHeld ?_ ?_
            rotate_left
            · rintro w' ⟨s0, s1, s2, s3, s4⟩
              go_simp
              with_reducible rfl
            rotate_left
            · simp only [Act.put, List.setIfInBounds_toArray, List.set_cons_zero, List.set_cons_succ, i64_w, i32_w]
              rfl
            refine one_ (i := 3) (N := none) #[true, true, true, true, false, false] rfl rfl (by kernel_rfl) (by decide) (fun K hK => ?_)
            have hs99 : w98.cell? ⟨gb111, 0, none⟩ = some (.int .i64 0) := (blk_cell BK111.out 0).trans rfl
            have hfs99 := blk_frozen BK111.out 0
            have hns99_0 := NB109_111.out
            have hns99_1 := NB110_111.out
            have hns99_3 := NB112_111.out
            have hns99_4 := NB113_111.out
            have hms99_0 := NB111_109.out
            have hms99_1 := NB111_110.out
            have hms99_3 := NB111_112.out
            have hms99_4 := NB111_113.out
            have hs100 : w98.cell? ⟨gb111, 1, none⟩ = some (.int .i64 0) := (blk_cell BK111.out 1).trans rfl
            have hfs100 := blk_frozen BK111.out 1
            have hns100_0 := NB109_111.out
            have hns100_1 := NB110_111.out
            have hns100_3 := NB112_111.out
            have hns100_4 := NB113_111.out
            have hms100_0 := NB111_109.out
            have hms100_1 := NB111_110.out
            have hms100_3 := NB111_112.out
            have hms100_4 := NB111_113.out
            refine skip_ (w1 := ?_) (by rfl) rfl ?_ ?_
            rotate_left
            · go_simp
              rfl
            refine hK.out _ _ ⟨((cell_far (p := ⟨gb111, _, none⟩) NB109_111.out _).trans (((cell_far (p := ⟨gb111, _, none⟩) NB109_111.out _).trans (hHeld.1)))), ((cell_far (p := ⟨gb111, _, none⟩) NB109_111.out _).trans (((cell_far (p := ⟨gb111, _, none⟩) NB109_111.out _).trans (hHeld.2.1)))), ((cell_far (p := ⟨gb111, _, none⟩) NB113_111.out _).trans (((cell_far (p := ⟨gb111, _, none⟩) NB113_111.out _).trans (hHeld.2.2.1)))), ((cell_far (p := ⟨gb111, _, none⟩) NB113_111.out _).trans (((cell_far (p := ⟨gb111, _, none⟩) NB113_111.out _).trans (hHeld.2.2.2.1)))), ((cell_far (p := ⟨gb111, _, none⟩) NB113_111.out _).trans (((cell_far (p := ⟨gb111, _, none⟩) NB113_111.out _).trans (hHeld.2.2.2.2))))⟩ (fun hHeld => ?_)
            clear hK K
            refine one_ (i := 4) (N := none) #[true, true, true, true, true, false] rfl rfl (by kernel_rfl) (by decide) (fun K hK => ?_)
            have hs101 : w98.cell? ⟨gb112, 0, none⟩ = some (.int .i64 0) := (blk_cell BK112.out 0).trans rfl
            have hfs101 := blk_frozen BK112.out 0
            have hns101_0 := NB109_112.out
            have hns101_1 := NB110_112.out
            have hns101_2 := NB111_112.out
            have hns101_4 := NB113_112.out
            have hms101_0 := NB112_109.out
            have hms101_1 := NB112_110.out
            have hms101_2 := NB112_111.out
            have hms101_4 := NB112_113.out
            have hs102 : w98.cell? ⟨gb112, 1, none⟩ = some (.int .i64 0) := (blk_cell BK112.out 1).trans rfl
            have hfs102 := blk_frozen BK112.out 1
            have hns102_0 := NB109_112.out
            have hns102_1 := NB110_112.out
            have hns102_2 := NB111_112.out
            have hns102_4 := NB113_112.out
            have hms102_0 := NB112_109.out
            have hms102_1 := NB112_110.out
            have hms102_2 := NB112_111.out
            have hms102_4 := NB112_113.out
            have hs103 : w98.cell? ⟨gb112, 2, none⟩ = some (.string (⟨#[]⟩ : ByteArray)) := (blk_cell BK112.out 2).trans rfl
            have hfs103 := blk_frozen BK112.out 2
            have hns103_0 := NB109_112.out
            have hns103_1 := NB110_112.out
            have hns103_2 := NB111_112.out
            have hns103_4 := NB113_112.out
            have hms103_0 := NB112_109.out
            have hms103_1 := NB112_110.out
            have hms103_2 := NB112_111.out
            have hms103_4 := NB112_113.out
            refine skip_ (w1 := ?_) (by rfl) rfl ?_ ?_
            rotate_left
            · go_simp
              rfl
            refine hK.out _ _ ⟨((cell_far (p := ⟨gb112, _, none⟩) NB109_112.out _).trans (((cell_far (p := ⟨gb112, _, none⟩) NB109_112.out _).trans (((cell_far (p := ⟨gb112, _, none⟩) NB109_112.out _).trans (hHeld.1)))))), ((cell_far (p := ⟨gb112, _, none⟩) NB109_112.out _).trans (((cell_far (p := ⟨gb112, _, none⟩) NB109_112.out _).trans (((cell_far (p := ⟨gb112, _, none⟩) NB109_112.out _).trans (hHeld.2.1)))))), ((cell_far (p := ⟨gb112, _, none⟩) NB113_112.out _).trans (((cell_far (p := ⟨gb112, _, none⟩) NB113_112.out _).trans (((cell_far (p := ⟨gb112, _, none⟩) NB113_112.out _).trans (hHeld.2.2.1)))))), ((cell_far (p := ⟨gb112, _, none⟩) NB113_112.out _).trans (((cell_far (p := ⟨gb112, _, none⟩) NB113_112.out _).trans (((cell_far (p := ⟨gb112, _, none⟩) NB113_112.out _).trans (hHeld.2.2.2.1)))))), ((cell_far (p := ⟨gb112, _, none⟩) NB113_112.out _).trans (((cell_far (p := ⟨gb112, _, none⟩) NB113_112.out _).trans (((cell_far (p := ⟨gb112, _, none⟩) NB113_112.out _).trans (hHeld.2.2.2.2))))))⟩ (fun hHeld => ?_)
            clear hK K
            refine pure_ (i := 5) (N := some 8) (v := ?_) (a' := ?_) #[true, true, true, true, true, true] rfl rfl (by kernel_rfl) (fun _ _ _ h => h) (Or.inl ⟨by rfl, ?_⟩) ?_ ?_
            rotate_left
            · intro w'
              go_simp
              with_reducible rfl
            rotate_left
            · simp only [Act.put, List.setIfInBounds_toArray, List.set_cons_zero, List.set_cons_succ, i64_w, i32_w]
              rfl
            refine done_ (by kernel_rfl) ?_
            try go_wp2
            refine bodyPost_ret (results_list (rs := [.cell 6 44, .cell 7 46, .tmp 8]) rfl (by simp) (.cell gb111 44 #[.int .i64 a1_0, .int .i64 (wrap64 (a1_0 + a2_1))] (0, 0) _ rfl (by (with_reducible repeat (first | refine blk_drewN ?_ _ | refine blk_drew ?_ | refine blk_alloc ?_ _)); refine blk_far ?_ NB111_112.out _; (with_reducible repeat (first | refine blk_drewN ?_ _ | refine blk_drew ?_ | refine blk_alloc ?_ _)); refine blk_far ?_ NB111_112.out _; (with_reducible repeat (first | refine blk_drewN ?_ _ | refine blk_drew ?_ | refine blk_alloc ?_ _)); refine blk_far ?_ NB111_112.out _; (with_reducible repeat (first | refine blk_drewN ?_ _ | refine blk_drew ?_ | refine blk_alloc ?_ _)); refine blk_put (cs := #[.int .i64 a1_0, .int .i64 0]) ?_ 1 _ rfl; (with_reducible repeat (first | refine blk_drewN ?_ _ | refine blk_drew ?_ | refine blk_alloc ?_ _)); refine blk_put (cs := #[.int .i64 0, .int .i64 0]) ?_ 0 _ rfl; (with_reducible repeat (first | refine blk_drewN ?_ _ | refine blk_drew ?_ | refine blk_alloc ?_ _)); exact BK111.out) Tryd.underlying44 rfl (by kernel_rfl) (.cell gb112 46 #[.int .i64 0, .int .i64 0, .string (⟨#[]⟩ : ByteArray)] (0, 0) _ rfl (by (with_reducible repeat (first | refine blk_drewN ?_ _ | refine blk_drew ?_ | refine blk_alloc ?_ _)); refine blk_put (cs := #[.int .i64 0, .int .i64 0, .string (⟨#[]⟩ : ByteArray)]) ?_ 2 _ rfl; (with_reducible repeat (first | refine blk_drewN ?_ _ | refine blk_drew ?_ | refine blk_alloc ?_ _)); refine blk_put (cs := #[.int .i64 0, .int .i64 0, .string (⟨#[]⟩ : ByteArray)]) ?_ 1 _ rfl; (with_reducible repeat (first | refine blk_drewN ?_ _ | refine blk_drew ?_ | refine blk_alloc ?_ _)); refine blk_put (cs := #[.int .i64 0, .int .i64 0, .string (⟨#[]⟩ : ByteArray)]) ?_ 0 _ rfl; (with_reducible repeat (first | refine blk_drewN ?_ _ | refine blk_drew ?_ | refine blk_alloc ?_ _)); refine blk_far ?_ NB112_111.out _; (with_reducible repeat (first | refine blk_drewN ?_ _ | refine blk_drew ?_ | refine blk_alloc ?_ _)); refine blk_far ?_ NB112_111.out _; (with_reducible repeat (first | refine blk_drewN ?_ _ | refine blk_drew ?_ | refine blk_alloc ?_ _)); exact BK112.out) Tryd.underlying46 rfl (by kernel_rfl) (.tmp .nil)))) rfl ?_
            exact ⟨by first | rfl | (simp [errW_none, errW_some] <;> rfl) | (simp [*, errW_none, errW_some] <;> rfl), by repeat (first | (with_reducible first | exact HB.out | apply below_alloc | apply pw_below_drewN | apply below_drew1 | refine below_set ?_ GE109.out | refine below_set ?_ GE110.out | refine below_set ?_ GE111.out | refine below_set ?_ GE112.out | refine below_set ?_ GE113.out) | exact HB.out)⟩
        · rw [if_neg c70] at H
          have c70b0 : (a2_0 == 1) = false := beq_eq_false_iff_ne.mpr c70
          have c70b1 : (a2_0 != 1) = true := bne_iff_ne.mpr c70
          by_cases c104 : a2_0 = 2
          · rw [if_pos c104] at H
            have c104b0 : (a2_0 == 2) = true := beq_iff_eq.mpr c104
            have c104b1 : (a2_0 != 2) = false := bne_eq_false_iff_eq.mpr c104
            clear c104
            by_cases c105 : 0 ≤ a1_0
            · rw [if_pos c105] at H
              have c105b0 := eq_true c105
              have c105b1 : decide (0 ≤ a1_0) = true := decide_eq_true c105
              clear c105
              by_cases c106 : a1_0 ≤ a1_1
              · rw [if_pos c106] at H
                have c106b0 := eq_true c106
                have c106b1 : decide (a1_0 ≤ a1_1) = true := decide_eq_true c106
                clear c106
                by_cases c107 : a1_1 ≤ (l0.length : Int)
                · rw [if_pos c107] at H
                  have c107b0 := eq_true c107
                  have c107b1 : decide (a1_1 ≤ (l0.length : Int)) = true := decide_eq_true c107
                  clear c107
                  simp only [Option.some.injEq, Prod.mk.injEq] at H
                  obtain ⟨rfl, rfl, rfl, rfl, rfl, rfl⟩ := H
                  have hnb108 := NB110_109.out
                  have hnc108 := NB109_110.out
                  have hnb109 := NB110_111.out
                  have hnc109 := NB111_110.out
                  have hnb110 := NB110_112.out
                  have hnc110 := NB112_110.out
                  have hnb111 := NB110_113.out
                  have hnc111 := NB113_110.out
                  have hcz112_0 : wc.cell? ⟨gb110, 0, none⟩ = some (.int .i64 a2_0) := (blk_cell BK110.out 0).trans rfl
                  have hcz112_1 : wc.cell? ⟨gb110, 1, none⟩ = some (.int .i64 a2_1) := (blk_cell BK110.out 1).trans rfl
                  have hfz112_0 := blk_frozen BK110.out 0
                  have hfz112_1 := blk_frozen BK110.out 1
                  have hnb113 := NB109_111.out
                  have hnc113 := NB111_109.out
                  have hnb114 := NB109_112.out
                  have hnc114 := NB112_109.out
                  have hnb115 := NB109_113.out
                  have hnc115 := NB113_109.out
                  have hcz116_0 : wc.cell? ⟨gb109, 0, none⟩ = some (.int .i64 a1_0) := (blk_cell BK109.out 0).trans rfl
                  have hcz116_1 : wc.cell? ⟨gb109, 1, none⟩ = some (.int .i64 a1_1) := (blk_cell BK109.out 1).trans rfl
                  have hfz116_0 := blk_frozen BK109.out 0
                  have hfz116_1 := blk_frozen BK109.out 1
                  obtain ⟨i0117, hi0117, _, hsz117, _⟩ := info_parts info5
                  obtain ⟨A117, hcut117, hA117, hC117⟩ := print_mid_of (P := Tryd.prog) (Value.int .u8) 0 22 5 .i64 .i64 Tryd.underlying22 hi0117 hsz117 A0 c0 l0 a1_0 a1_1 (of_decide_eq_true (by first | (with_reducible assumption) | assumption)) (by first | omega | exact of_decide_eq_true (by first | (with_reducible assumption) | assumption)) (of_decide_eq_true (by first | (with_reducible assumption) | assumption)) HC0.out
                  have HR114 := Aside0.mk (Kd.C_of_reads (h1 := fun _ => rfl) (hA117 _ (Kd.reads_of_C HR0.out)))
                  have HC114 := Aside0.mk hC117
                  clear hA117 hC117 hi0117 hsz117
                  have hcv118 := Kd.C_string (P := Tryd.prog) (A := A117) (c := (c0 - a1_0.toNat)) Tryd.underlying22 Tryd.underlying5 Tryd.underlying9 (Kd.C_below HR114.out HB.out)
                  have hln_ : (List.drop a1_0.toNat (List.take a1_1.toNat l0)).length = a1_1.toNat - a1_0.toNat := by
                    rw [List.length_drop, List.length_take]
                    have e1_ := of_eq_true c106b0
                    have e2_ := of_eq_true c107b0
                    omega
                  simp only [hln_] at hcut117 hcv118
                  clear hln_
                  have hnb119 := NB113_111.out
                  have hnc119 := NB111_113.out
                  have hnb120 := NB113_112.out
                  have hnc120 := NB112_113.out
                  have hcz121_0 : wc.cell? ⟨gb113, 0, none⟩ = some (.int .i64 0) := (blk_cell BK113.out 0).trans rfl
                  have hcz121_1 : wc.cell? ⟨gb113, 1, none⟩ = some (.int .i64 0) := (blk_cell BK113.out 1).trans rfl
                  have hcz121_2 : wc.cell? ⟨gb113, 2, none⟩ = some (.string (⟨#[]⟩ : ByteArray)) := (blk_cell BK113.out 2).trans rfl
                  have hfz121_0 := blk_frozen BK113.out 0
                  have hfz121_1 := blk_frozen BK113.out 1
                  have hfz121_2 := blk_frozen BK113.out 2
                  try go_wp2
                  have n0_ : Aside0 (((wc.setCell ⟨gb113, 2, none⟩ (.string (strOfNums ((l0.take (a1_1 : Int).toNat).drop (a1_0 : Int).toNat)))).setCell ⟨gb109, 0, none⟩ (.int .i64 a1_1)).heap[gb109]? = some (.cells #[.int .i64 a1_1, .int .i64 a1_1] 44 (0, 0))) := ⟨by (with_reducible repeat (first | refine blk_drewN ?_ _ | refine blk_drew ?_ | refine blk_alloc ?_ _)); refine blk_put (cs := #[.int .i64 a1_0, .int .i64 a1_1]) ?_ 0 _ rfl; (with_reducible repeat (first | refine blk_drewN ?_ _ | refine blk_drew ?_ | refine blk_alloc ?_ _)); refine blk_far ?_ NB109_113.out _; (with_reducible repeat (first | refine blk_drewN ?_ _ | refine blk_drew ?_ | refine blk_alloc ?_ _)); exact BK109.out⟩
                  have n1_ : Aside0 (((wc.setCell ⟨gb113, 2, none⟩ (.string (strOfNums ((l0.take (a1_1 : Int).toNat).drop (a1_0 : Int).toNat)))).setCell ⟨gb109, 0, none⟩ (.int .i64 a1_1)).heap[gb110]? = some (.cells #[.int .i64 a2_0, .int .i64 a2_1] 26 (0, 0))) := ⟨by (with_reducible repeat (first | refine blk_drewN ?_ _ | refine blk_drew ?_ | refine blk_alloc ?_ _)); refine blk_far ?_ NB110_109.out _; (with_reducible repeat (first | refine blk_drewN ?_ _ | refine blk_drew ?_ | refine blk_alloc ?_ _)); refine blk_far ?_ NB110_113.out _; (with_reducible repeat (first | refine blk_drewN ?_ _ | refine blk_drew ?_ | refine blk_alloc ?_ _)); exact BK110.out⟩
                  have n2_ : Aside0 (((wc.setCell ⟨gb113, 2, none⟩ (.string (strOfNums ((l0.take (a1_1 : Int).toNat).drop (a1_0 : Int).toNat)))).setCell ⟨gb109, 0, none⟩ (.int .i64 a1_1)).heap[gb111]? = some (.cells #[.int .i64 0, .int .i64 0] 44 (0, 0))) := ⟨by (with_reducible repeat (first | refine blk_drewN ?_ _ | refine blk_drew ?_ | refine blk_alloc ?_ _)); refine blk_far ?_ NB111_109.out _; (with_reducible repeat (first | refine blk_drewN ?_ _ | refine blk_drew ?_ | refine blk_alloc ?_ _)); refine blk_far ?_ NB111_113.out _; (with_reducible repeat (first | refine blk_drewN ?_ _ | refine blk_drew ?_ | refine blk_alloc ?_ _)); exact BK111.out⟩
                  have n3_ : Aside0 (((wc.setCell ⟨gb113, 2, none⟩ (.string (strOfNums ((l0.take (a1_1 : Int).toNat).drop (a1_0 : Int).toNat)))).setCell ⟨gb109, 0, none⟩ (.int .i64 a1_1)).heap[gb112]? = some (.cells #[.int .i64 0, .int .i64 0, .string (⟨#[]⟩ : ByteArray)] 46 (0, 0))) := ⟨by (with_reducible repeat (first | refine blk_drewN ?_ _ | refine blk_drew ?_ | refine blk_alloc ?_ _)); refine blk_far ?_ NB112_109.out _; (with_reducible repeat (first | refine blk_drewN ?_ _ | refine blk_drew ?_ | refine blk_alloc ?_ _)); refine blk_far ?_ NB112_113.out _; (with_reducible repeat (first | refine blk_drewN ?_ _ | refine blk_drew ?_ | refine blk_alloc ?_ _)); exact BK112.out⟩
                  have n4_ : Aside0 (((wc.setCell ⟨gb113, 2, none⟩ (.string (strOfNums ((l0.take (a1_1 : Int).toNat).drop (a1_0 : Int).toNat)))).setCell ⟨gb109, 0, none⟩ (.int .i64 a1_1)).heap[gb113]? = some (.cells #[.int .i64 0, .int .i64 0, .string (strOfNums ((l0.take (a1_1 : Int).toNat).drop (a1_0 : Int).toNat))] 46 (0, 0))) := ⟨by (with_reducible repeat (first | refine blk_drewN ?_ _ | refine blk_drew ?_ | refine blk_alloc ?_ _)); refine blk_far ?_ NB113_109.out _; (with_reducible repeat (first | refine blk_drewN ?_ _ | refine blk_drew ?_ | refine blk_alloc ?_ _)); refine blk_put (cs := #[.int .i64 0, .int .i64 0, .string (⟨#[]⟩ : ByteArray)]) ?_ 2 _ rfl; (with_reducible repeat (first | refine blk_drewN ?_ _ | refine blk_drew ?_ | refine blk_alloc ?_ _)); exact BK113.out⟩
                  have n5_ : Aside0 (Below w.heap.size w ((wc.setCell ⟨gb113, 2, none⟩ (.string (strOfNums ((l0.take (a1_1 : Int).toNat).drop (a1_0 : Int).toNat)))).setCell ⟨gb109, 0, none⟩ (.int .i64 a1_1))) := ⟨by repeat (first | (with_reducible first | exact HB.out | apply below_alloc | apply pw_below_drewN | apply below_drew1 | refine below_set ?_ GE109.out | refine below_set ?_ GE110.out | refine below_set ?_ GE111.out | refine below_set ?_ GE112.out | refine below_set ?_ GE113.out) | exact HB.out)⟩
                  (try clear BK109)
                  (try clear BK110)
                  (try clear BK111)
                  (try clear BK112)
                  (try clear BK113)
                  (try clear HB)
                  generalize ((wc.setCell ⟨gb113, 2, none⟩ (.string (strOfNums ((l0.take (a1_1 : Int).toNat).drop (a1_0 : Int).toNat)))).setCell ⟨gb109, 0, none⟩ (.int .i64 a1_1)) = w122 at n0_ n1_ n2_ n3_ n4_ n5_ ⊢
                  have BK109 := n0_
                  have BK110 := n1_
                  have BK111 := n2_
                  have BK112 := n3_
                  have BK113 := n4_
                  have HB := n5_
                  clear n0_ n1_ n2_ n3_ n4_ n5_
                  have n0_ := Aside0.mk (blk_drew BK109.out)
                  have n1_ := Aside0.mk (blk_drew BK110.out)
                  have n2_ := Aside0.mk (blk_drew BK111.out)
                  have n3_ := Aside0.mk (blk_drew BK112.out)
                  have n4_ := Aside0.mk (blk_drew BK113.out)
                  have n5_ := Aside0.mk (below_drew1 HB.out)
                  clear BK109
                  clear BK110
                  clear BK111
                  clear BK112
                  clear BK113
                  clear HB
                  have BK109 := n0_
                  have BK110 := n1_
                  have BK111 := n2_
                  have BK112 := n3_
                  have BK113 := n4_
                  have HB := n5_
                  clear n0_ n1_ n2_ n3_ n4_ n5_
                  refine start_ (n := 5) (S := fun w' => w'.cell? ⟨gb109, 0, none⟩ = some (.int .i64 a1_1) ∧ w'.cell? ⟨gb109, 1, none⟩ = some (.int .i64 a1_1) ∧ w'.cell? ⟨gb113, 0, none⟩ = some (.int .i64 0) ∧ w'.cell? ⟨gb113, 1, none⟩ = some (.int .i64 0) ∧ w'.cell? ⟨gb113, 2, none⟩ = some (.string (strOfNums ((l0.take (a1_1 : Int).toNat).drop (a1_0 : Int).toNat)))) (ds := []) #[false, false, false, false, false] (by kernel_rfl) rfl rfl ⟨(blk_cell BK109.out 0).trans rfl, (blk_cell BK109.out 1).trans rfl, (blk_cell BK113.out 0).trans rfl, (blk_cell BK113.out 1).trans rfl, (blk_cell BK113.out 2).trans rfl⟩ (fun hHeld => ?_)
                  generalize w122.drew = w123 at BK109 BK110 BK111 BK112 BK113 HB hHeld ⊢
                  refine take_ (i := 0) (N := some 191) (v := ?_) (a' := ?_) #[true, false, false, false, false] rfl rfl (by kernel_rfl) (fun _ _ _ h => h) (Or.inl ⟨by rfl, ?_⟩) hHeld ?_ ?_
                  rotate_left
                  · rintro w' ⟨s0, s1, s2, s3, s4⟩
                    go_simp
                    with_reducible rfl
                  rotate_left
                  · simp only [Act.put, List.setIfInBounds_toArray, List.set_cons_zero, List.set_cons_succ, i64_w, i32_w]
                    rfl
                  refine take_ (i := 1) (N := some 192) (v := ?_) (a' := ?_) #[true, true, false, false, false] rfl rfl (by kernel_rfl) (fun _ _ _ h => h) (Or.inl ⟨by rfl, ?_⟩) hHeld ?_ ?_
                  rotate_left
                  · rintro w' ⟨s0, s1, s2, s3, s4⟩
                    go_simp
                    with_reducible rfl
                  rotate_left
                  · simp only [Act.put, List.setIfInBounds_toArray, List.set_cons_zero, List.set_cons_succ, i64_w, i32_w]
                    rfl
                  refine one_ (i := 2) (N := none) #[true, true, true, false, false] rfl rfl (by kernel_rfl) (by decide) (fun K hK => ?_)
                  have hs124 : w123.cell? ⟨gb111, 0, none⟩ = some (.int .i64 0) := (blk_cell BK111.out 0).trans rfl
                  have hfs124 := blk_frozen BK111.out 0
                  have hns124_0 := NB109_111.out
                  have hns124_1 := NB110_111.out
                  have hns124_3 := NB112_111.out
                  have hns124_4 := NB113_111.out
                  have hms124_0 := NB111_109.out
                  have hms124_1 := NB111_110.out
                  have hms124_3 := NB111_112.out
                  have hms124_4 := NB111_113.out
                  have hs125 : w123.cell? ⟨gb111, 1, none⟩ = some (.int .i64 0) := (blk_cell BK111.out 1).trans rfl
                  have hfs125 := blk_frozen BK111.out 1
                  have hns125_0 := NB109_111.out
                  have hns125_1 := NB110_111.out
                  have hns125_3 := NB112_111.out
                  have hns125_4 := NB113_111.out
                  have hms125_0 := NB111_109.out
                  have hms125_1 := NB111_110.out
                  have hms125_3 := NB111_112.out
                  have hms125_4 := NB111_113.out
                  refine skip_ (w1 := ?_) (by rfl) rfl ?_ ?_
                  rotate_left
                  · go_simp
                    rfl
                  refine hK.out _ _ ⟨((cell_far (p := ⟨gb111, _, none⟩) NB109_111.out _).trans (((cell_far (p := ⟨gb111, _, none⟩) NB109_111.out _).trans (hHeld.1)))), ((cell_far (p := ⟨gb111, _, none⟩) NB109_111.out _).trans (((cell_far (p := ⟨gb111, _, none⟩) NB109_111.out _).trans (hHeld.2.1)))), ((cell_far (p := ⟨gb111, _, none⟩) NB113_111.out _).trans (((cell_far (p := ⟨gb111, _, none⟩) NB113_111.out _).trans (hHeld.2.2.1)))), ((cell_far (p := ⟨gb111, _, none⟩) NB113_111.out _).trans (((cell_far (p := ⟨gb111, _, none⟩) NB113_111.out _).trans (hHeld.2.2.2.1)))), ((cell_far (p := ⟨gb111, _, none⟩) NB113_111.out _).trans (((cell_far (p := ⟨gb111, _, none⟩) NB113_111.out _).trans (hHeld.2.2.2.2))))⟩ (fun hHeld => ?_)
                  clear hK K
                  refine one_ (i := 3) (N := none) #[true, true, true, true, false] rfl rfl (by kernel_rfl) (by decide) (fun K hK => ?_)
                  have hs126 : w123.cell? ⟨gb112, 0, none⟩ = some (.int .i64 0) := (blk_cell BK112.out 0).trans rfl
                  have hfs126 := blk_frozen BK112.out 0
                  have hns126_0 := NB109_112.out
                  have hns126_1 := NB110_112.out
                  have hns126_2 := NB111_112.out
                  have hns126_4 := NB113_112.out
                  have hms126_0 := NB112_109.out
                  have hms126_1 := NB112_110.out
                  have hms126_2 := NB112_111.out
                  have hms126_4 := NB112_113.out
                  have hs127 : w123.cell? ⟨gb112, 1, none⟩ = some (.int .i64 0) := (blk_cell BK112.out 1).trans rfl
                  have hfs127 := blk_frozen BK112.out 1
                  have hns127_0 := NB109_112.out
                  have hns127_1 := NB110_112.out
                  have hns127_2 := NB111_112.out
                  have hns127_4 := NB113_112.out
                  have hms127_0 := NB112_109.out
                  have hms127_1 := NB112_110.out
                  have hms127_2 := NB112_111.out
                  have hms127_4 := NB112_113.out
                  have hs128 : w123.cell? ⟨gb112, 2, none⟩ = some (.string (⟨#[]⟩ : ByteArray)) := (blk_cell BK112.out 2).trans rfl
                  have hfs128 := blk_frozen BK112.out 2
                  have hns128_0 := NB109_112.out
                  have hns128_1 := NB110_112.out
                  have hns128_2 := NB111_112.out
                  have hns128_4 := NB113_112.out
                  have hms128_0 := NB112_109.out
                  have hms128_1 := NB112_110.out
                  have hms128_2 := NB112_111.out
                  have hms128_4 := NB112_113.out
                  refine skip_ (w1 := ?_) (by rfl) rfl ?_ ?_
                  rotate_left
                  · go_simp
                    rfl
                  refine hK.out _ _ ⟨((cell_far (p := ⟨gb112, _, none⟩) NB109_112.out _).trans (((cell_far (p := ⟨gb112, _, none⟩) NB109_112.out _).trans (((cell_far (p := ⟨gb112, _, none⟩) NB109_112.out _).trans (hHeld.1)))))), ((cell_far (p := ⟨gb112, _, none⟩) NB109_112.out _).trans (((cell_far (p := ⟨gb112, _, none⟩) NB109_112.out _).trans (((cell_far (p := ⟨gb112, _, none⟩) NB109_112.out _).trans (hHeld.2.1)))))), ((cell_far (p := ⟨gb112, _, none⟩) NB113_112.out _).trans (((cell_far (p := ⟨gb112, _, none⟩) NB113_112.out _).trans (((cell_far (p := ⟨gb112, _, none⟩) NB113_112.out _).trans (hHeld.2.2.1)))))), ((cell_far (p := ⟨gb112, _, none⟩) NB113_112.out _).trans (((cell_far (p := ⟨gb112, _, none⟩) NB113_112.out _).trans (((cell_far (p := ⟨gb112, _, none⟩) NB113_112.out _).trans (hHeld.2.2.2.1)))))), ((cell_far (p := ⟨gb112, _, none⟩) NB113_112.out _).trans (((cell_far (p := ⟨gb112, _, none⟩) NB113_112.out _).trans (((cell_far (p := ⟨gb112, _, none⟩) NB113_112.out _).trans (hHeld.2.2.2.2))))))⟩ (fun hHeld => ?_)
                  clear hK K
                  refine pure_ (i := 4) (N := some 8) (v := ?_) (a' := ?_) #[true, true, true, true, true] rfl rfl (by kernel_rfl) (fun _ _ _ h => h) (Or.inl ⟨by rfl, ?_⟩) ?_ ?_
                  rotate_left
                  · intro w'
                    go_simp
                    with_reducible rfl
                  rotate_left
                  · simp only [Act.put, List.setIfInBounds_toArray, List.set_cons_zero, List.set_cons_succ, i64_w, i32_w]
                    rfl
                  refine done_ (by kernel_rfl) ?_
                  try go_wp2
                  refine bodyPost_ret (results_list (rs := [.cell 6 44, .cell 7 46, .tmp 8]) rfl (by simp) (.cell gb111 44 #[.int .i64 a1_1, .int .i64 a1_1] (0, 0) _ rfl (by (with_reducible repeat (first | refine blk_drewN ?_ _ | refine blk_drew ?_ | refine blk_alloc ?_ _)); refine blk_far ?_ NB111_112.out _; (with_reducible repeat (first | refine blk_drewN ?_ _ | refine blk_drew ?_ | refine blk_alloc ?_ _)); refine blk_far ?_ NB111_112.out _; (with_reducible repeat (first | refine blk_drewN ?_ _ | refine blk_drew ?_ | refine blk_alloc ?_ _)); refine blk_far ?_ NB111_112.out _; (with_reducible repeat (first | refine blk_drewN ?_ _ | refine blk_drew ?_ | refine blk_alloc ?_ _)); refine blk_put (cs := #[.int .i64 a1_1, .int .i64 0]) ?_ 1 _ rfl; (with_reducible repeat (first | refine blk_drewN ?_ _ | refine blk_drew ?_ | refine blk_alloc ?_ _)); refine blk_put (cs := #[.int .i64 0, .int .i64 0]) ?_ 0 _ rfl; (with_reducible repeat (first | refine blk_drewN ?_ _ | refine blk_drew ?_ | refine blk_alloc ?_ _)); exact BK111.out) Tryd.underlying44 rfl (by kernel_rfl) (.cell gb112 46 #[.int .i64 0, .int .i64 0, .string (strOfNums ((l0.take (a1_1 : Int).toNat).drop (a1_0 : Int).toNat))] (0, 0) _ rfl (by (with_reducible repeat (first | refine blk_drewN ?_ _ | refine blk_drew ?_ | refine blk_alloc ?_ _)); refine blk_put (cs := #[.int .i64 0, .int .i64 0, .string (⟨#[]⟩ : ByteArray)]) ?_ 2 _ rfl; (with_reducible repeat (first | refine blk_drewN ?_ _ | refine blk_drew ?_ | refine blk_alloc ?_ _)); refine blk_put (cs := #[.int .i64 0, .int .i64 0, .string (⟨#[]⟩ : ByteArray)]) ?_ 1 _ rfl; (with_reducible repeat (first | refine blk_drewN ?_ _ | refine blk_drew ?_ | refine blk_alloc ?_ _)); refine blk_put (cs := #[.int .i64 0, .int .i64 0, .string (⟨#[]⟩ : ByteArray)]) ?_ 0 _ rfl; (with_reducible repeat (first | refine blk_drewN ?_ _ | refine blk_drew ?_ | refine blk_alloc ?_ _)); refine blk_far ?_ NB112_111.out _; (with_reducible repeat (first | refine blk_drewN ?_ _ | refine blk_drew ?_ | refine blk_alloc ?_ _)); refine blk_far ?_ NB112_111.out _; (with_reducible repeat (first | refine blk_drewN ?_ _ | refine blk_drew ?_ | refine blk_alloc ?_ _)); exact BK112.out) Tryd.underlying46 rfl (by kernel_rfl) (.tmp .nil)))) rfl ?_
                  exact ⟨by first | rfl | (simp [errW_none, errW_some] <;> rfl) | (simp [*, errW_none, errW_some] <;> rfl), by repeat (first | (with_reducible first | exact HB.out | apply below_alloc | apply pw_below_drewN | apply below_drew1 | refine below_set ?_ GE109.out | refine below_set ?_ GE110.out | refine below_set ?_ GE111.out | refine below_set ?_ GE112.out | refine below_set ?_ GE113.out) | exact HB.out)⟩
                · rw [if_neg c107] at H
                  exact absurd H (by simp)
              · rw [if_neg c106] at H
                exact absurd H (by simp)
            · rw [if_neg c105] at H
              exact absurd H (by simp)
          · rw [if_neg c104] at H
            have c104b0 : (a2_0 == 2) = false := beq_eq_false_iff_ne.mpr c104
            have c104b1 : (a2_0 != 2) = true := bne_iff_ne.mpr c104
            by_cases c129 : a2_0 = 3
            · rw [if_pos c129] at H
              have c129b0 : (a2_0 == 3) = true := beq_iff_eq.mpr c129
              have c129b1 : (a2_0 != 3) = false := bne_eq_false_iff_eq.mpr c129
              clear c129
              simp only [Option.some.injEq, Prod.mk.injEq] at H
              obtain ⟨rfl, rfl, rfl, rfl, rfl, rfl⟩ := H
              have hnb130 := NB110_109.out
              have hnc130 := NB109_110.out
              have hnb131 := NB110_111.out
              have hnc131 := NB111_110.out
              have hnb132 := NB110_112.out
              have hnc132 := NB112_110.out
              have hnb133 := NB110_113.out
              have hnc133 := NB113_110.out
              have hcz134_0 : wc.cell? ⟨gb110, 0, none⟩ = some (.int .i64 a2_0) := (blk_cell BK110.out 0).trans rfl
              have hcz134_1 : wc.cell? ⟨gb110, 1, none⟩ = some (.int .i64 a2_1) := (blk_cell BK110.out 1).trans rfl
              have hfz134_0 := blk_frozen BK110.out 0
              have hfz134_1 := blk_frozen BK110.out 1
              have hnb135 := NB109_111.out
              have hnc135 := NB111_109.out
              have hnb136 := NB109_112.out
              have hnc136 := NB112_109.out
              have hnb137 := NB109_113.out
              have hnc137 := NB113_109.out
              have hcz138_0 : wc.cell? ⟨gb109, 0, none⟩ = some (.int .i64 a1_0) := (blk_cell BK109.out 0).trans rfl
              have hcz138_1 : wc.cell? ⟨gb109, 1, none⟩ = some (.int .i64 a1_1) := (blk_cell BK109.out 1).trans rfl
              have hfz138_0 := blk_frozen BK109.out 0
              have hfz138_1 := blk_frozen BK109.out 1
              try go_wp2
              have n0_ : Aside0 ((wc.setCell ⟨gb109, 0, none⟩ (.int .i64 a1_1)).heap[gb109]? = some (.cells #[.int .i64 a1_1, .int .i64 a1_1] 44 (0, 0))) := ⟨by (with_reducible repeat (first | refine blk_drewN ?_ _ | refine blk_drew ?_ | refine blk_alloc ?_ _)); refine blk_put (cs := #[.int .i64 a1_0, .int .i64 a1_1]) ?_ 0 _ rfl; (with_reducible repeat (first | refine blk_drewN ?_ _ | refine blk_drew ?_ | refine blk_alloc ?_ _)); exact BK109.out⟩
              have n1_ : Aside0 ((wc.setCell ⟨gb109, 0, none⟩ (.int .i64 a1_1)).heap[gb110]? = some (.cells #[.int .i64 a2_0, .int .i64 a2_1] 26 (0, 0))) := ⟨by (with_reducible repeat (first | refine blk_drewN ?_ _ | refine blk_drew ?_ | refine blk_alloc ?_ _)); refine blk_far ?_ NB110_109.out _; (with_reducible repeat (first | refine blk_drewN ?_ _ | refine blk_drew ?_ | refine blk_alloc ?_ _)); exact BK110.out⟩
              have n2_ : Aside0 ((wc.setCell ⟨gb109, 0, none⟩ (.int .i64 a1_1)).heap[gb111]? = some (.cells #[.int .i64 0, .int .i64 0] 44 (0, 0))) := ⟨by (with_reducible repeat (first | refine blk_drewN ?_ _ | refine blk_drew ?_ | refine blk_alloc ?_ _)); refine blk_far ?_ NB111_109.out _; (with_reducible repeat (first | refine blk_drewN ?_ _ | refine blk_drew ?_ | refine blk_alloc ?_ _)); exact BK111.out⟩
              have n3_ : Aside0 ((wc.setCell ⟨gb109, 0, none⟩ (.int .i64 a1_1)).heap[gb112]? = some (.cells #[.int .i64 0, .int .i64 0, .string (⟨#[]⟩ : ByteArray)] 46 (0, 0))) := ⟨by (with_reducible repeat (first | refine blk_drewN ?_ _ | refine blk_drew ?_ | refine blk_alloc ?_ _)); refine blk_far ?_ NB112_109.out _; (with_reducible repeat (first | refine blk_drewN ?_ _ | refine blk_drew ?_ | refine blk_alloc ?_ _)); exact BK112.out⟩
              have n4_ : Aside0 ((wc.setCell ⟨gb109, 0, none⟩ (.int .i64 a1_1)).heap[gb113]? = some (.cells #[.int .i64 0, .int .i64 0, .string (⟨#[]⟩ : ByteArray)] 46 (0, 0))) := ⟨by (with_reducible repeat (first | refine blk_drewN ?_ _ | refine blk_drew ?_ | refine blk_alloc ?_ _)); refine blk_far ?_ NB113_109.out _; (with_reducible repeat (first | refine blk_drewN ?_ _ | refine blk_drew ?_ | refine blk_alloc ?_ _)); exact BK113.out⟩
              have n5_ : Aside0 (Below w.heap.size w (wc.setCell ⟨gb109, 0, none⟩ (.int .i64 a1_1))) := ⟨by repeat (first | (with_reducible first | exact HB.out | apply below_alloc | apply pw_below_drewN | apply below_drew1 | refine below_set ?_ GE109.out | refine below_set ?_ GE110.out | refine below_set ?_ GE111.out | refine below_set ?_ GE112.out | refine below_set ?_ GE113.out) | exact HB.out)⟩
              (try clear BK109)
              (try clear BK110)
              (try clear BK111)
              (try clear BK112)
              (try clear BK113)
              (try clear HB)
              generalize (wc.setCell ⟨gb109, 0, none⟩ (.int .i64 a1_1)) = w139 at n0_ n1_ n2_ n3_ n4_ n5_ ⊢
              have BK109 := n0_
              have BK110 := n1_
              have BK111 := n2_
              have BK112 := n3_
              have BK113 := n4_
              have HB := n5_
              clear n0_ n1_ n2_ n3_ n4_ n5_
              have n0_ := Aside0.mk (blk_drew BK109.out)
              have n1_ := Aside0.mk (blk_drew BK110.out)
              have n2_ := Aside0.mk (blk_drew BK111.out)
              have n3_ := Aside0.mk (blk_drew BK112.out)
              have n4_ := Aside0.mk (blk_drew BK113.out)
              have n5_ := Aside0.mk (below_drew1 HB.out)
              clear BK109
              clear BK110
              clear BK111
              clear BK112
              clear BK113
              clear HB
              have BK109 := n0_
              have BK110 := n1_
              have BK111 := n2_
              have BK112 := n3_
              have BK113 := n4_
              have HB := n5_
              clear n0_ n1_ n2_ n3_ n4_ n5_
              refine start_ (n := 5) (S := fun w' => w'.cell? ⟨gb109, 0, none⟩ = some (.int .i64 a1_1) ∧ w'.cell? ⟨gb109, 1, none⟩ = some (.int .i64 a1_1) ∧ w'.cell? ⟨gb113, 0, none⟩ = some (.int .i64 0) ∧ w'.cell? ⟨gb113, 1, none⟩ = some (.int .i64 0) ∧ w'.cell? ⟨gb113, 2, none⟩ = some (.string (⟨#[]⟩ : ByteArray))) (ds := []) #[false, false, false, false, false] (by kernel_rfl) rfl rfl ⟨(blk_cell BK109.out 0).trans rfl, (blk_cell BK109.out 1).trans rfl, (blk_cell BK113.out 0).trans rfl, (blk_cell BK113.out 1).trans rfl, (blk_cell BK113.out 2).trans rfl⟩ (fun hHeld => ?_)
              generalize w139.drew = w140 at BK109 BK110 BK111 BK112 BK113 HB hHeld ⊢
              refine take_ (i := 0) (N := some 191) (v := ?_) (a' := ?_) #[true, false, false, false, false] rfl rfl (by kernel_rfl) (fun _ _ _ h => h) (Or.inl ⟨by rfl, ?_⟩) hHeld ?_ ?_
              rotate_left
              · rintro w' ⟨s0, s1, s2, s3, s4⟩
                go_simp
                with_reducible rfl
              rotate_left
              · simp only [Act.put, List.setIfInBounds_toArray, List.set_cons_zero, List.set_cons_succ, i64_w, i32_w]
                rfl
              refine take_ (i := 1) (N := some 192) (v := ?_) (a' := ?_) #[true, true, false, false, false] rfl rfl (by kernel_rfl) (fun _ _ _ h => h) (Or.inl ⟨by rfl, ?_⟩) hHeld ?_ ?_
              rotate_left
              · rintro w' ⟨s0, s1, s2, s3, s4⟩
                go_simp
                with_reducible rfl
              rotate_left
              · simp only [Act.put, List.setIfInBounds_toArray, List.set_cons_zero, List.set_cons_succ, i64_w, i32_w]
                rfl
              refine one_ (i := 2) (N := none) #[true, true, true, false, false] rfl rfl (by kernel_rfl) (by decide) (fun K hK => ?_)
              have hs141 : w140.cell? ⟨gb111, 0, none⟩ = some (.int .i64 0) := (blk_cell BK111.out 0).trans rfl
              have hfs141 := blk_frozen BK111.out 0
              have hns141_0 := NB109_111.out
              have hns141_1 := NB110_111.out
              have hns141_3 := NB112_111.out
              have hns141_4 := NB113_111.out
              have hms141_0 := NB111_109.out
              have hms141_1 := NB111_110.out
              have hms141_3 := NB111_112.out
              have hms141_4 := NB111_113.out
              have hs142 : w140.cell? ⟨gb111, 1, none⟩ = some (.int .i64 0) := (blk_cell BK111.out 1).trans rfl
              have hfs142 := blk_frozen BK111.out 1
              have hns142_0 := NB109_111.out
              have hns142_1 := NB110_111.out
              have hns142_3 := NB112_111.out
              have hns142_4 := NB113_111.out
              have hms142_0 := NB111_109.out
              have hms142_1 := NB111_110.out
              have hms142_3 := NB111_112.out
              have hms142_4 := NB111_113.out
              refine skip_ (w1 := ?_) (by rfl) rfl ?_ ?_
              rotate_left
              · go_simp
                rfl
              refine hK.out _ _ ⟨((cell_far (p := ⟨gb111, _, none⟩) NB109_111.out _).trans (((cell_far (p := ⟨gb111, _, none⟩) NB109_111.out _).trans (hHeld.1)))), ((cell_far (p := ⟨gb111, _, none⟩) NB109_111.out _).trans (((cell_far (p := ⟨gb111, _, none⟩) NB109_111.out _).trans (hHeld.2.1)))), ((cell_far (p := ⟨gb111, _, none⟩) NB113_111.out _).trans (((cell_far (p := ⟨gb111, _, none⟩) NB113_111.out _).trans (hHeld.2.2.1)))), ((cell_far (p := ⟨gb111, _, none⟩) NB113_111.out _).trans (((cell_far (p := ⟨gb111, _, none⟩) NB113_111.out _).trans (hHeld.2.2.2.1)))), ((cell_far (p := ⟨gb111, _, none⟩) NB113_111.out _).trans (((cell_far (p := ⟨gb111, _, none⟩) NB113_111.out _).trans (hHeld.2.2.2.2))))⟩ (fun hHeld => ?_)
              clear hK K
              refine one_ (i := 3) (N := none) #[true, true, true, true, false] rfl rfl (by kernel_rfl) (by decide) (fun K hK => ?_)
              have hs143 : w140.cell? ⟨gb112, 0, none⟩ = some (.int .i64 0) := (blk_cell BK112.out 0).trans rfl
              have hfs143 := blk_frozen BK112.out 0
              have hns143_0 := NB109_112.out
              have hns143_1 := NB110_112.out
              have hns143_2 := NB111_112.out
              have hns143_4 := NB113_112.out
              have hms143_0 := NB112_109.out
              have hms143_1 := NB112_110.out
              have hms143_2 := NB112_111.out
              have hms143_4 := NB112_113.out
              have hs144 : w140.cell? ⟨gb112, 1, none⟩ = some (.int .i64 0) := (blk_cell BK112.out 1).trans rfl
              have hfs144 := blk_frozen BK112.out 1
              have hns144_0 := NB109_112.out
              have hns144_1 := NB110_112.out
              have hns144_2 := NB111_112.out
              have hns144_4 := NB113_112.out
              have hms144_0 := NB112_109.out
              have hms144_1 := NB112_110.out
              have hms144_2 := NB112_111.out
              have hms144_4 := NB112_113.out
              have hs145 : w140.cell? ⟨gb112, 2, none⟩ = some (.string (⟨#[]⟩ : ByteArray)) := (blk_cell BK112.out 2).trans rfl
              have hfs145 := blk_frozen BK112.out 2
              have hns145_0 := NB109_112.out
              have hns145_1 := NB110_112.out
              have hns145_2 := NB111_112.out
              have hns145_4 := NB113_112.out
              have hms145_0 := NB112_109.out
              have hms145_1 := NB112_110.out
              have hms145_2 := NB112_111.out
              have hms145_4 := NB112_113.out
              refine skip_ (w1 := ?_) (by rfl) rfl ?_ ?_
              rotate_left
              · go_simp
                rfl
              refine hK.out _ _ ⟨((cell_far (p := ⟨gb112, _, none⟩) NB109_112.out _).trans (((cell_far (p := ⟨gb112, _, none⟩) NB109_112.out _).trans (((cell_far (p := ⟨gb112, _, none⟩) NB109_112.out _).trans (hHeld.1)))))), ((cell_far (p := ⟨gb112, _, none⟩) NB109_112.out _).trans (((cell_far (p := ⟨gb112, _, none⟩) NB109_112.out _).trans (((cell_far (p := ⟨gb112, _, none⟩) NB109_112.out _).trans (hHeld.2.1)))))), ((cell_far (p := ⟨gb112, _, none⟩) NB113_112.out _).trans (((cell_far (p := ⟨gb112, _, none⟩) NB113_112.out _).trans (((cell_far (p := ⟨gb112, _, none⟩) NB113_112.out _).trans (hHeld.2.2.1)))))), ((cell_far (p := ⟨gb112, _, none⟩) NB113_112.out _).trans (((cell_far (p := ⟨gb112, _, none⟩) NB113_112.out _).trans (((cell_far (p := ⟨gb112, _, none⟩) NB113_112.out _).trans (hHeld.2.2.2.1)))))), ((cell_far (p := ⟨gb112, _, none⟩) NB113_112.out _).trans (((cell_far (p := ⟨gb112, _, none⟩) NB113_112.out _).trans (((cell_far (p := ⟨gb112, _, none⟩) NB113_112.out _).trans (hHeld.2.2.2.2))))))⟩ (fun hHeld => ?_)
              clear hK K
              refine pure_ (i := 4) (N := some 8) (v := ?_) (a' := ?_) #[true, true, true, true, true] rfl rfl (by kernel_rfl) (fun _ _ _ h => h) (Or.inl ⟨by rfl, ?_⟩) ?_ ?_
              rotate_left
              · intro w'
                go_simp
                with_reducible rfl
              rotate_left
              · simp only [Act.put, List.setIfInBounds_toArray, List.set_cons_zero, List.set_cons_succ, i64_w, i32_w]
                rfl
              refine done_ (by kernel_rfl) ?_
              try go_wp2
              refine bodyPost_ret (results_list (rs := [.cell 6 44, .cell 7 46, .tmp 8]) rfl (by simp) (.cell gb111 44 #[.int .i64 a1_1, .int .i64 a1_1] (0, 0) _ rfl (by (with_reducible repeat (first | refine blk_drewN ?_ _ | refine blk_drew ?_ | refine blk_alloc ?_ _)); refine blk_far ?_ NB111_112.out _; (with_reducible repeat (first | refine blk_drewN ?_ _ | refine blk_drew ?_ | refine blk_alloc ?_ _)); refine blk_far ?_ NB111_112.out _; (with_reducible repeat (first | refine blk_drewN ?_ _ | refine blk_drew ?_ | refine blk_alloc ?_ _)); refine blk_far ?_ NB111_112.out _; (with_reducible repeat (first | refine blk_drewN ?_ _ | refine blk_drew ?_ | refine blk_alloc ?_ _)); refine blk_put (cs := #[.int .i64 a1_1, .int .i64 0]) ?_ 1 _ rfl; (with_reducible repeat (first | refine blk_drewN ?_ _ | refine blk_drew ?_ | refine blk_alloc ?_ _)); refine blk_put (cs := #[.int .i64 0, .int .i64 0]) ?_ 0 _ rfl; (with_reducible repeat (first | refine blk_drewN ?_ _ | refine blk_drew ?_ | refine blk_alloc ?_ _)); exact BK111.out) Tryd.underlying44 rfl (by kernel_rfl) (.cell gb112 46 #[.int .i64 0, .int .i64 0, .string (⟨#[]⟩ : ByteArray)] (0, 0) _ rfl (by (with_reducible repeat (first | refine blk_drewN ?_ _ | refine blk_drew ?_ | refine blk_alloc ?_ _)); refine blk_put (cs := #[.int .i64 0, .int .i64 0, .string (⟨#[]⟩ : ByteArray)]) ?_ 2 _ rfl; (with_reducible repeat (first | refine blk_drewN ?_ _ | refine blk_drew ?_ | refine blk_alloc ?_ _)); refine blk_put (cs := #[.int .i64 0, .int .i64 0, .string (⟨#[]⟩ : ByteArray)]) ?_ 1 _ rfl; (with_reducible repeat (first | refine blk_drewN ?_ _ | refine blk_drew ?_ | refine blk_alloc ?_ _)); refine blk_put (cs := #[.int .i64 0, .int .i64 0, .string (⟨#[]⟩ : ByteArray)]) ?_ 0 _ rfl; (with_reducible repeat (first | refine blk_drewN ?_ _ | refine blk_drew ?_ | refine blk_alloc ?_ _)); refine blk_far ?_ NB112_111.out _; (with_reducible repeat (first | refine blk_drewN ?_ _ | refine blk_drew ?_ | refine blk_alloc ?_ _)); refine blk_far ?_ NB112_111.out _; (with_reducible repeat (first | refine blk_drewN ?_ _ | refine blk_drew ?_ | refine blk_alloc ?_ _)); exact BK112.out) Tryd.underlying46 rfl (by kernel_rfl) (.tmp .nil)))) rfl ?_
              exact ⟨by first | rfl | (simp [errW_none, errW_some] <;> rfl) | (simp [*, errW_none, errW_some] <;> rfl), by repeat (first | (with_reducible first | exact HB.out | apply below_alloc | apply pw_below_drewN | apply below_drew1 | refine below_set ?_ GE109.out | refine below_set ?_ GE110.out | refine below_set ?_ GE111.out | refine below_set ?_ GE112.out | refine below_set ?_ GE113.out) | exact HB.out)⟩
            · exact absurd HGRP.out (by
                have e0_ := beq_eq_false_iff_ne.mp c53b0
                have e1_ := beq_eq_false_iff_ne.mp c70b0
                have e2_ := beq_eq_false_iff_ne.mp c104b0
                omega)
end Go.Proofs.YtojgpdphdhcjiaaDoor.PFnInput
