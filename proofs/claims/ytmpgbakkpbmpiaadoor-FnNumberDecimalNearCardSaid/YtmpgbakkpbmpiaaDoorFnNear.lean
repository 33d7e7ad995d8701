/- FnNumberDecimalNear: a number that is written with at least 3 decimals is read again up to a thousandth. Conditions: the law's own. The tables of powers of ten hold what their own initialisers lay (the card ties them). -/
import Derived.Test.YtmpgbakkpbmpiaaDoorCards
import Derived.Test.YtmpgbakkpbmpiaaDoorTie
import Derived.Test.YtmpgbakkpbmpiaaDoorMNear
import Derived.WalkKit
import Derived.ProofKit
import Derived.OpenShut
import Derived.ChangeOld
import Derived.ChangeVars
import Derived.LaidLaws
import Derived.Stop.LaidErr
import Derived.WalkSmall
import Derived.Deep.DeepHandedRow
import Derived.Deep.DeepWitnessRowRef
/- FnNumberDecimalNear: a number that is written with at least 3 decimals is read again up to a thousandth. Conditions: the law's own. The tables of powers of ten hold what their own initialisers lay (the card ties them). -/
namespace Go.Proofs.YtmpgbakkpbmpiaaDoor.fnNear
open Go.ChangeShapes Go.WideShapes Go.ChangeAt Go.RowKit
open Go.Proofs.YtmpgbakkpbmpiaaDoorW.PrintWords
open Tab

theorem own : ownKnob Tryd.prog.godebug = none := by kernel_rfl
theorem laidOut : laidOutB Tryd.prog = true := by kernel_rfl
theorem g4 : Tryd.prog.globalNamed "math.pow10tab" = some 4 := by kernel_rfl
theorem g3 : Tryd.prog.globalNamed "math.pow10postab32" = some 3 := by kernel_rfl
theorem g5 : Tryd.prog.globalNamed "math.pow10negtab32" = some 5 := by kernel_rfl
theorem g0 : Tryd.prog.globalNamed "loop.example/pub-g01475/pub/tdstrconv.float64pow10" = some 0 := by kernel_rfl
theorem g1 : Tryd.prog.globalNamed "loop.example/pub-g01475/pub/tdstrconv.int64pow10" = some 1 := by kernel_rfl
theorem ty1 : (Tryd.prog.globals[1]?).map (·.type) = some 49 := by kernel_rfl
theorem ty0 : (Tryd.prog.globals[0]?).map (·.type) = some 43 := by kernel_rfl

theorem tens : ∀ i < 19, tab1.getD i 0 = ((10 ^ i : Nat) : Int) := by decide
/-- WHAT THE ROW's LIST GIVES: the tables' cells. -/
theorem tabs_of_laid {W : World} (h : laidMetH Tryd.prog Rows.fnNumberDecimalNearRow.laid W) : PD.Laid W := by
  have h1 : laidMet Tryd.prog [("math.pow10tab", ftabData tab4), ("math.pow10postab32", ftabData tab3), ("math.pow10negtab32", ftabData tab5), ("loop.example/pub-g01475/pub/tdstrconv.float64pow10", ftabData tab0), ("loop.example/pub-g01475/pub/tdstrconv.int64pow10", Lib.tabData .i64 tab1)] W := h
  have a4 := ftabIs_of_head (n := 32) (t := 53) (e := 25) g4 (by kernel_rfl) (by kernel_rfl) (by kernel_rfl) (by kernel_rfl) (by kernel_rfl) h1
  have a3 := ftabIs_of_head (n := 10) (t := 51) (e := 25) g3 (by kernel_rfl) (by kernel_rfl) (by kernel_rfl) (by kernel_rfl) (by kernel_rfl) h1.tail
  have a5 := ftabIs_of_head (n := 11) (t := 54) (e := 25) g5 (by kernel_rfl) (by kernel_rfl) (by kernel_rfl) (by kernel_rfl) (by kernel_rfl) h1.tail.tail
  have a0 := ftabIs_of_head (n := 23) (t := 43) (e := 25) g0 (by kernel_rfl) (by kernel_rfl) (by kernel_rfl) (by kernel_rfl) (by kernel_rfl) h1.tail.tail.tail
  have a1 := Lib.tabIs_of_head (n := 19) (t := 49) (e := 2) g1 (by kernel_rfl) (by kernel_rfl) (by kernel_rfl) (by kernel_rfl) (by kernel_rfl) h1.tail.tail.tail.tail
  have c5 := a5.cell g5 0 (by decide)
  exact ⟨World.block_lt_of_cell? W _ c5, fun i hi => a0.cell g0 i hi, fun i hi => by rw [← tens i hi]; exact a1.cell g1 i hi, ⟨fun i hi => a3.cell g3 i hi, fun i hi => a4.cell g4 i hi, fun i hi => a5.cell g5 i hi⟩⟩

/-- THE LAW, for every argument and every world that holds the tables. -/
theorem contract (H : Type) (enc : TypeId × Value → H) (W : World) (base : Nat) (args : Array Value) (ds gs : List (DataW H)) (before : List MemPlace)
    (hval : ∀ (j : Nat) t v, Tryd.f4.params[j]? = some t → args[j]? = some v → Value.okWide Tryd.prog W .any base t v)
    (hW : DataW.Whole enc Tryd.prog Tryd.f4.params.toList Rows.fnNumberDecimalNearSpec.vars false W args.toList ds gs before) (hL : laidMetH Tryd.prog Rows.fnNumberDecimalNearRow.laid W) :
    Calls Tryd.prog 4 args W fun e W' => ∃ v, e = .returned v ∧ Rows.fnNumberDecimalNearSpec.post enc Tryd.prog Tryd.f4 false true false false W args v W' := by
  have hW' := hW
  obtain ⟨p, q, hA0, hV0, rfl, hfz, hnd⟩ := hW
  have hA : DataW.TrodAll enc Tryd.prog W 0 (fun _ => true) true Tryd.f4.params.toList args.toList ds p := hA0
  have hV : DataW.TrodVars enc Tryd.prog W (fun _ => true) ["loop.example/pub-g01475/pub/tdstrconv.int64pow10", "loop.example/pub-g01475/pub/tdstrconv.float64pow10"] gs q := hV0
  rw [Tryd.params4] at hA hval
  obtain ⟨v0, vs0, d0, ds0, p0, q0, hargs, rfl, rfl, h0, r0⟩ := trodAll_cons hA
  obtain ⟨v1, vs1, d1, ds1, p1, q1, rfl, rfl, rfl, h1, r1⟩ := trodAll_cons r0
  obtain ⟨v2, vs2, d2, ds2, p2, q2, rfl, rfl, rfl, h2, r2⟩ := trodAll_cons r1
  obtain ⟨rfl, rfl, rfl⟩ := trodAll_nil r2
  obtain rfl : args = #[v0, v1, v2] := by cases args; simp_all
  obtain ⟨ga, ta, csa, fa, da, pa, gb, tb, csb, fb, db, pb, rfl, hga, htya, hvara, hda, hgb, htyb, hvarb, hdb, rfl⟩ := trodVars_two hV
  obtain rfl := Option.some.inj (g1.symm.trans hga)
  obtain rfl := Option.some.inj (ty1.symm.trans htya)
  obtain rfl := Option.some.inj (g0.symm.trans hgb)
  obtain rfl := Option.some.inj (ty0.symm.trans htyb)
  obtain ⟨n0, rfl, rfl, rfl, w0⟩ := open_int Tryd.underlying2 (hval 0 2 v0 rfl rfl) h0
  obtain ⟨n1, rfl, rfl, rfl, w1⟩ := open_int Tryd.underlying2 (hval 1 2 v1 rfl rfl) h1
  obtain ⟨n2, rfl, rfl, rfl, w2⟩ := open_int Tryd.underlying3 (hval 2 3 v2 rfl rfl) h2
  have lta : ∀ x ∈ pa, x.block < W.heap.size := DataW.trod_lt fa _ _ _ hda
  have ltb : ∀ x ∈ pb, x.block < W.heap.size := DataW.trod_lt fb _ _ _ hdb
  have ka : DataW.Trod enc Tryd.prog W 0 (fun _ => true) true 49 (.agg csa) da pa := ⟨fa, hda⟩
  have kb : DataW.Trod enc Tryd.prog W 0 (fun _ => true) true 43 (.agg csb) db pb := ⟨fb, hdb⟩
  have hT := tabs_of_laid hL
  have hlt1 : 1 < W.heap.size := by have := hT.size; omega
  have hlt0 : 0 < W.heap.size := by have := hT.size; omega
  clear hA0 hA hval hL h0 r0 h1 r1 h2 r2
  refine (NearW.law W n0 n1 n2 hT).mono fun e W' ⟨he, bel⟩ => ?_
  subst he
  obtain ⟨fa', hda'⟩ := Below.trod laidOut (by kernel_rfl) (of_decide_eq_true (by kernel_rfl)) ka bel lta
  obtain ⟨fb', hdb'⟩ := Below.trod laidOut (by kernel_rfl) (of_decide_eq_true (by kernel_rfl)) kb bel ltb
  exact ⟨_, rfl, _, _, _, [], _, _, hW', trodAll_mk1 (shut_bool Tryd.underlying4 _), trodAll_mk3 (shut_int Tryd.underlying2 w0) (shut_int Tryd.underlying2 w1) (shut_int Tryd.underlying3 w2), ⟨_, _, _, _, _, _, hga, htya, var?_below bel hga hlt1 hvara, hda', trodVars_mk1 hgb htyb (var?_below bel hgb hlt0 hvarb) hdb', rfl⟩, bel.frame _, fun h => by cases h⟩

/-! ### A start that fits: nothing handed in, the tables as their own initialisers lay them. -/
def fill (zs : List Nat) : Obj → Obj
  | .cells _ t frozen => .cells (zs.map fun z => Value.float .f64 z).toArray t frozen
  | o => o
def fillI (zs : List Int) : Obj → Obj
  | .cells _ t frozen => .cells (zs.map fun z => Value.int .i64 z).toArray t frozen
  | o => o
noncomputable def laidWorld (os : Os) : World :=
  let w0 := World.holding Tryd.prog os ⟨#[], #[], []⟩
  { w0 with heap := ((((w0.heap.modify 0 (fill tab0)).modify 1 (fillI tab1)).modify 3 (fill tab3)).modify 4 (fill tab4)).modify 5 (fill tab5) }
def places : List MemPlace := (List.range 32).map (MemPlace.cell 4 ·) ++ (List.range 10).map (MemPlace.cell 3 ·) ++ (List.range 11).map (MemPlace.cell 5 ·) ++ (List.range 23).map (MemPlace.cell 0 ·) ++ (List.range 19).map (MemPlace.cell 1 ·)
theorem laid_met (os : Os) (args : Array Value) : laidMet Tryd.prog Rows.fnNumberDecimalNearRow.laid ((laidWorld os).forCall (fun _ _ => 0) ⟨#[], args, []⟩).memory :=
  laidMet_of_run (ps := places) 8 (by kernel_rfl) (by kernel_rfl) (by kernel_rfl)
theorem reads (os : Os) {H : Type} (enc : TypeId × Value → H) : ∃ places, DataW.whole enc Tryd.prog ((laidWorld os).forCall (fun _ _ => 0) ⟨#[], #[.int .i64 0, .int .i64 0, .int .i64 0], []⟩).memory Tryd.f4.params.toList Rows.fnNumberDecimalNearSpec.vars false #[Value.int .i64 0, .int .i64 0, .int .i64 0].toList 8 = some ([.lit (.int .i64 0), .lit (.int .i64 0), .lit (.int .i64 0)], [Lib.tabData .i64 tab1, ftabData tab0], places) :=
  ⟨(List.range 19).map (MemPlace.cell 1 ·) ++ (List.range 23).map (MemPlace.cell 0 ·), by kernel_rfl⟩

set_option maxRecDepth 100000 in
theorem lifted (os : Os) (started : os.Started) (H : Type) (enc : TypeId × Value → H) (F : Stop.Interp) :
    ReturnsInHanded {} Tryd.checked os 4 .any ((OpenSpec.ofChange Rows.fnNumberDecimalNearSpec).preRow enc Tryd.prog Tryd.f4 Rows.fnNumberDecimalNearRow.domain false Rows.fnNumberDecimalNearRow.laid) (((OpenSpec.ofChange Rows.fnNumberDecimalNearSpec).at F).post enc Tryd.prog Tryd.f4 false true false false) := by
  obtain ⟨places, hx⟩ := reads os enc
  refine returnsInHanded_of_row (C := Tryd.checked) (s := OpenSpec.ofChange Rows.fnNumberDecimalNearSpec) own started (by kernel_rfl) Tryd.func4
    (witness_row_atRef (enc := enc) (C := Tryd.checked) false (laidWorld os) #[.int .i64 0, .int .i64 0, .int .i64 0] rfl (by kernel_rfl) (by kernel_rfl) (by kernel_rfl)
      (OpenSpec.preRow_of_cond 8 hx (by kernel_rfl) (fun k hk => by cases hk) (by kernel_rfl) (laid_met os _))) ?_
  intro W base args ds gs before hval hW _ _ _ hL _ _
  exact contract H enc W base args ds gs before hval hW hL

theorem said : Rows.FnNumberDecimalNearSaid :=
  OpenClaim.holds_of_cond 4 Tryd.f4 rfl rfl rfl rfl rfl rfl rfl ⟨rfl, rfl, rfl, rfl, rfl⟩ rfl rfl rfl rfl rfl (by kernel_rfl) Tryd.func4 (by kernel_rfl)
    (of_decide_eq_true (by kernel_rfl)) (by unfold Func.isWrapper; first | (rw [if_pos (by decide +kernel)]; kernel_rfl) | (rw [if_neg (by decide +kernel)]; exact ⟨rfl, rfl⟩))
    (fun os started H enc _ F => by rw [OpenClaim.pre_eq_preRow]; exact lifted os started H enc F)

/-- No parameter wants a stand-in: what the card asks. -/
theorem plain (f : FuncId) (fn : Func) (hf : Tryd.pinned.checked.prog.funcNamed "loop.example/pub-g01475/laws.FnNumberDecimalNear" = some f) (hfn : Tryd.pinned.checked.prog.funcs[f]? = some fn) :
    false = Tryd.pinned.checked.prog.looks [] ∧ ∀ (j : Nat) t, fn.params[j]? = some t → Tryd.pinned.checked.prog.wantsStandIn t = false := by
  obtain rfl : f = 4 := Option.some.inj ((show Tryd.prog.funcNamed "loop.example/pub-g01475/laws.FnNumberDecimalNear" = some 4 by kernel_rfl).symm.trans hf) |>.symm
  obtain rfl : fn = Tryd.f4 := (Option.some.inj (Tryd.func4.symm.trans hfn)).symm
  refine ⟨by kernel_rfl, fun j t ht => ?_⟩
  rw [Tryd.params4] at ht
  have h : t = 2 ∨ t = 3 := by
    have h2 := Array.mem_of_getElem? ht
    simp at h2
    omega
  rcases h with rfl | rfl
  · exact (show Tryd.prog.wantsStandIn 2 = false by kernel_rfl)
  · exact (show Tryd.prog.wantsStandIn 3 = false by kernel_rfl)

/-- THE CARD. -/
theorem card : Rows.FnNumberDecimalNearCardSaid :=
  Claim7.holds_tied_plain_at .later [] _ _ _ _ said (fun _ h => by cases h) (by kernel_rfl) (fun _ h => by cases h) fnNumberDecimalNear_row_tie rfl ⟨rfl, rfl⟩ (by kernel_rfl) rfl plain (by kernel_rfl)
#print axioms card
end Go.Proofs.YtmpgbakkpbmpiaaDoor.fnNear
