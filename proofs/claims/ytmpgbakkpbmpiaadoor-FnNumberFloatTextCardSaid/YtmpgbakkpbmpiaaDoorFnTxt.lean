/- FnNumberFloatText: a number with an absolute value of at most 1000000000 is written as a number, whole, behind other bytes. Conditions: the law's own. The tables of powers of ten hold what their own initialisers lay (the card ties them). -/
import Derived.Test.YtmpgbakkpbmpiaaDoorCards
import Derived.Test.YtmpgbakkpbmpiaaDoorTie
import Derived.Test.YtmpgbakkpbmpiaaDoorMTxt
import Derived.WalkKit
import Derived.ProofKit
import Derived.OpenShut
import Derived.ChangeOld
import Derived.ChangeVars
import Derived.LaidLaws
import Derived.Stop.LaidErr
import Derived.WalkSmall
import Derived.Deep.DeepHandedRow
import Derived.Deep.DeepWitnessRowRef
/- FnNumberFloatText: a number with an absolute value of at most 1000000000 is written as a number, whole, behind other bytes. Conditions: the law's own. The tables of powers of ten hold what their own initialisers lay (the card ties them). -/
namespace Go.Proofs.YtmpgbakkpbmpiaaDoor.fnTxt
open Go.ChangeShapes Go.WideShapes Go.ChangeAt Go.RowKit
open Go.Proofs.YtmpgbakkpbmpiaaDoorW.PrintWords
open Tab

theorem own : ownKnob Tryd.prog.godebug = none := by kernel_rfl
theorem laidOut : laidOutB Tryd.prog = true := by kernel_rfl
theorem g4 : Tryd.prog.globalNamed "math.pow10tab" = some 4 := by kernel_rfl
theorem g3 : Tryd.prog.globalNamed "math.pow10postab32" = some 3 := by kernel_rfl
theorem g5 : Tryd.prog.globalNamed "math.pow10negtab32" = some 5 := by kernel_rfl
theorem g1 : Tryd.prog.globalNamed "loop.example/pub-g01475/pub/tdstrconv.int64pow10" = some 1 := by kernel_rfl
theorem ty1 : (Tryd.prog.globals[1]?).map (·.type) = some 49 := by kernel_rfl

theorem tens : ∀ i < 19, tab1.getD i 0 = ((10 ^ i : Nat) : Int) := by decide
/-- WHAT THE ROW's LIST GIVES: the tables' cells. -/
theorem tabs_of_laid {W : World} (h : laidMetH Tryd.prog Rows.fnNumberFloatTextRow.laid W) : AF.Laid W := by
  have h1 : laidMet Tryd.prog [("math.pow10tab", ftabData tab4), ("math.pow10postab32", ftabData tab3), ("math.pow10negtab32", ftabData tab5), ("loop.example/pub-g01475/pub/tdstrconv.int64pow10", Lib.tabData .i64 tab1)] W := h
  have a4 := ftabIs_of_head (n := 32) (t := 53) (e := 25) g4 (by kernel_rfl) (by kernel_rfl) (by kernel_rfl) (by kernel_rfl) (by kernel_rfl) h1
  have a3 := ftabIs_of_head (n := 10) (t := 51) (e := 25) g3 (by kernel_rfl) (by kernel_rfl) (by kernel_rfl) (by kernel_rfl) (by kernel_rfl) h1.tail
  have a5 := ftabIs_of_head (n := 11) (t := 54) (e := 25) g5 (by kernel_rfl) (by kernel_rfl) (by kernel_rfl) (by kernel_rfl) (by kernel_rfl) h1.tail.tail
  have a1 := Lib.tabIs_of_head (n := 19) (t := 49) (e := 2) g1 (by kernel_rfl) (by kernel_rfl) (by kernel_rfl) (by kernel_rfl) (by kernel_rfl) h1.tail.tail.tail
  have c5 := a5.cell g5 0 (by decide)
  exact ⟨World.block_lt_of_cell? W _ c5, fun i hi => by rw [← tens i hi]; exact a1.cell g1 i hi, ⟨fun i hi => a3.cell g3 i hi, fun i hi => a4.cell g4 i hi, fun i hi => a5.cell g5 i hi⟩⟩

/-- The bytes that came in, as a list. -/
theorem open_bytes {H : Type} {enc : TypeId × Value → H} {W : World} {a : Option Addr} {len cap : Nat} {d : DataW H} {p : List MemPlace}
    (h : DataW.Trod enc Tryd.prog W 0 (fun _ => true) true 22 (.slice a len cap) d p) :
    ∃ l : List Int, len = l.length ∧ Kd.C (Kd.int .u8) W a l.length l ∧ l.length ≤ cap ∧ ∀ x ∈ l, 0 ≤ x ∧ x ≤ 255 := by
  obtain ⟨fuel, hf⟩ := h
  have row : ∃ zs, (a = none ∧ len = 0 ∧ cap = 0 ∧ zs = []) ∨ ∃ x, a = some x ∧ len ≤ cap ∧ cap ≤ maxLen ∧ zs.length = cap ∧ (∀ i, i < zs.length → W.cell? (x.add i) = some (.int .u8 (zs.getD i 0))) ∧ ∀ n ∈ zs, (Lit.int .u8 n).wf = true := by
    rcases open_ints Tryd.underlying22 Tryd.underlying5 (by kernel_rfl) hf with ⟨hcs, _⟩ | ⟨x, l, c, zs, hcs, _, hl, hm, hz, _, hcell, hwz⟩
    · simp [Value.cells] at hcs
      obtain ⟨rfl, rfl, rfl⟩ := hcs
      exact ⟨[], .inl ⟨rfl, rfl, rfl, rfl⟩⟩
    · simp [Value.cells] at hcs
      obtain ⟨rfl, rfl, rfl⟩ := hcs
      exact ⟨zs, .inr ⟨_, rfl, hl, hm, by simpa using hz, hcell, hwz⟩⟩
  obtain ⟨zs, w0⟩ := row
  obtain ⟨l, rfl, hr, hm, hw, hc⟩ := ReadsInt.ofRowC w0
  exact ⟨l, rfl, Kd.C_of_reads (d := (0 : Int)) (h1 := fun _ => rfl) hr, hc, fun x hx => by have := bounds_u8 (hw x hx); omega⟩

/-- THE LAW, for every argument and every world that holds the tables. -/
theorem contract (H : Type) (enc : TypeId × Value → H) (W : World) (base : Nat) (args : Array Value) (ds gs : List (DataW H)) (before : List MemPlace)
    (hval : ∀ (j : Nat) t v, Tryd.f5.params[j]? = some t → args[j]? = some v → Value.okWide Tryd.prog W .any base t v)
    (hW : DataW.Whole enc Tryd.prog Tryd.f5.params.toList Rows.fnNumberFloatTextSpec.vars false W args.toList ds gs before) (hL : laidMetH Tryd.prog Rows.fnNumberFloatTextRow.laid W) :
    Calls Tryd.prog 5 args W fun e W' => ∃ v, e = .returned v ∧ Rows.fnNumberFloatTextSpec.post enc Tryd.prog Tryd.f5 false true false false W args v W' := by
  have hW' := hW
  obtain ⟨p, q, hA0, hV0, rfl, hfz, hnd⟩ := hW
  have hA : DataW.TrodAll enc Tryd.prog W 0 (fun _ => true) true Tryd.f5.params.toList args.toList ds p := hA0
  have hV : DataW.TrodVars enc Tryd.prog W (fun _ => true) ["loop.example/pub-g01475/pub/tdstrconv.int64pow10"] gs q := hV0
  rw [Tryd.params5] at hA hval
  obtain ⟨v0, vs0, d0, ds0, p0, q0, hargs, rfl, rfl, h0, r0⟩ := trodAll_cons hA
  obtain ⟨v1, vs1, d1, ds1, p1, q1, rfl, rfl, rfl, h1, r1⟩ := trodAll_cons r0
  obtain ⟨v2, vs2, d2, ds2, p2, q2, rfl, rfl, rfl, h2, r2⟩ := trodAll_cons r1
  obtain ⟨v3, vs3, d3, ds3, p3, q3, rfl, rfl, rfl, h3, r3⟩ := trodAll_cons r2
  obtain ⟨rfl, rfl, rfl⟩ := trodAll_nil r3
  obtain rfl : args = #[v0, v1, v2, v3] := by cases args; simp_all
  obtain ⟨g, t, cs, fuel, dv, pv, rfl, hg, hty, hvar, hd, rfl⟩ := trodVars_one hV
  obtain rfl := Option.some.inj (g1.symm.trans hg)
  obtain rfl := Option.some.inj (ty1.symm.trans hty)
  obtain ⟨a0, len0, cap0, rfl⟩ := okWide_slice Tryd.underlying22 (hval 0 22 v0 rfl rfl)
  have lt0 : ∀ x ∈ p0, x.block < W.heap.size := by obtain ⟨m, hm⟩ := h0; exact DataW.trod_lt m _ _ _ hm
  have ltv : ∀ x ∈ pv, x.block < W.heap.size := DataW.trod_lt fuel _ _ _ hd
  have kv : DataW.Trod enc Tryd.prog W 0 (fun _ => true) true 49 (.agg cs) dv pv := ⟨fuel, hd⟩
  have k0 := h0
  obtain ⟨l0, rfl, hr0, hc0, hb⟩ := open_bytes h0
  obtain ⟨n1, rfl, rfl, rfl, w1⟩ := open_int Tryd.underlying2 (hval 1 2 v1 rfl rfl) h1
  obtain ⟨n2, rfl, rfl, rfl, w2⟩ := open_int Tryd.underlying2 (hval 2 2 v2 rfl rfl) h2
  obtain ⟨n3, rfl, rfl, rfl, w3⟩ := open_int Tryd.underlying3 (hval 3 3 v3 rfl rfl) h3
  have hT := tabs_of_laid hL
  have hlt1 : 1 < W.heap.size := by have := hT.size; omega
  clear hA0 hA hval hL h0 r0 h1 r1 h2 r2 h3 r3
  refine (TxW.law W a0 cap0 l0 n1 n2 n3 hr0 hc0 hT).mono fun e W' ⟨he, bel⟩ => ?_
  subst he
  obtain ⟨f', hd'⟩ := Below.trod laidOut (by kernel_rfl) (of_decide_eq_true (by kernel_rfl)) kv bel ltv
  exact ⟨_, rfl, _, _, _, [], _, _, hW', trodAll_mk1 (shut_bool Tryd.underlying4 _), trodAll_cons_mk (Below.trod laidOut (by kernel_rfl) (of_decide_eq_true (by kernel_rfl)) k0 bel lt0) (trodAll_mk3 (shut_int Tryd.underlying2 w1) (shut_int Tryd.underlying2 w2) (shut_int Tryd.underlying3 w3)), trodVars_mk1 hg hty (var?_below bel hg hlt1 hvar) hd', bel.frame _, fun h => by cases h⟩

/-! ### A start that fits: nothing handed in, the tables as their own initialisers lay them. -/
def fill (zs : List Nat) : Obj → Obj
  | .cells _ t frozen => .cells (zs.map fun z => Value.float .f64 z).toArray t frozen
  | o => o
def fillI (zs : List Int) : Obj → Obj
  | .cells _ t frozen => .cells (zs.map fun z => Value.int .i64 z).toArray t frozen
  | o => o
noncomputable def laidWorld (os : Os) : World :=
  let w0 := World.holding Tryd.prog os ⟨#[], #[], []⟩
  { w0 with heap := (((w0.heap.modify 1 (fillI tab1)).modify 3 (fill tab3)).modify 4 (fill tab4)).modify 5 (fill tab5) }
def places : List MemPlace := (List.range 32).map (MemPlace.cell 4 ·) ++ (List.range 10).map (MemPlace.cell 3 ·) ++ (List.range 11).map (MemPlace.cell 5 ·) ++ (List.range 19).map (MemPlace.cell 1 ·)
theorem laid_met (os : Os) (args : Array Value) : laidMet Tryd.prog Rows.fnNumberFloatTextRow.laid ((laidWorld os).forCall (fun _ _ => 0) ⟨#[], args, []⟩).memory :=
  laidMet_of_run (ps := places) 8 (by kernel_rfl) (by kernel_rfl) (by kernel_rfl)
theorem reads (os : Os) {H : Type} (enc : TypeId × Value → H) : ∃ places, DataW.whole enc Tryd.prog ((laidWorld os).forCall (fun _ _ => 0) ⟨#[], #[.slice none 0 0, .int .i64 0, .int .i64 0, .int .i64 0], []⟩).memory Tryd.f5.params.toList Rows.fnNumberFloatTextSpec.vars false #[Value.slice none 0 0, .int .i64 0, .int .i64 0, .int .i64 0].toList 8 = some ([.nil, .lit (.int .i64 0), .lit (.int .i64 0), .lit (.int .i64 0)], [Lib.tabData .i64 tab1], places) :=
  ⟨(List.range 19).map (MemPlace.cell 1 ·), by kernel_rfl⟩

set_option maxRecDepth 100000 in
theorem lifted (os : Os) (started : os.Started) (H : Type) (enc : TypeId × Value → H) (F : Stop.Interp) :
    ReturnsInHanded {} Tryd.checked os 5 .any ((OpenSpec.ofChange Rows.fnNumberFloatTextSpec).preRow enc Tryd.prog Tryd.f5 Rows.fnNumberFloatTextRow.domain false Rows.fnNumberFloatTextRow.laid) (((OpenSpec.ofChange Rows.fnNumberFloatTextSpec).at F).post enc Tryd.prog Tryd.f5 false true false false) := by
  obtain ⟨places, hx⟩ := reads os enc
  refine returnsInHanded_of_row (C := Tryd.checked) (s := OpenSpec.ofChange Rows.fnNumberFloatTextSpec) own started (by kernel_rfl) Tryd.func5
    (witness_row_atRef (enc := enc) (C := Tryd.checked) false (laidWorld os) #[.slice none 0 0, .int .i64 0, .int .i64 0, .int .i64 0] rfl (by kernel_rfl) (by kernel_rfl) (by kernel_rfl)
      (OpenSpec.preRow_of_cond 8 hx (by kernel_rfl) (fun k hk => by cases hk) (by kernel_rfl) (laid_met os _))) ?_
  intro W base args ds gs before hval hW _ _ _ hL _ _
  exact contract H enc W base args ds gs before hval hW hL

theorem said : Rows.FnNumberFloatTextSaid :=
  OpenClaim.holds_of_cond 5 Tryd.f5 rfl rfl rfl rfl rfl rfl rfl ⟨rfl, rfl, rfl, rfl, rfl⟩ rfl rfl rfl rfl rfl (by kernel_rfl) Tryd.func5 (by kernel_rfl)
    (of_decide_eq_true (by kernel_rfl)) (by unfold Func.isWrapper; first | (rw [if_pos (by decide +kernel)]; kernel_rfl) | (rw [if_neg (by decide +kernel)]; exact ⟨rfl, rfl⟩))
    (fun os started H enc _ F => by rw [OpenClaim.pre_eq_preRow]; exact lifted os started H enc F)

/-- No parameter wants a stand-in: what the card asks. -/
theorem plain (f : FuncId) (fn : Func) (hf : Tryd.pinned.checked.prog.funcNamed "loop.example/pub-g01475/laws.FnNumberFloatText" = some f) (hfn : Tryd.pinned.checked.prog.funcs[f]? = some fn) :
    false = Tryd.pinned.checked.prog.looks [] ∧ ∀ (j : Nat) t, fn.params[j]? = some t → Tryd.pinned.checked.prog.wantsStandIn t = false := by
  obtain rfl : f = 5 := Option.some.inj ((show Tryd.prog.funcNamed "loop.example/pub-g01475/laws.FnNumberFloatText" = some 5 by kernel_rfl).symm.trans hf) |>.symm
  obtain rfl : fn = Tryd.f5 := (Option.some.inj (Tryd.func5.symm.trans hfn)).symm
  refine ⟨by kernel_rfl, fun j t ht => ?_⟩
  rw [Tryd.params5] at ht
  have h : t = 22 ∨ t = 2 ∨ t = 3 := by
    have h2 := Array.mem_of_getElem? ht
    simp at h2
    omega
  rcases h with rfl | rfl | rfl
  · exact (show Tryd.prog.wantsStandIn 22 = false by kernel_rfl)
  · exact (show Tryd.prog.wantsStandIn 2 = false by kernel_rfl)
  · exact (show Tryd.prog.wantsStandIn 3 = false by kernel_rfl)

/-- THE CARD. -/
theorem card : Rows.FnNumberFloatTextCardSaid :=
  Claim7.holds_tied_plain_at .later [] _ _ _ _ said (fun _ h => by cases h) (by kernel_rfl) (fun _ h => by cases h) fnNumberFloatText_row_tie rfl ⟨rfl, rfl⟩ (by kernel_rfl) rfl plain (by kernel_rfl)
#print axioms card
end Go.Proofs.YtmpgbakkpbmpiaaDoor.fnTxt
