/- FnNumberFloatLength: of a number with all of its parts, as many bytes are read as the number has. Conditions: the law's own. The tables of powers of ten hold what their own initialisers lay (the card ties them). -/
import Derived.Test.YtmpgbakkpbmpiaaDoorCards
import Derived.Test.YtmpgbakkpbmpiaaDoorTie
import Derived.Test.YtmpgbakkpbmpiaaDoorLenX
import Derived.WalkKit
import Derived.ProofKit
import Derived.OpenShut
import Derived.ChangeOld
import Derived.ChangeVars
import Derived.LaidLaws
import Derived.Stop.LaidErr
import Derived.WalkSmall
import Derived.Deep.DeepHandedRow
import Derived.Deep.DeepWitnessRowRef
namespace Go.Proofs.YtmpgbakkpbmpiaaDoor.fnLen
open Go.ChangeShapes Go.WideShapes Go.ChangeAt Go.RowKit
open Go.Proofs.YtmpgbakkpbmpiaaDoorW.PrintWords
open Tab

theorem own : ownKnob Tryd.prog.godebug = none := by kernel_rfl
theorem laidOut : laidOutB Tryd.prog = true := by kernel_rfl
theorem g4 : Tryd.prog.globalNamed "math.pow10tab" = some 4 := by kernel_rfl
theorem g3 : Tryd.prog.globalNamed "math.pow10postab32" = some 3 := by kernel_rfl
theorem g5 : Tryd.prog.globalNamed "math.pow10negtab32" = some 5 := by kernel_rfl
theorem g0 : Tryd.prog.globalNamed "loop.example/pub-g01475/pub/tdstrconv.float64pow10" = some 0 := by kernel_rfl
theorem ty0 : (Tryd.prog.globals[0]?).map (·.type) = some 43 := by kernel_rfl

/-- WHAT THE ROW's LIST GIVES: the tables' cells. -/
theorem tabs_of_laid {W : World} (h : laidMetH Tryd.prog Rows.fnNumberFloatLengthRow.laid W) : Tabs W ∧ LenW.T0 W := by
  have h1 : laidMet Tryd.prog [("math.pow10tab", ftabData tab4), ("math.pow10postab32", ftabData tab3), ("math.pow10negtab32", ftabData tab5), ("loop.example/pub-g01475/pub/tdstrconv.float64pow10", ftabData tab0)] W := h
  have a4 := ftabIs_of_head (n := 32) (t := 53) (e := 25) g4 (by kernel_rfl) (by kernel_rfl) (by kernel_rfl) (by kernel_rfl) (by kernel_rfl) h1
  have a3 := ftabIs_of_head (n := 10) (t := 51) (e := 25) g3 (by kernel_rfl) (by kernel_rfl) (by kernel_rfl) (by kernel_rfl) (by kernel_rfl) h1.tail
  have a5 := ftabIs_of_head (n := 11) (t := 54) (e := 25) g5 (by kernel_rfl) (by kernel_rfl) (by kernel_rfl) (by kernel_rfl) (by kernel_rfl) h1.tail.tail
  have a0 := ftabIs_of_head (n := 23) (t := 43) (e := 25) g0 (by kernel_rfl) (by kernel_rfl) (by kernel_rfl) (by kernel_rfl) (by kernel_rfl) h1.tail.tail.tail
  exact ⟨⟨fun i hi => a3.cell g3 i hi, fun i hi => a4.cell g4 i hi, fun i hi => a5.cell g5 i hi⟩, fun i hi => ⟨_, a0.cell g0 i hi⟩⟩

/-- The bytes that came in, as a list. -/
theorem open_bytes {H : Type} {enc : TypeId × Value → H} {W : World} {a : Option Addr} {len cap : Nat} {d : DataW H} {p : List MemPlace}
    (h : DataW.Trod enc Tryd.prog W 0 (fun _ => true) true 22 (.slice a len cap) d p) :
    ∃ l : List Int, len = l.length ∧ Kd.C (Kd.int .u8) W a l.length l ∧ l.length ≤ cap ∧ ∀ x ∈ l, 0 ≤ x ∧ x ≤ 255 := by
  obtain ⟨fuel, hf⟩ := h
  have row : ∃ zs, (a = none ∧ len = 0 ∧ cap = 0 ∧ zs = []) ∨ ∃ x, a = some x ∧ len ≤ cap ∧ cap ≤ maxLen ∧ zs.length = cap ∧ (∀ i, i < zs.length → W.cell? (x.add i) = some (.int .u8 (zs.getD i 0))) ∧ ∀ n ∈ zs, (Lit.int .u8 n).wf = true := by
    rcases open_ints Tryd.underlying22 Tryd.underlying5 (by kernel_rfl) hf with ⟨hcs, _⟩ | ⟨x, l, c, zs, hcs, _, hl, hm, hz, _, hcell, hwz⟩
    · simp [Value.cells] at hcs
      obtain ⟨rfl, rfl, rfl⟩ := hcs
      exact ⟨[], .inl ⟨rfl, rfl, rfl, rfl⟩⟩
    · simp [Value.cells] at hcs
      obtain ⟨rfl, rfl, rfl⟩ := hcs
      exact ⟨zs, .inr ⟨_, rfl, hl, hm, by simpa using hz, hcell, hwz⟩⟩
  obtain ⟨zs, w0⟩ := row
  obtain ⟨l, rfl, hr, hm, hw, hc⟩ := ReadsInt.ofRowC w0
  exact ⟨l, rfl, Kd.C_of_reads (d := (0 : Int)) (h1 := fun _ => rfl) hr, hc, fun x hx => by have := bounds_u8 (hw x hx); omega⟩

/-- THE LAW, for every argument and every world that holds the tables. -/
theorem contract (H : Type) (enc : TypeId × Value → H) (W : World) (base : Nat) (args : Array Value) (ds gs : List (DataW H)) (before : List MemPlace)
    (hval : ∀ (j : Nat) t v, Tryd.f3.params[j]? = some t → args[j]? = some v → Value.okWide Tryd.prog W .any base t v)
    (hW : DataW.Whole enc Tryd.prog Tryd.f3.params.toList Rows.fnNumberFloatLengthSpec.vars false W args.toList ds gs before) (hL : laidMetH Tryd.prog Rows.fnNumberFloatLengthRow.laid W) :
    Calls Tryd.prog 3 args W fun e W' => ∃ v, e = .returned v ∧ Rows.fnNumberFloatLengthSpec.post enc Tryd.prog Tryd.f3 false true false false W args v W' := by
  have hW' := hW
  obtain ⟨p, q, hA0, hV0, rfl, hfz, hnd⟩ := hW
  have hA : DataW.TrodAll enc Tryd.prog W 0 (fun _ => true) true Tryd.f3.params.toList args.toList ds p := hA0
  have hV : DataW.TrodVars enc Tryd.prog W (fun _ => true) ["loop.example/pub-g01475/pub/tdstrconv.float64pow10"] gs q := hV0
  rw [Tryd.params3] at hA hval
  obtain ⟨v0, vs0, d0, ds0, p0, q0, hargs, rfl, rfl, h0, r0⟩ := trodAll_cons hA
  obtain ⟨rfl, rfl, rfl⟩ := trodAll_nil r0
  obtain rfl : args = #[v0] := by cases args; simp_all
  obtain ⟨g, t, cs, fuel, dv, pv, rfl, hg, hty, hvar, hd, rfl⟩ := trodVars_one hV
  obtain rfl := Option.some.inj (g0.symm.trans hg)
  obtain rfl := Option.some.inj (ty0.symm.trans hty)
  obtain ⟨a0, len0, cap0, rfl⟩ := okWide_slice Tryd.underlying22 (hval 0 22 v0 rfl rfl)
  have lt0 : ∀ x ∈ p0, x.block < W.heap.size := by obtain ⟨m, hm⟩ := h0; exact DataW.trod_lt m _ _ _ hm
  have ltv : ∀ x ∈ pv, x.block < W.heap.size := DataW.trod_lt fuel _ _ _ hd
  have kv : DataW.Trod enc Tryd.prog W 0 (fun _ => true) true 43 (.agg cs) dv pv := ⟨fuel, hd⟩
  have k0 := h0
  obtain ⟨l0, rfl, hr0, hc0, hb⟩ := open_bytes h0
  obtain ⟨hT, hT0⟩ := tabs_of_laid hL
  obtain ⟨y0, hy0⟩ := hT0 0 (by omega)
  have hlt : 0 < W.heap.size := World.block_lt_of_cell? W _ hy0
  clear hA0 hA hval hL h0 r0
  refine (LenW.law W a0 cap0 l0 hr0 hc0 hT hT0).mono fun e W' ⟨he, bel⟩ => ?_
  subst he
  obtain ⟨f', hd'⟩ := Below.trod laidOut (by kernel_rfl) (of_decide_eq_true (by kernel_rfl)) kv bel ltv
  exact ⟨_, rfl, _, _, _, [], _, _, hW', trodAll_mk1 (shut_bool Tryd.underlying4 _), trodAll_cons_mk (Below.trod laidOut (by kernel_rfl) (of_decide_eq_true (by kernel_rfl)) k0 bel lt0) trodAll_mk0, trodVars_mk1 hg hty (var?_below bel hg hlt hvar) hd', bel.frame _, fun h => by cases h⟩

/-! ### A start that fits: nothing handed in, the tables as their own initialisers lay them. -/
def fill (zs : List Nat) : Obj → Obj
  | .cells _ t frozen => .cells (zs.map fun z => Value.float .f64 z).toArray t frozen
  | o => o
noncomputable def laidWorld (os : Os) : World :=
  let w0 := World.holding Tryd.prog os ⟨#[], #[], []⟩
  { w0 with heap := (((w0.heap.modify 0 (fill tab0)).modify 3 (fill tab3)).modify 4 (fill tab4)).modify 5 (fill tab5) }
def places : List MemPlace := (List.range 32).map (MemPlace.cell 4 ·) ++ (List.range 10).map (MemPlace.cell 3 ·) ++ (List.range 11).map (MemPlace.cell 5 ·) ++ (List.range 23).map (MemPlace.cell 0 ·)
theorem laid_met (os : Os) (args : Array Value) : laidMet Tryd.prog Rows.fnNumberFloatLengthRow.laid ((laidWorld os).forCall (fun _ _ => 0) ⟨#[], args, []⟩).memory :=
  laidMet_of_run (ps := places) 8 (by kernel_rfl) (by kernel_rfl) (by kernel_rfl)
theorem reads (os : Os) {H : Type} (enc : TypeId × Value → H) : ∃ places, DataW.whole enc Tryd.prog ((laidWorld os).forCall (fun _ _ => 0) ⟨#[], #[.slice none 0 0], []⟩).memory Tryd.f3.params.toList Rows.fnNumberFloatLengthSpec.vars false #[Value.slice none 0 0].toList 8 = some ([.nil], [ftabData tab0], places) :=
  ⟨(List.range 23).map (MemPlace.cell 0 ·), by kernel_rfl⟩

set_option maxRecDepth 100000 in
theorem lifted (os : Os) (started : os.Started) (H : Type) (enc : TypeId × Value → H) (F : Stop.Interp) :
    ReturnsInHanded {} Tryd.checked os 3 .any ((OpenSpec.ofChange Rows.fnNumberFloatLengthSpec).preRow enc Tryd.prog Tryd.f3 Rows.fnNumberFloatLengthRow.domain false Rows.fnNumberFloatLengthRow.laid) (((OpenSpec.ofChange Rows.fnNumberFloatLengthSpec).at F).post enc Tryd.prog Tryd.f3 false true false false) := by
  obtain ⟨places, hx⟩ := reads os enc
  refine returnsInHanded_of_row (C := Tryd.checked) (s := OpenSpec.ofChange Rows.fnNumberFloatLengthSpec) own started (by kernel_rfl) Tryd.func3
    (witness_row_atRef (enc := enc) (C := Tryd.checked) false (laidWorld os) #[.slice none 0 0] rfl (by kernel_rfl) (by kernel_rfl) (by kernel_rfl)
      (OpenSpec.preRow_of_cond 8 hx (by kernel_rfl) (fun k hk => by cases hk) (by kernel_rfl) (laid_met os _))) ?_
  intro W base args ds gs before hval hW _ _ _ hL _ _
  exact contract H enc W base args ds gs before hval hW hL

theorem said : Rows.FnNumberFloatLengthSaid :=
  OpenClaim.holds_of_cond 3 Tryd.f3 rfl rfl rfl rfl rfl rfl rfl ⟨rfl, rfl, rfl, rfl, rfl⟩ rfl rfl rfl rfl rfl (by kernel_rfl) Tryd.func3 (by kernel_rfl)
    (of_decide_eq_true (by kernel_rfl)) (by unfold Func.isWrapper; first | (rw [if_pos (by decide +kernel)]; kernel_rfl) | (rw [if_neg (by decide +kernel)]; exact ⟨rfl, rfl⟩))
    (fun os started H enc _ F => by rw [OpenClaim.pre_eq_preRow]; exact lifted os started H enc F)

/-- No parameter wants a stand-in: what the card asks. -/
theorem plain (f : FuncId) (fn : Func) (hf : Tryd.pinned.checked.prog.funcNamed "loop.example/pub-g01475/laws.FnNumberFloatLength" = some f) (hfn : Tryd.pinned.checked.prog.funcs[f]? = some fn) :
    false = Tryd.pinned.checked.prog.looks [] ∧ ∀ (j : Nat) t, fn.params[j]? = some t → Tryd.pinned.checked.prog.wantsStandIn t = false := by
  obtain rfl : f = 3 := Option.some.inj ((show Tryd.prog.funcNamed "loop.example/pub-g01475/laws.FnNumberFloatLength" = some 3 by kernel_rfl).symm.trans hf) |>.symm
  obtain rfl : fn = Tryd.f3 := (Option.some.inj (Tryd.func3.symm.trans hfn)).symm
  refine ⟨by kernel_rfl, fun j t ht => ?_⟩
  rw [Tryd.params3] at ht
  obtain rfl : t = 22 := by simpa using Array.mem_of_getElem? ht
  exact (show Tryd.prog.wantsStandIn 22 = false by kernel_rfl)

/-- THE CARD. -/
theorem card : Rows.FnNumberFloatLengthCardSaid :=
  Claim7.holds_tied_plain_at .later [] _ _ _ _ said (fun _ h => by cases h) (by kernel_rfl) (fun _ h => by cases h) fnNumberFloatLength_row_tie rfl ⟨rfl, rfl⟩ (by kernel_rfl) rfl plain (by kernel_rfl)
#print axioms card
end Go.Proofs.YtmpgbakkpbmpiaaDoor.fnLen
