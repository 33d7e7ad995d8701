/- FnInput: a reader of selections tells for each step, as long as none leads out of the bytes or to a character that is not written as it should be, what is there. Conditions: the law's own (at most 300 bytes, 100 steps; a character is asked for only where the reader stands). io.EOF holds what its own call of errors.New lays (the card ties it). -/
import Derived.Test.YtojgpdphdhcjiaaDoorCards
import Derived.Test.YtojgpdphdhcjiaaDoorTie
import Derived.Test.YtojgpdphdhcjiaaDoorInpW
import Derived.WalkKit
import Derived.ProofKit
import Derived.OpenShut
import Derived.ChangeOld
import Derived.LaidLaws
import Derived.Deep.DeepHandedRow
import Derived.Deep.DeepWitnessRowRef
import Derived.Deep.SlicePairs
namespace Go.Proofs.YtojgpdphdhcjiaaDoor.fnInput
open Go.ChangeShapes Go.WideShapes Go.ChangeAt Go.RowKit
open Go.Proofs.YtojgpdphdhcjiaaDoorW.PrintWords

theorem own : ownKnob Tryd.prog.godebug = none := by kernel_rfl
theorem laidOut : laidOutB Tryd.prog = true := by kernel_rfl
theorem gEOF : Tryd.prog.globalNamed "io.EOF" = some 0 := by kernel_rfl
theorem gEOFType : (Tryd.prog.globals[0]?).map (·.type) = some 57 := by kernel_rfl
theorem name99 : Tryd.prog.typeName? 3 99 = some "*errors.errorString" := by kernel_rfl
theorem cells115 : Tryd.prog.cellsOf 115 = 1 := by kernel_rfl
theorem cells9 : Tryd.prog.cellsOf 9 = 1 := by kernel_rfl
theorem star : "*" ++ "errors.errorString" = "*errors.errorString" := by decide
theorem row99 (u : TypeId) (h : Tryd.prog.typeName? 3 u = some "*errors.errorString") : u = 99 :=
  typeName_ptr_named (nm := "errors.errorString") (by rw [star]; kernel_rfl) (by kernel_rfl) (by decide) u (by rw [star]; exact h)

set_option maxRecDepth 100000 in
/-- WHAT THE ROW's LIST GIVES: io.EOF holds a pointer to its own error string. -/
theorem eof_of_laid {W : World} (h : laidMetH Tryd.prog Rows.fnInputRow.laid W) : ∃ pa, W.cell? ⟨0, 0, none⟩ = some (.iface 99 (.pointer (some pa))) := by
  have h1 : laidMet Tryd.prog Rows.fnInputRow.laid W := h
  obtain ⟨ps, ⟨g0, t0, cs0, f0, p0, q0, hg0, ht0, hv0, hd0, hq1, e0⟩, hnd, hrows⟩ := h1
  obtain rfl := Option.some.inj (gEOF.symm.trans hg0)
  obtain rfl := Option.some.inj (gEOFType.symm.trans ht0)
  have hq0' : q0 = [] := hq1
  subst hq0'
  subst e0
  obtain ⟨l0⟩ := cs0
  have ok0 : ∀ u v, l0 = [.iface u v] → Value.okWide Tryd.prog W .any 0 u v := fun u v e => by
    subst e
    exact (hrows 0 0 (by simp [MemPlace.row])).2 u v (by simpa using World.var?_cell gEOF hv0 0)
  obtain ⟨a0, s0, rfl, _⟩ := errorString_of_trod Tryd.underlying57 row99 Tryd.underlying99 Tryd.underlying115 rfl rfl Tryd.underlying9 cells115 cells9 hd0 ok0
  exact ⟨a0, by simpa using World.var?_cell gEOF hv0 0⟩

/-- The bytes that came in, as a list. -/
theorem open_bytes {H : Type} {enc : TypeId × Value → H} {W : World} {a : Option Addr} {len cap : Nat} {d : DataW H} {p : List MemPlace}
    (h : DataW.Trod enc Tryd.prog W 0 (fun _ => true) true 22 (.slice a len cap) d p) :
    ∃ l : List Int, len = l.length ∧ Kd.C (Kd.int .u8) W a l.length l ∧ l.length ≤ cap ∧ ∀ x ∈ l, 0 ≤ x ∧ x ≤ 255 := by
  obtain ⟨fuel, hf⟩ := h
  have row : ∃ zs, (a = none ∧ len = 0 ∧ cap = 0 ∧ zs = []) ∨ ∃ x, a = some x ∧ len ≤ cap ∧ cap ≤ maxLen ∧ zs.length = cap ∧ (∀ i, i < zs.length → W.cell? (x.add i) = some (.int .u8 (zs.getD i 0))) ∧ ∀ n ∈ zs, (Lit.int .u8 n).wf = true := by
    rcases open_ints Tryd.underlying22 Tryd.underlying5 (by kernel_rfl) hf with ⟨hcs, _⟩ | ⟨x, l, c, zs, hcs, _, hl, hm, hz, _, hcell, hwz⟩
    · simp [Value.cells] at hcs
      obtain ⟨rfl, rfl, rfl⟩ := hcs
      exact ⟨[], .inl ⟨rfl, rfl, rfl, rfl⟩⟩
    · simp [Value.cells] at hcs
      obtain ⟨rfl, rfl, rfl⟩ := hcs
      exact ⟨zs, .inr ⟨_, rfl, hl, hm, by simpa using hz, hcell, hwz⟩⟩
  obtain ⟨zs, w0⟩ := row
  obtain ⟨l, rfl, hr, hm, hw, hc⟩ := ReadsInt.ofRowC w0
  exact ⟨l, rfl, Kd.C_of_reads (d := (0 : Int)) (h1 := fun _ => rfl) hr, hc, fun x hx => by have := bounds_u8 (hw x hx); omega⟩

/-- The steps that came in, as a list. -/
theorem open_steps {H : Type} {enc : TypeId × Value → H} {W : World} {a : Option Addr} {len cap : Nat} {d : DataW H} {p : List MemPlace}
    (h : DataW.Trod enc Tryd.prog W 0 (fun _ => true) true 23 (.slice a len cap) d p) :
    ∃ l : List PFnInput.S26, len = l.length ∧ Kd.C PFnInput.k26 W a l.length l ∧ l.length ≤ cap ∧ l.length ≤ 9223372036854775807 := by
  obtain ⟨fuel, hf⟩ := h
  rcases Deep.open_slice_pairs Tryd.underlying23 Tryd.underlying26 (by kernel_rfl) rfl rfl (by kernel_rfl) (by kernel_rfl) hf with ⟨hcs, _⟩ | ⟨x, l, c, m, n, V0, V1, D0, D1, P0, P1, hcs, _, hl, hm, hmm, _, hcell⟩
  · simp [Value.cells] at hcs
    obtain ⟨rfl, rfl, rfl⟩ := hcs
    exact ⟨[], rfl, ⟨rfl, by simp, fun h => absurd h (by simp)⟩, Nat.le_refl _, by simp⟩
  · simp [Value.cells] at hcs
    obtain ⟨rfl, rfl, rfl⟩ := hcs
    simp only [if_true] at hmm
    subst hmm
    have each : ∀ i, i < m → ∃ q : PFnInput.S26, V0 i = .int .i64 q.f0 ∧ V1 i = .int .i64 q.f1 := fun i hi => by
      obtain ⟨_, _, h0, h1⟩ := hcell i hi
      obtain ⟨n0, e0, _⟩ := DataW.trod_int Tryd.underlying2 h0
      obtain ⟨n1, e1, _⟩ := DataW.trod_int Tryd.underlying3 h1
      simp only [List.cons.injEq, and_true] at e0 e1
      exact ⟨⟨n0, n1⟩, e0, e1⟩
    obtain ⟨q, hq⟩ : ∃ q : Nat → PFnInput.S26, ∀ i, i < m → V0 i = .int .i64 (q i).f0 ∧ V1 i = .int .i64 (q i).f1 :=
      ⟨fun i => if h : i < m then (each i h).choose else PFnInput.z26, fun i hi => by simp only [dif_pos hi]; exact (each i hi).choose_spec⟩
    simp only [maxLen] at hm
    have hlen : ((List.range len).map q).length = len := by simp
    refine ⟨(List.range len).map q, hlen.symm, ⟨rfl, by rw [hlen]; omega, fun _ => ⟨x, rfl, fun j p hj => ⟨[.int .i64 p.f0, .int .i64 p.f1], rfl, PFnInput.k26_mk W p, fun i u hu => ?_⟩⟩⟩, by rw [hlen]; exact hl, by rw [hlen]; omega⟩
    have hjl : j < len := by
      have := (List.getElem?_eq_some_iff.1 hj).1
      rwa [hlen] at this
    have hp : p = q j := by
      rw [List.getElem?_map, List.getElem?_range hjl] at hj
      exact (Option.some.inj hj).symm
    subst hp
    obtain ⟨h0, h1, _⟩ := hcell j (by omega)
    obtain ⟨e0, e1⟩ := hq j (by omega)
    have hsz : PFnInput.k26.sz = 2 := rfl
    rw [hsz]
    match i, hu with
    | 0, hu => rw [Nat.add_zero, h0, e0]; simpa using hu
    | 1, hu => rw [h1, e1]; simpa using hu
    | i + 2, hu => simp at hu

/-- THE LAW, for every argument and every world that holds the variable. -/
theorem contract (H : Type) (enc : TypeId × Value → H) (W : World) (base : Nat) (args : Array Value) (ds gs : List (DataW H)) (before : List MemPlace)
    (hval : ∀ (j : Nat) t v, Tryd.f3.params[j]? = some t → args[j]? = some v → Value.okWide Tryd.prog W .any base t v)
    (hW : DataW.Whole enc Tryd.prog Tryd.f3.params.toList Rows.fnInputSpec.vars false W args.toList ds gs before) (hL : laidMetH Tryd.prog Rows.fnInputRow.laid W) :
    Calls Tryd.prog 3 args W fun e W' => ∃ v, e = .returned v ∧ Rows.fnInputSpec.post enc Tryd.prog Tryd.f3 false true false false W args v W' := by
  have hW' := hW
  obtain ⟨p, q, hA0, hV, rfl, hfz, hnd⟩ := hW
  have hA : DataW.TrodAll enc Tryd.prog W 0 (fun _ => true) true Tryd.f3.params.toList args.toList ds p := hA0
  rw [Tryd.params3] at hA hval
  obtain ⟨v0, vs0, d0, ds0, p0, q0, hargs, rfl, rfl, h0, r0⟩ := trodAll_cons hA
  obtain ⟨v1, vs1, d1, ds1, p1, q1, rfl, rfl, rfl, h1, r1⟩ := trodAll_cons r0
  obtain ⟨rfl, rfl, rfl⟩ := trodAll_nil r1
  obtain rfl : args = #[v0, v1] := by cases args; simp_all
  obtain ⟨rfl, rfl⟩ := trodVars_none hV
  obtain ⟨a0, len0, cap0, rfl⟩ := okWide_slice Tryd.underlying22 (hval 0 22 v0 rfl rfl)
  obtain ⟨a1, len1, cap1, rfl⟩ := okWide_slice Tryd.underlying23 (hval 1 23 v1 rfl rfl)
  have lt0 : ∀ x ∈ p0, x.block < W.heap.size := by obtain ⟨m, hm⟩ := h0; exact DataW.trod_lt m _ _ _ hm
  have lt1 : ∀ x ∈ p1, x.block < W.heap.size := by obtain ⟨m, hm⟩ := h1; exact DataW.trod_lt m _ _ _ hm
  have k0 := h0
  have k1 := h1
  obtain ⟨l0, rfl, hr0, hc0, hb⟩ := open_bytes h0
  obtain ⟨l1, rfl, hr1, hc1, hm1⟩ := open_steps h1
  obtain ⟨pa, hg⟩ := eof_of_laid hL
  have hb' : ∀ j, 0 ≤ rd l0 j ∧ rd l0 j ≤ 255 := fun j => by
    unfold rd
    rw [List.getD_eq_getElem?_getD]
    rcases Nat.lt_or_ge j.toNat l0.length with hj | hj
    · rw [List.getElem?_eq_getElem hj]
      exact hb _ (List.getElem_mem hj)
    · rw [List.getElem?_eq_none hj]
      simp
  clear hA0 hA hval hL h0 h1 r0
  have walk : Calls Tryd.prog 3 #[.slice a0 l0.length cap0, .slice a1 l1.length cap1] W fun e w' => e = .returned (.bool true) ∧ Below W.heap.size W w' := by
    by_cases hlong : l0.length > 2147483647 ∨ l1.length > 2147483647
    · exact InpM.law_long a0 cap0 l0 a1 cap1 l1 W hr0.2.1 hm1 hlong
    · by_cases hmany : l0.length ≤ 300 ∧ l1.length ≤ 100
      · exact InpM.law_main a0 cap0 l0 a1 cap1 l1 W pa hr0 hc0 hr1 hc1 hmany.1 hmany.2 hb' hg
      · exact InpM.law_many a0 cap0 l0 a1 cap1 l1 W hr0 hc0 hr1 hc1 (by omega) (by omega) hmany
  refine walk.mono fun e W' ⟨he, bel⟩ => ?_
  subst he
  exact ⟨_, rfl, _, _, _, [], _, [], hW', trodAll_mk1 (shut_bool Tryd.underlying4 _), trodAll_cons_mk (Below.trod laidOut (by kernel_rfl) (of_decide_eq_true (by kernel_rfl)) k0 bel lt0) (trodAll_cons_mk (Below.trod laidOut (by kernel_rfl) (of_decide_eq_true (by kernel_rfl)) k1 bel lt1) trodAll_mk0), rfl, bel.frame _, fun h => by cases h⟩

/-! ### A start that fits: nothing handed in, io.EOF as its own initialiser lays it. -/
noncomputable def low : Nat := (World.holding Tryd.prog default ⟨#[], #[], []⟩).heap.size
def eofS : ByteArray := { data := #[69, 79, 70] }
noncomputable def laidWorld (os : Os) : World :=
  let w0 := World.holding Tryd.prog os ⟨#[.cells #[.string eofS] 115], #[], []⟩
  { w0 with heap := w0.heap.modify 0 fun
      | .cells _ t frozen => .cells #[.iface 99 (.pointer (some ⟨low, 0, none⟩))] t frozen
      | o => o }
theorem laid_met (os : Os) (args : Array Value) : laidMet Tryd.prog Rows.fnInputRow.laid ((laidWorld os).forCall (fun _ _ => 0) ⟨#[], args, []⟩).memory :=
  laidMet_of_run (ps := [.cell 0 0, .cell low 0]) 8 (by kernel_rfl) (by kernel_rfl) (by kernel_rfl)
theorem reads (os : Os) {H : Type} (enc : TypeId × Value → H) : ∃ places, DataW.whole enc Tryd.prog ((laidWorld os).forCall (fun _ _ => 0) ⟨#[], #[.slice none 0 0, .slice none 0 0], []⟩).memory Tryd.f3.params.toList Rows.fnInputSpec.vars false #[Value.slice none 0 0, Value.slice none 0 0].toList 8 = some ([.nil, .nil], [], places) :=
  ⟨[], by kernel_rfl⟩

set_option maxRecDepth 100000 in
theorem lifted (os : Os) (started : os.Started) (H : Type) (enc : TypeId × Value → H) (F : Stop.Interp) :
    ReturnsInHanded {} Tryd.checked os 3 .any ((OpenSpec.ofChange Rows.fnInputSpec).preRow enc Tryd.prog Tryd.f3 Rows.fnInputRow.domain false Rows.fnInputRow.laid) (((OpenSpec.ofChange Rows.fnInputSpec).at F).post enc Tryd.prog Tryd.f3 false true false false) := by
  obtain ⟨places, hx⟩ := reads os enc
  refine returnsInHanded_of_row (C := Tryd.checked) (s := OpenSpec.ofChange Rows.fnInputSpec) own started (by kernel_rfl) Tryd.func3
    (witness_row_atRef (enc := enc) (C := Tryd.checked) false (laidWorld os) #[.slice none 0 0, .slice none 0 0] rfl (by kernel_rfl) (by kernel_rfl) (by kernel_rfl)
      (OpenSpec.preRow_of_cond 8 hx (by kernel_rfl) (fun k hk => by cases hk) (by kernel_rfl) (laid_met os _))) ?_
  intro W base args ds gs before hval hW _ _ _ hL _ _
  exact contract H enc W base args ds gs before hval hW hL

theorem said : Rows.FnInputSaid :=
  OpenClaim.holds_of_cond 3 Tryd.f3 rfl rfl rfl rfl rfl rfl rfl ⟨rfl, rfl, rfl, rfl, rfl⟩ rfl rfl rfl rfl rfl (by kernel_rfl) Tryd.func3 (by kernel_rfl)
    (of_decide_eq_true (by kernel_rfl)) (by unfold Func.isWrapper; first | (rw [if_pos (by decide +kernel)]; kernel_rfl) | (rw [if_neg (by decide +kernel)]; exact ⟨rfl, rfl⟩))
    (fun os started H enc _ F => by rw [OpenClaim.pre_eq_preRow]; exact lifted os started H enc F)

/-- No parameter wants a stand-in: what the card asks. -/
theorem plain (f : FuncId) (fn : Func) (hf : Tryd.pinned.checked.prog.funcNamed "loop.example/pub-g01475/laws.FnInput" = some f) (hfn : Tryd.pinned.checked.prog.funcs[f]? = some fn) :
    true = Tryd.pinned.checked.prog.looks [] ∧ ∀ (j : Nat) t, fn.params[j]? = some t → Tryd.pinned.checked.prog.wantsStandIn t = false := by
  obtain rfl : f = 3 := Option.some.inj ((show Tryd.prog.funcNamed "loop.example/pub-g01475/laws.FnInput" = some 3 by kernel_rfl).symm.trans hf) |>.symm
  obtain rfl : fn = Tryd.f3 := (Option.some.inj (Tryd.func3.symm.trans hfn)).symm
  refine ⟨by kernel_rfl, fun j t ht => ?_⟩
  rw [Tryd.params3] at ht
  have ht' : t = 22 ∨ t = 23 := by simpa using Array.mem_of_getElem? ht
  rcases ht' with rfl | rfl
  · exact (show Tryd.prog.wantsStandIn 22 = false by kernel_rfl)
  · exact (show Tryd.prog.wantsStandIn 23 = false by kernel_rfl)

/-- THE CARD. -/
theorem card : Rows.FnInputCardSaid :=
  Claim7.holds_tied_plain_at .later [] _ _ _ _ said (fun _ h => by cases h) (by kernel_rfl) (fun _ h => by cases h) fnInput_row_tie rfl ⟨rfl, rfl⟩ (by kernel_rfl) rfl plain (by kernel_rfl)
#print axioms card
end Go.Proofs.YtojgpdphdhcjiaaDoor.fnInput
