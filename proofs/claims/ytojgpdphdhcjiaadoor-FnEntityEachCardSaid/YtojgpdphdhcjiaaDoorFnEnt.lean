/- FnEntityEach: entities between pieces of text without ampersands become what they stand for. Conditions: the law's own. The tables of numbers hold what their own initialisers lay (the card ties them). -/
import Derived.Test.YtojgpdphdhcjiaaDoorCards
import Derived.Test.YtojgpdphdhcjiaaDoorTie
import Derived.Test.YtojgpdphdhcjiaaDoorEntY
import Derived.WalkKit
import Derived.ProofKit
import Derived.OpenShut
import Derived.ChangeOld
import Derived.ChangeArms
import Derived.LaidLaws
import Derived.Deep.DeepHandedRow
import Derived.Deep.DeepWitnessRowRef
import Derived.Deep.SlicePairs
import Derived.Deep.Slices
namespace Go.Proofs.YtojgpdphdhcjiaaDoor.fnEnt
open Go.ChangeShapes Go.WideShapes Go.ChangeAt Go.RowKit
open Go.Proofs.YtojgpdphdhcjiaaDoorW.PrintWords
open PFnEntityEach

theorem own : ownKnob Tryd.prog.godebug = none := by kernel_rfl
theorem laidOut : laidOutB Tryd.prog = true := by kernel_rfl

/-- The bytes that came in, as a list. -/
theorem open_bytes {H : Type} {enc : TypeId × Value → H} {W : World} {a : Option Addr} {len cap : Nat} {d : DataW H} {p : List MemPlace}
    (h : DataW.Trod enc Tryd.prog W 0 (fun _ => true) true 22 (.slice a len cap) d p) :
    ∃ l : List Int, len = l.length ∧ Kd.C (Kd.int .u8) W a l.length l ∧ l.length ≤ cap ∧ ∀ x ∈ l, 0 ≤ x ∧ x ≤ 255 := by
  obtain ⟨fuel, hf⟩ := h
  have row : ∃ zs, (a = none ∧ len = 0 ∧ cap = 0 ∧ zs = []) ∨ ∃ x, a = some x ∧ len ≤ cap ∧ cap ≤ maxLen ∧ zs.length = cap ∧ (∀ i, i < zs.length → W.cell? (x.add i) = some (.int .u8 (zs.getD i 0))) ∧ ∀ n ∈ zs, (Lit.int .u8 n).wf = true := by
    rcases open_ints Tryd.underlying22 Tryd.underlying5 (by kernel_rfl) hf with ⟨hcs, _⟩ | ⟨x, l, c, zs, hcs, _, hl, hm, hz, _, hcell, hwz⟩
    · simp [Value.cells] at hcs
      obtain ⟨rfl, rfl, rfl⟩ := hcs
      exact ⟨[], .inl ⟨rfl, rfl, rfl, rfl⟩⟩
    · simp [Value.cells] at hcs
      obtain ⟨rfl, rfl, rfl⟩ := hcs
      exact ⟨zs, .inr ⟨_, rfl, hl, hm, by simpa using hz, hcell, hwz⟩⟩
  obtain ⟨zs, w0⟩ := row
  obtain ⟨l, rfl, hr, hm, hw, hc⟩ := ReadsInt.ofRowC w0
  exact ⟨l, rfl, Kd.C_of_reads (d := (0 : Int)) (h1 := fun _ => rfl) hr, hc, fun x hx => by have := bounds_u8 (hw x hx); omega⟩

/-- The order that came in, as a list. -/
theorem open_order {H : Type} {enc : TypeId × Value → H} {W : World} {a : Option Addr} {len cap : Nat} {d : DataW H} {p : List MemPlace}
    (h : DataW.Trod enc Tryd.prog W 0 (fun _ => true) true 34 (.slice a len cap) d p) :
    ∃ l : List Int, len = l.length ∧ Kd.C (Kd.int .i64) W a l.length l ∧ l.length ≤ cap := by
  obtain ⟨fuel, hf⟩ := h
  have row : ∃ zs, (a = none ∧ len = 0 ∧ cap = 0 ∧ zs = []) ∨ ∃ x, a = some x ∧ len ≤ cap ∧ cap ≤ maxLen ∧ zs.length = cap ∧ (∀ i, i < zs.length → W.cell? (x.add i) = some (.int .i64 (zs.getD i 0))) ∧ ∀ n ∈ zs, (Lit.int .i64 n).wf = true := by
    rcases open_ints Tryd.underlying34 Tryd.underlying3 (by kernel_rfl) hf with ⟨hcs, _⟩ | ⟨x, l, c, zs, hcs, _, hl, hm, hz, _, hcell, hwz⟩
    · simp [Value.cells] at hcs
      obtain ⟨rfl, rfl, rfl⟩ := hcs
      exact ⟨[], .inl ⟨rfl, rfl, rfl, rfl⟩⟩
    · simp [Value.cells] at hcs
      obtain ⟨rfl, rfl, rfl⟩ := hcs
      exact ⟨zs, .inr ⟨_, rfl, hl, hm, by simpa using hz, hcell, hwz⟩⟩
  obtain ⟨zs, w0⟩ := row
  obtain ⟨l, rfl, hr, hm, hw, hc⟩ := ReadsInt.ofRowC w0
  exact ⟨l, rfl, Kd.C_of_reads (d := (0 : Int)) (h1 := fun _ => rfl) hr, hc⟩

/-- The entities that came in, as a list. -/
theorem open_ents {H : Type} {enc : TypeId × Value → H} {W : World} {a : Option Addr} {len cap : Nat} {d : DataW H} {p : List MemPlace}
    (h : DataW.Trod enc Tryd.prog W 0 (fun _ => true) true 32 (.slice a len cap) d p) :
    ∃ l : List S63, len = l.length ∧ Kd.C k63 W a l.length l ∧ l.length ≤ cap ∧ l.length ≤ 9223372036854775807 := by
  obtain ⟨fuel, hf⟩ := h
  rcases Deep.open_slice_pairs Tryd.underlying32 Tryd.underlying63 (by kernel_rfl) rfl rfl (by kernel_rfl) (by kernel_rfl) hf with ⟨hcs, _⟩ | ⟨x, l, c, m, n, V0, V1, D0, D1, P0, P1, hcs, _, hl, hm, hmm, _, hcell⟩
  · simp [Value.cells] at hcs
    obtain ⟨rfl, rfl, rfl⟩ := hcs
    exact ⟨[], rfl, ⟨rfl, by simp, fun h => absurd h (by simp)⟩, Nat.le_refl _, by simp⟩
  · simp [Value.cells] at hcs
    obtain ⟨rfl, rfl, rfl⟩ := hcs
    simp only [if_true] at hmm
    subst hmm
    have each : ∀ i, i < m → ∃ q : S63, V0 i = .string q.f0 ∧ V1 i = .string q.f1 := fun i hi => by
      obtain ⟨_, _, h0, h1⟩ := hcell i hi
      obtain ⟨n0, e0, _⟩ := DataW.trod_string Tryd.underlying9 h0
      obtain ⟨n1, e1, _⟩ := DataW.trod_string Tryd.underlying9 h1
      simp only [List.cons.injEq, and_true] at e0 e1
      exact ⟨⟨n0, n1⟩, e0, e1⟩
    obtain ⟨q, hq⟩ : ∃ q : Nat → S63, ∀ i, i < m → V0 i = .string (q i).f0 ∧ V1 i = .string (q i).f1 :=
      ⟨fun i => if h : i < m then (each i h).choose else z63, fun i hi => by simp only [dif_pos hi]; exact (each i hi).choose_spec⟩
    simp only [maxLen] at hm
    have hlen : ((List.range len).map q).length = len := by simp
    refine ⟨(List.range len).map q, hlen.symm, ⟨rfl, by rw [hlen]; omega, fun _ => ⟨x, rfl, fun j p hj => ⟨[.string p.f0, .string p.f1], rfl, k63_mk W p, fun i u hu => ?_⟩⟩⟩, by rw [hlen]; exact hl, by rw [hlen]; omega⟩
    have hjl : j < len := by
      have := (List.getElem?_eq_some_iff.1 hj).1
      rwa [hlen] at this
    have hp : p = q j := by
      rw [List.getElem?_map, List.getElem?_range hjl] at hj
      exact (Option.some.inj hj).symm
    subst hp
    obtain ⟨h0, h1, _⟩ := hcell j (by omega)
    obtain ⟨e0, e1⟩ := hq j (by omega)
    have hsz : k63.sz = 2 := rfl
    rw [hsz]
    match i, hu with
    | 0, hu => rw [Nat.add_zero, h0, e0]; simpa using hu
    | 1, hu => rw [h1, e1]; simpa using hu
    | i + 2, hu => simp at hu

/-- The pieces that came in, as a list. -/
theorem open_pieces {H : Type} {enc : TypeId × Value → H} {W : World} {a : Option Addr} {len cap : Nat} {d : DataW H} {p : List MemPlace}
    (h : DataW.Trod enc Tryd.prog W 0 (fun _ => true) true 33 (.slice a len cap) d p) :
    ∃ l : List (List Int), len = l.length ∧ Kd.C (Kd.slice 5 (Kd.int .u8)) W a l.length l ∧ l.length ≤ cap := by
  obtain ⟨fuel, hf⟩ := h
  rcases Deep.open_slice1 Tryd.underlying33 (by kernel_rfl) hf with ⟨hcs, _⟩ | ⟨x, l, c, m, n, V, D, Pl, hcs, _, hl, hm, hmm, _, hcell⟩
  · simp [Value.cells] at hcs
    obtain ⟨rfl, rfl, rfl⟩ := hcs
    exact ⟨[], rfl, ⟨rfl, by simp, fun h => absurd h (by simp)⟩, Nat.le_refl _⟩
  · simp [Value.cells] at hcs
    obtain ⟨rfl, rfl, rfl⟩ := hcs
    simp only [if_true] at hmm
    subst hmm
    have each : ∀ i, i < m → ∃ q : List Int, ∃ A c, V i = .slice A q.length c ∧ q.length ≤ c ∧ Kd.C (Kd.int .u8) W A q.length q := fun i hi => by
      obtain ⟨_, h0⟩ := hcell i hi
      rcases open_ints Tryd.underlying22 Tryd.underlying5 (by kernel_rfl) h0 with ⟨hcs, _⟩ | ⟨x2, l2, c2, zs, hcs, _⟩
      · simp only [List.cons.injEq, and_true] at hcs
        exact ⟨[], none, 0, hcs, Nat.le_refl _, ⟨rfl, by simp, fun h => absurd h (by simp)⟩⟩
      · simp only [List.cons.injEq, and_true] at hcs
        obtain ⟨q, hq, hq2, hq3, _⟩ := open_bytes (W := W) (a := some x2) (len := l2) (cap := c2) ⟨n, by rw [hcs] at h0; exact h0⟩
        exact ⟨q, some x2, c2, by rw [hcs, hq], hq3, hq2⟩
    obtain ⟨q, hq⟩ : ∃ q : Nat → List Int, ∀ i, i < m → ∃ A c, V i = .slice A (q i).length c ∧ (q i).length ≤ c ∧ Kd.C (Kd.int .u8) W A (q i).length (q i) :=
      ⟨fun i => if h : i < m then (each i h).choose else [], fun i hi => by simp only [dif_pos hi]; exact (each i hi).choose_spec⟩
    simp only [maxLen] at hm
    have hlen : ((List.range len).map q).length = len := by simp
    refine ⟨(List.range len).map q, hlen.symm, ⟨rfl, by rw [hlen]; omega, fun _ => ⟨x, rfl, fun j p hj => ?_⟩⟩, by rw [hlen]; exact hl⟩
    have hjl : j < len := by
      have := (List.getElem?_eq_some_iff.1 hj).1
      rwa [hlen] at this
    have hp : p = q j := by
      rw [List.getElem?_map, List.getElem?_range hjl] at hj
      exact (Option.some.inj hj).symm
    subst hp
    obtain ⟨A, c2, e0, e1, e2⟩ := hq j (by omega)
    refine ⟨[.slice A (q j).length c2], rfl, ⟨A, c2, rfl, e1, e2⟩, fun i u hu => ?_⟩
    obtain ⟨h0, _⟩ := hcell j (by omega)
    match i, hu with
    | 0, hu => rw [Nat.add_zero, show j * (Kd.slice 5 (Kd.int .u8)).sz = j from Nat.mul_one j, h0, e0]; simpa using hu

/-- THE LAW, for every argument. -/
theorem contract (H : Type) (enc : TypeId × Value → H) (W : World) (base : Nat) (args : Array Value) (ds gs : List (DataW H)) (before : List MemPlace)
    (hval : ∀ (j : Nat) t v, Tryd.f4.params[j]? = some t → args[j]? = some v → Value.okWide Tryd.prog W .any base t v)
    (hW : DataW.Whole enc Tryd.prog Tryd.f4.params.toList Rows.fnEntityEachSpec.vars false W args.toList ds gs before) :
    Calls Tryd.prog 4 args W fun e W' => ∃ v, e = .returned v ∧ Rows.fnEntityEachSpec.post enc Tryd.prog Tryd.f4 false true false false W args v W' := by
  have hW' := hW
  obtain ⟨p, q, hA0, hV, rfl, hfz, hnd⟩ := hW
  have hA : DataW.TrodAll enc Tryd.prog W 0 (fun _ => true) true Tryd.f4.params.toList args.toList ds p := hA0
  rw [Tryd.params4] at hA hval
  obtain ⟨v0, vs0, d0, ds0, p0, q0, hargs, rfl, rfl, h0, r0⟩ := trodAll_cons hA
  obtain ⟨v1, vs1, d1, ds1, p1, q1, rfl, rfl, rfl, h1, r1⟩ := trodAll_cons r0
  obtain ⟨v2, vs2, d2, ds2, p2, q2, rfl, rfl, rfl, h2, r2⟩ := trodAll_cons r1
  obtain ⟨rfl, rfl, rfl⟩ := trodAll_nil r2
  obtain rfl : args = #[v0, v1, v2] := by cases args; simp_all
  obtain ⟨rfl, rfl⟩ := trodVars_none hV
  obtain ⟨a0, len0, cap0, rfl⟩ := okWide_slice Tryd.underlying32 (hval 0 32 v0 rfl rfl)
  obtain ⟨a1, len1, cap1, rfl⟩ := okWide_slice Tryd.underlying33 (hval 1 33 v1 rfl rfl)
  obtain ⟨a2, len2, cap2, rfl⟩ := okWide_slice Tryd.underlying34 (hval 2 34 v2 rfl rfl)
  have lt0 : ∀ x ∈ p0, x.block < W.heap.size := by obtain ⟨m, hm⟩ := h0; exact DataW.trod_lt m _ _ _ hm
  have lt1 : ∀ x ∈ p1, x.block < W.heap.size := by obtain ⟨m, hm⟩ := h1; exact DataW.trod_lt m _ _ _ hm
  have lt2 : ∀ x ∈ p2, x.block < W.heap.size := by obtain ⟨m, hm⟩ := h2; exact DataW.trod_lt m _ _ _ hm
  have k0 := h0
  have k1 := h1
  have k2 := h2
  obtain ⟨l0, rfl, hr0, hc0, _⟩ := open_ents h0
  obtain ⟨l1, rfl, hr1, hc1⟩ := open_pieces h1
  obtain ⟨l2, rfl, hr2, hc2⟩ := open_order h2
  clear hA0 hA hval h0 h1 h2 r0 r1 r2
  refine (Ent.law W a0 a1 a2 cap0 cap1 cap2 l0 l1 l2 hr0 hc0 hr1 hc1 hr2 hc2).mono fun e W' ⟨he, bel⟩ => ?_
  subst he
  exact ⟨_, rfl, _, _, _, [], _, [], hW', trodAll_mk1 (shut_bool Tryd.underlying4 _), trodAll_cons_mk (Below.trod laidOut (by kernel_rfl) (of_decide_eq_true (by kernel_rfl)) k0 bel lt0) (trodAll_cons_mk (Below.trod laidOut (by kernel_rfl) (of_decide_eq_true (by kernel_rfl)) k1 bel lt1) (trodAll_cons_mk (Below.trod laidOut (by kernel_rfl) (of_decide_eq_true (by kernel_rfl)) k2 bel lt2) trodAll_mk0)), rfl, bel.frame _, fun h => by cases h⟩

/-! ### A start that fits: nothing handed in, the tables as their own initialisers lay them. -/
def litV : DataW Unit → Value
  | .lit (.int k n) => .int k n
  | _ => undef
def fillD (d : DataW Unit) : Obj → Obj
  | .cells c t frozen => .cells (match d with | .agg ps => (ps.map litV).toArray | _ => c) t frozen
  | o => o
noncomputable def laidWorld (os : Os) : World :=
  let w0 := World.holding Tryd.prog os ⟨#[], #[], []⟩
  { w0 with heap := ((w0.heap.modify 2 (fillD Rows.laid_math_bits_deBruijn32tab)).modify 3 (fillD Rows.laid_math_bits_deBruijn64tab)).modify 1 (fillD Rows.laid_internal_strconv_uint64pow10) }
def places : List MemPlace := (List.range 32).map (MemPlace.cell 2 ·) ++ (List.range 64).map (MemPlace.cell 3 ·) ++ (List.range 20).map (MemPlace.cell 1 ·)
theorem laid_met (os : Os) (args : Array Value) : laidMet Tryd.prog Rows.fnEntityEachRow.laid ((laidWorld os).forCall (fun _ _ => 0) ⟨#[], args, []⟩).memory :=
  laidMet_of_run (ps := places) 8 (by kernel_rfl) (by kernel_rfl) (by kernel_rfl)
theorem reads (os : Os) {H : Type} (enc : TypeId × Value → H) : ∃ places, DataW.whole enc Tryd.prog ((laidWorld os).forCall (fun _ _ => 0) ⟨#[], #[.slice none 0 0, .slice none 0 0, .slice none 0 0], []⟩).memory Tryd.f4.params.toList Rows.fnEntityEachSpec.vars false #[Value.slice none 0 0, Value.slice none 0 0, Value.slice none 0 0].toList 8 = some ([.nil, .nil, .nil], [], places) :=
  ⟨[], by kernel_rfl⟩

set_option maxRecDepth 100000 in
theorem lifted (os : Os) (started : os.Started) (H : Type) (enc : TypeId × Value → H) (F : Stop.Interp) :
    ReturnsInHanded {} Tryd.checked os 4 .any ((OpenSpec.ofChange Rows.fnEntityEachSpec).preRow enc Tryd.prog Tryd.f4 Rows.fnEntityEachRow.domain false Rows.fnEntityEachRow.laid) (((OpenSpec.ofChange Rows.fnEntityEachSpec).at F).post enc Tryd.prog Tryd.f4 false true false false) := by
  obtain ⟨places, hx⟩ := reads os enc
  refine returnsInHanded_of_row (C := Tryd.checked) (s := OpenSpec.ofChange Rows.fnEntityEachSpec) own started (by kernel_rfl) Tryd.func4
    (witness_row_atRef (enc := enc) (C := Tryd.checked) false (laidWorld os) #[.slice none 0 0, .slice none 0 0, .slice none 0 0] rfl (by kernel_rfl) (by kernel_rfl) (by kernel_rfl)
      (OpenSpec.preRow_of_cond 8 hx (by kernel_rfl) (fun k hk => by cases hk) (by kernel_rfl) (laid_met os _))) ?_
  intro W base args ds gs before hval hW _ _ _ hL _ _
  exact contract H enc W base args ds gs before hval hW

theorem said : Rows.FnEntityEachSaid :=
  OpenClaim.holds_of_cond 4 Tryd.f4 rfl rfl rfl rfl rfl rfl rfl ⟨rfl, rfl, rfl, rfl, rfl⟩ rfl rfl rfl rfl rfl (by kernel_rfl) Tryd.func4 (by kernel_rfl)
    (of_decide_eq_true (by kernel_rfl)) (by unfold Func.isWrapper; first | (rw [if_pos (by decide +kernel)]; kernel_rfl) | (rw [if_neg (by decide +kernel)]; exact ⟨rfl, rfl⟩))
    (fun os started H enc _ F => by rw [OpenClaim.pre_eq_preRow]; exact lifted os started H enc F)

/-- No parameter wants a stand-in: what the card asks. -/
theorem plain (f : FuncId) (fn : Func) (hf : Tryd.pinned.checked.prog.funcNamed "loop.example/pub-g01475/laws.FnEntityEach" = some f) (hfn : Tryd.pinned.checked.prog.funcs[f]? = some fn) :
    true = Tryd.pinned.checked.prog.looks [] ∧ ∀ (j : Nat) t, fn.params[j]? = some t → Tryd.pinned.checked.prog.wantsStandIn t = false := by
  obtain rfl : f = 4 := Option.some.inj ((show Tryd.prog.funcNamed "loop.example/pub-g01475/laws.FnEntityEach" = some 4 by kernel_rfl).symm.trans hf) |>.symm
  obtain rfl : fn = Tryd.f4 := (Option.some.inj (Tryd.func4.symm.trans hfn)).symm
  refine ⟨by kernel_rfl, fun j t ht => ?_⟩
  rw [Tryd.params4] at ht
  have ht' : t = 32 ∨ t = 33 ∨ t = 34 := by simpa using Array.mem_of_getElem? ht
  rcases ht' with rfl | rfl | rfl
  · exact (show Tryd.prog.wantsStandIn 32 = false by kernel_rfl)
  · exact (show Tryd.prog.wantsStandIn 33 = false by kernel_rfl)
  · exact (show Tryd.prog.wantsStandIn 34 = false by kernel_rfl)

/-- THE CARD. -/
theorem card : Rows.FnEntityEachCardSaid :=
  Claim7.holds_tied_plain_at .later [] _ _ _ _ said (fun _ h => by cases h) (by kernel_rfl) (fun _ h => by cases h) fnEntityEach_row_tie rfl ⟨rfl, rfl⟩ (by kernel_rfl) rfl plain (by kernel_rfl)
#print axioms card
end Go.Proofs.YtojgpdphdhcjiaaDoor.fnEnt
