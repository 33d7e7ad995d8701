/- Tables of floats that are package-level variables: the cells that the rows' own condition gives. -/
import Derived.Lib.LaidTab
import Derived.Laws.Cover2
import Derived.Test.YtmpgbakkpbmpiaaDoorRows
namespace Go.Proofs.YtmpgbakkpbmpiaaDoor.Tab
open Go
def tab0 : List Nat := [4607182418800017408, 4621819117588971520, 4636737291354636288, 4652007308841189376, 4666723172467343360, 4681608360884174848, 4696837146684686336, 4711630319722168320, 4726483295884279808, 4741671816366391296, 4756540486875873280, 4771362005757984768, 4786511204640096256, 4801453603149578240, 4816244402031689728, 4831355200913801216, 4846369599423283200, 4861130398305394688, 4876203697187506176, 4891288408196988160, 4906019910204099648, 4921056587992461136, 4936209963552724370]
def tab1 : List Int := [1, 10, 100, 1000, 10000, 100000, 1000000, 10000000, 100000000, 1000000000, 10000000000, 100000000000, 1000000000000, 10000000000000, 100000000000000, 1000000000000000, 10000000000000000, 100000000000000000, 1000000000000000000]
def tab3 : List Nat := [4607182418800017408, 5085611494797045271, 5564284217833028085, 6043257259031049059, 6521906365687930162, 7000496887210966211, 7479368607221621995, 7958223736346011545, 8436737289693151036, 8915514139102383430]
def tab4 : List Nat := [4607182418800017408, 4621819117588971520, 4636737291354636288, 4652007308841189376, 4666723172467343360, 4681608360884174848, 4696837146684686336, 4711630319722168320, 4726483295884279808, 4741671816366391296, 4756540486875873280, 4771362005757984768, 4786511204640096256, 4801453603149578240, 4816244402031689728, 4831355200913801216, 4846369599423283200, 4861130398305394688, 4876203697187506176, 4891288408196988160, 4906019910204099648, 4921056587992461136, 4936209963552724370, 4950912855330343670, 4965913770331839924, 4981134201117475473, 4995809153217856309, 5010775143622804482, 5026061058026967681, 5040708725286295329, 5055640609639927018, 5070927765361438756]
def tab5 : List Nat := [4607182418800017408, 4128101167230658355, 3649340653511681853, 3170840353250979498, 2691949749288605597, 2213095475689254516, 1734519108376626298, 1255832114822727210, 776877706278891331, 298220099847875929, 2024]
def ftabData {H : Type} (zs : List Nat) : DataW H := .agg (zs.map fun z => .lit (.float .f64 z))
theorem trod_float {H : Type} {enc : TypeId × Value → H} {P : Program} {w : World} {base : Nat} {sp : Nat → Bool} {held : Bool} {fuel : Nat} {t : TypeId} {cs : List Value} {x : DataW H} {p : List MemPlace}
    (ht : P.underlying t = some (.float .f64)) (h : DataW.trod enc P w base sp held fuel t cs = some (x, p)) : ∃ z, cs = [.float .f64 z] ∧ x = .lit (.float .f64 z) := by
  cases fuel with
  | zero => simp [DataW.trod] at h
  | succ n =>
    simp only [DataW.trod, ht] at h
    split at h <;> simp_all
theorem cells_of_ftab {H : Type} {enc : TypeId × Value → H} {P : Program} {w : World} {base : Nat} {sp : Nat → Bool} {held : Bool} {fuel : Nat} {t e : TypeId} {n : Nat} {cs : List Value} {zs : List Nat} {p : List MemPlace}
    (ht : P.underlying t = some (.array n e)) (he : P.underlying e = some (.float .f64)) (hce : P.cellsOf e = 1) (hct : P.cellsOf t = n)
    (h : DataW.trod enc P w base sp held fuel t cs = some (ftabData zs, p)) : cs = zs.map fun z => Value.float .f64 z := by
  cases fuel with
  | zero => simp [DataW.trod] at h
  | succ fuel =>
    simp only [DataW.trod, ht, hce, hct, Nat.mul_one] at h
    split at h
    · rename_i hl
      obtain ⟨xs, hm, hx⟩ := Option.map_eq_some_iff.1 h
      have hxs : xs.map (·.1) = zs.map fun z => (DataW.lit (.float .f64 z) : DataW H) := by
        have := congrArg Prod.fst hx
        simpa [ftabData] using this
      have hxl : xs.length = n := by simpa using Lib.mapM_length hm
      have hzl : zs.length = n := by
        have := congrArg List.length hxs
        simp at this
        omega
      apply List.ext_getElem?
      intro i
      by_cases hi : i < n
      · obtain ⟨b, hb, hf⟩ := Lib.mapM_at hm i i (by simp [hi])
        obtain ⟨b1, b2⟩ := b
        obtain ⟨z, hc, hbz⟩ := trod_float he hf
        have h1 : cs[i]? = some (.float .f64 z) := by
          have := congrArg (·[0]?) hc
          simpa [List.getElem?_take, List.getElem?_drop] using this
        have h2 : (xs.map (·.1))[i]? = some (DataW.lit (.float .f64 z) : DataW H) := by simp [hb, hbz]
        rw [hxs] at h2
        simp only [List.getElem?_map, Option.map_eq_some_iff, DataW.lit.injEq, Lit.float.injEq, true_and] at h2
        obtain ⟨z', hz', rfl⟩ := h2
        simp [h1, hz']
      · rw [List.getElem?_eq_none (by omega), List.getElem?_eq_none (by simp; omega)]
    · cases h
def FTabIs (P : Program) (w : World) (name : String) (zs : List Nat) : Prop := w.var? P name = some (zs.map fun z => Value.float .f64 z).toArray
theorem ftabIs_of_head {P : Program} {W : World} {name : String} {zs : List Nat} {rest : List (String × DataW Unit)} {g : Nat} {t e : TypeId} {n : Nat}
    (hg : P.globalNamed name = some g) (hty : (P.globals[g]?).map (·.type) = some t) (ht : P.underlying t = some (.array n e)) (he : P.underlying e = some (.float .f64)) (hce : P.cellsOf e = 1) (hct : P.cellsOf t = n)
    (h : laidMet P ((name, ftabData zs) :: rest) W) : FTabIs P W name zs := by
  obtain ⟨ps, ⟨g', t', cs, fuel, p, q, hg', ht', hvar, hd, _, _⟩, _⟩ := h
  obtain rfl := Option.some.inj (hg.symm.trans hg')
  obtain rfl := Option.some.inj (hty.symm.trans ht')
  unfold FTabIs
  rw [hvar, ← cells_of_ftab ht he hce hct hd]
theorem FTabIs.cell {P : Program} {W : World} {name : String} {zs : List Nat} {g : Nat} (h : FTabIs P W name zs) (hg : P.globalNamed name = some g) (i : Nat) (hi : i < zs.length) :
    W.cell? ⟨g, i, none⟩ = some (.float .f64 (zs.getD i 0)) := by
  have := World.var?_cell hg h i
  simpa [List.getD, hi] using this
theorem cell_heap {w w' : World} {a : Addr} (h : w'.heap = w.heap) : w'.cell? a = w.cell? a := by simp only [World.cell?, h]
structure Tabs (w : World) : Prop where
  t3 : ∀ i < 10, w.cell? ⟨3, i, none⟩ = some (.float .f64 (tab3.getD i 0))
  t4 : ∀ i < 32, w.cell? ⟨4, i, none⟩ = some (.float .f64 (tab4.getD i 0))
  t5 : ∀ i < 11, w.cell? ⟨5, i, none⟩ = some (.float .f64 (tab5.getD i 0))
theorem Tabs.of_heap {w w' : World} (h : Tabs w) (hw : w'.heap = w.heap) : Tabs w' :=
  ⟨fun i hi => by rw [cell_heap hw]; exact h.t3 i hi, fun i hi => by rw [cell_heap hw]; exact h.t4 i hi, fun i hi => by rw [cell_heap hw]; exact h.t5 i hi⟩
def mulOk : Bool := (List.range 10).all fun i => (List.range 32).all fun j => (FloatKind.f64.format.mul (tab3.getD i 0) (tab4.getD j 0)).isSome
def divOk : Bool := (List.range 11).all fun i => (List.range 32).all fun j => (FloatKind.f64.format.div (tab5.getD i 0) (tab4.getD j 0)).isSome
theorem mul_ok : mulOk = true := by kernel_rfl
theorem div_ok : divOk = true := by kernel_rfl
theorem mul_some (i j : Nat) (hi : i < 10) (hj : j < 32) : ∃ r, FloatKind.f64.format.mul (tab3.getD i 0) (tab4.getD j 0) = some r := by
  have h := mul_ok
  simp only [mulOk, List.all_eq_true, List.mem_range] at h
  exact Option.isSome_iff_exists.1 (h i hi j hj)
theorem div_some (i j : Nat) (hi : i < 11) (hj : j < 32) : ∃ r, FloatKind.f64.format.div (tab5.getD i 0) (tab4.getD j 0) = some r := by
  have h := div_ok
  simp only [divOk, List.all_eq_true, List.mem_range] at h
  exact Option.isSome_iff_exists.1 (h i hi j hj)
end Go.Proofs.YtmpgbakkpbmpiaaDoor.Tab
