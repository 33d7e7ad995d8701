/- NewInputBytes over bytes that are there: the 0 goes into the spare, or behind a copy. -/
import Derived.Test.YtojgpdphdhcjiaaDoorInpN
import Derived.Test.YtojgpdphdhcjiaaDoorOwn
import Derived.Laws.EntriesVeiled
namespace Go.Proofs.YtojgpdphdhcjiaaDoor.InpM
open Go.RowKit Go.Proofs.YtojgpdphdhcjiaaDoorW.PrintWords Go.Proofs.YtojgpdphdhcjiaaDoorW.PrintLast Go.Proofs.YtojgpdphdhcjiaaDoorW.PrintMore Go.Proofs.YtojgpdphdhcjiaaDoor.Brow
set_option linter.unusedVariables false
set_option linter.unusedSimpArgs false

/-- A literal of one byte, in its block. -/
theorem lit_reads (w : World) (x : Int) : Kd.C (Kd.int .u8) (w.alloc (.cells #[.int .u8 x] 5)) (some ⟨w.heap.size, 0, none⟩) [x].length [x] :=
  (show Row 5 (w.alloc (.cells #[.int .u8 x] 5)) w.heap.size [x] from heap_alloc_new w _).reads 1 (by simp) (by simp)
theorem row_take (full bs : List Int) (i : Nat) (ht : full.take bs.length = bs) (hl : bs.length ≤ full.length) (hi : i < bs.length) :
    (nums .u8 full).toArray[i]? = some (.int .u8 (rd bs i)) := by
  simp only [nums, List.getElem?_toArray, List.getElem?_map, rd, Int.toNat_natCast, List.getD_eq_getElem?_getD]
  have h2 : (full.take bs.length)[i]? = bs[i]? := by rw [ht]
  rw [List.getElem?_take, if_pos hi] at h2
  rw [h2, List.getElem?_eq_getElem hi]
  rfl
theorem set_zero (full l : List Int) (i : Nat) (hl : l.length < full.length) (ht : full.take l.length = l) (hi : i ≤ l.length) :
    (nums .u8 (full.set l.length 0)).toArray[i]? = some (.int .u8 (rd (l ++ [0]) i)) := by
  simp only [nums, List.getElem?_toArray, List.getElem?_map, List.getElem?_set, rd, Int.toNat_natCast, List.getD_eq_getElem?_getD]
  rcases Nat.lt_or_eq_of_le hi with h | rfl
  · rw [if_neg (by omega), List.getElem?_append_left h]
    have h2 : (full.take l.length)[i]? = l[i]? := by rw [ht]
    rw [List.getElem?_take, if_pos h] at h2
    rw [h2, List.getElem?_eq_getElem h]
    rfl
  · simp [hl]

set_option maxHeartbeats 400000 in
theorem new_callsB (g : Nat) (full l : List Int) (base : Nat) (w : World) (hbase : base ≤ w.heap.size) (hg : base ≤ g) (hr : Row 5 w g full) (h0 : 0 < l.length) (hl : l.length < full.length) (hm : full.length ≤ maxLen) (ht : full.take l.length = l) :
    Calls Tryd.prog 16 #[.slice (some ⟨g, 0, none⟩) l.length full.length] w fun e w' => ∃ gz, e = .returned (.pointer (some ⟨gz, 0, none⟩)) ∧ Rdr w' base gz (l ++ [0]) 0 0 ∧ Below base w w' := by
  have HR := Aside0.mk hr
  have cN := hr.cell l.length hl
  have fN := hr.frozen l.length
  have hgl := hr.lt
  have HT := Aside0.mk ht
  simp only [maxLen] at hm
  clear hr ht
  have hz : ((l.length : Int) == 0) = false := beq_eq_false_iff_ne.2 (by omega)
  have hle : l.length + 1 ≤ full.length := hl
  have C3 : ∀ o1 o2 o3 : Obj, (((w.alloc o1).alloc o2).alloc o3).cell? ⟨g, l.length, none⟩ = some (.int .u8 (rd full l.length)) := fun o1 o2 o3 => (((HR.out.alloc o1).alloc o2).alloc o3).cell l.length hl
  have C4 : ∀ o1 o2 o3 o4 : Obj, ((((w.alloc o1).alloc o2).alloc o3).alloc o4).cell? ⟨g, l.length, none⟩ = some (.int .u8 (rd full l.length)) := fun o1 o2 o3 o4 => ((((HR.out.alloc o1).alloc o2).alloc o3).alloc o4).cell l.length hl
  have F4 : ∀ o1 o2 o3 o4 : Obj, ((((w.alloc o1).alloc o2).alloc o3).alloc o4).frozen? ⟨g, l.length, none⟩ = false := fun o1 o2 o3 o4 => ((((HR.out.alloc o1).alloc o2).alloc o3).alloc o4).frozen l.length
  have n0 : g ≠ w.heap.size := by omega
  have m0 : w.heap.size ≠ g := by omega
  have n1 : g ≠ w.heap.size + 1 := by omega
  have m1 : w.heap.size + 1 ≠ g := by omega
  have n2 : g ≠ w.heap.size + 1 + 1 := by omega
  have m2 : w.heap.size + 1 + 1 ≠ g := by omega
  clear cN fN
  go_enter Tryd.func16, Tryd.ntmps16
  go_wp2
  go_ret
  clear C3 C4 F4
  have e1 : (l ++ [(0 : Int)]).length = l.length + 1 := by simp
  refine ⟨w.heap.size + 1, rfl, ⟨g, full.length, (nums .u8 (full.set l.length 0)).toArray, .func (Fn.func 39) #[] #[.pointer (some ⟨w.heap.size + 1 + 1 + 1, 0, none⟩), .pointer (some ⟨w.heap.size, 0, none⟩), .pointer (some ⟨w.heap.size + 1 + 1, 0, none⟩)], ?_, ?_, hg, by omega, by rw [e1]; exact hle, ?_⟩, ?_⟩
  · rw [e1]
    exact blk_set (i := 4) (blk_set (i := 0) (blk_far ((Below.heap_alloc _ _ _ (by simp)).trans (alloc3_mid w _ _ _)) m1 _) _) _
  · exact (((((((HR.out.alloc _).alloc _).alloc _).alloc _).store l.length 0).far (p := ⟨w.heap.size + 1, 0, none⟩) n1 _).far (p := ⟨w.heap.size + 1, 4, none⟩) n1 _)
  · intro i hi
    exact set_zero full l i hl HT.out (by rw [e1] at hi; omega)
  · exact ((((((((Below.refl base w).alloc hbase _).alloc (by simp; omega) _).alloc (by simp; omega) _).alloc (by simp; omega) _).setCell (p := ⟨g, l.length, none⟩) hg _).setCell (p := ⟨w.heap.size + 1, 0, none⟩) (by show base ≤ w.heap.size + 1; omega) _).setCell (p := ⟨w.heap.size + 1, 4, none⟩) (by show base ≤ w.heap.size + 1; omega) _)

set_option maxHeartbeats 400000 in
theorem new_callsC (g : Nat) (l : List Int) (base : Nat) (w : World) (hbase : base ≤ w.heap.size) (hg : base ≤ g) (hr : Row 5 w g l) (h0 : 0 < l.length) (hm : l.length ≤ 1000000) :
    Calls Tryd.prog 16 #[.slice (some ⟨g, 0, none⟩) l.length l.length] w fun e w' => ∃ gz, e = .returned (.pointer (some ⟨gz, 0, none⟩)) ∧ Rdr w' base gz (l ++ [0]) 0 0 ∧ Below base w w' := by
  have HR := Aside0.mk hr
  have hgl := hr.lt
  clear hr
  have hz : ((l.length : Int) == 0) = false := beq_eq_false_iff_ne.2 (by omega)
  have HLit := Aside0.mk (show ∀ o1 o2 o3 : Obj, Kd.C (Kd.int .u8) ((((w.alloc o1).alloc o2).alloc o3).alloc (.cells #[.int .u8 0] 5)) (some ⟨w.heap.size + 1 + 1 + 1, 0, none⟩) [(0 : Int)].length [0] from fun o1 o2 o3 => by
    have h := lit_reads (((w.alloc o1).alloc o2).alloc o3) 0
    simpa using h)
  have n1 : g ≠ w.heap.size + 1 := by omega
  go_enter Tryd.func16, Tryd.ntmps16
  go_wp2_with (at_builtin; refine wpList_append _ rfl (.tmp 41) (.tmp 42) 22 5 base rfl Tryd.underlying22 PFnInput.info5 (.slice (some ⟨g, 0, none⟩) l.length l.length) l rfl ?c1 (some ⟨w.heap.size + 1 + 1 + 1, 0, none⟩) 1 [0] rfl ?c2 ?c3 ?c4 ?_; (case c1 => exact ⟨g, l, rfl, hg, (((HR.out.alloc _).alloc _).alloc _).alloc _, Nat.le_refl _, by simp only [maxLen]; omega, by simp⟩); (case c2 => exact HLit.out _ _ _); (case c3 => simp; omega); (case c4 => simp; omega); intro v' w' hv hgr hat; have HV := Aside0.mk hv; have HG := Aside0.mk hgr; clear hv hgr hat; obtain ⟨g', full, rfl, hg', hr', hl', hm', ht'⟩ := HV.out; have HX := Aside0.mk (And.intro hg' (And.intro hr' (And.intro hl' (And.intro hm' ht')))); clear hg' hr' hl' hm' ht'; have HZ := Aside0.mk ((HG.out.block (w.heap.size + 1) (by simp) (by simp [Value.ownBlock]; omega)).trans ((Below.heap_alloc _ _ _ (by simp)).trans (alloc3_mid w _ _ _))); have z0 : w'.cell? ⟨w.heap.size + 1, 0, none⟩ = some (.slice (some ⟨g, 0, none⟩) l.length l.length) := (blk_cell HZ.out 0).trans rfl; have f0 := blk_frozen HZ.out 0)
  go_ret
  obtain ⟨hg', hr', hl', hm', ht'⟩ := HX.out
  have hne : g' ≠ w.heap.size + 1 := by
    intro e
    have h2 := HZ.out
    rw [← e] at h2
    have h3 := h2.symm.trans hr'
    injection h3 with h3
    injection h3 with _ h3
    exact absurd h3 (by decide)
  have e1 : (l ++ [(0 : Int)]).length = l.length + 1 := by simp
  refine ⟨w.heap.size + 1, rfl, ⟨g', full.length, (nums .u8 full).toArray, .nilFunc, ?_, hr'.far hne _, hg', by omega, hl', ?_⟩, ?_⟩
  · have h := blk_set (i := 0) (u := .slice (some ⟨g', 0, none⟩) (l.length + 1) full.length) HZ.out
    rw [e1]
    exact h
  · intro i hi
    exact row_take full (l ++ [0]) i ht' hl' hi
  · exact ((((((Below.refl base w).alloc hbase _).alloc (by simp; omega) _).alloc (by simp; omega) _).alloc (by simp; omega) _).grown HG.out (by simp; omega) (fun k hk => by simp [Value.ownBlock] at hk; omega)).setCell (p := ⟨w.heap.size + 1, 0, none⟩) (by show base ≤ w.heap.size + 1; omega) _

/-- NewInputBytes over bytes of the call's own. -/
theorem new_calls (v : Value) (l : List Int) (base : Nat) (w : World) (hbase : base ≤ w.heap.size) (hv : Bs 5 w base v l) (hm : l.length ≤ 1000000) :
    Calls Tryd.prog 16 #[v] w fun e w' => ∃ gz, e = .returned (.pointer (some ⟨gz, 0, none⟩)) ∧ Rdr w' base gz (l ++ [0]) 0 0 ∧ Below base w w' := by
  obtain ⟨g, full, rfl, hg, hr, hl, hx, ht⟩ := hv
  rcases Nat.eq_zero_or_pos l.length with h0 | h0
  · have hn : l = [] := List.eq_nil_of_length_eq_zero h0
    subst hn
    exact new_calls0 _ _ base w hbase
  · rcases Nat.lt_or_eq_of_le hl with h | h
    · exact new_callsB g full l base w hbase hg hr h0 h hx ht
    · have hf : full = l := by rw [← ht, h, List.take_length]
      subst hf
      exact new_callsC g full base w hbase hg hr h0 hm
end Go.Proofs.YtojgpdphdhcjiaaDoor.InpM
