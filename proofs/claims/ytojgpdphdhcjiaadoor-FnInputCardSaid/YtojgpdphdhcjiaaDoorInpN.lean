/- NewInputBytes: a reader at the begin of the bytes, a 0 behind them. -/
import Derived.Test.YtojgpdphdhcjiaaDoorInpM
namespace Go.Proofs.YtojgpdphdhcjiaaDoor.InpM
open Go.RowKit Go.Proofs.YtojgpdphdhcjiaaDoorW.PrintWords Go.Proofs.YtojgpdphdhcjiaaDoorW.PrintLast Go.Proofs.YtojgpdphdhcjiaaDoorW.PrintMore
set_option linter.unusedVariables false
set_option linter.unusedSimpArgs false

/-- Block gz is a reader over the bytes bs, which lie in a block of their own. -/
def Rdr (w : World) (base gz : Nat) (bs : List Int) (pos st : Int) : Prop :=
  ∃ gb cap cur F, w.heap[gz]? = some (.cells #[.slice (some ⟨gb, 0, none⟩) bs.length cap, .int .i64 pos, .int .i64 st, .nilIface, F] 74 (0, 0)) ∧ w.heap[gb]? = some (.cells cur 5 (0, 0)) ∧ base ≤ gb ∧ base ≤ gz ∧ bs.length ≤ cap ∧ ∀ i : Nat, i < bs.length → cur[i]? = some (.int .u8 (rd bs i))

theorem R_nums {e : Nat} {w : World} {base : Nat} {ok : Nat → Prop} {k : IntKind} {v : Value} {xs : List Int} (h : Kd.R (Kd.int k) e w base ok v xs) : w.ownsRow base e 1 v xs.length (nums k xs) := by
  obtain ⟨inner, ho, hr⟩ := h.2
  have : inner = nums k xs := by
    apply List.ext_getElem?
    intro j
    have hl : inner.length = xs.length := by have h1 : inner.length = xs.length * 1 := hr.1; omega
    rcases Nat.lt_or_ge j xs.length with hj | hj
    · have h2 := hr.2 j _ (List.getElem?_eq_getElem hj)
      have h3 : (inner.drop (j * 1)).take 1 = [.int k xs[j]] := h2
      have h4 : ((inner.drop (j * 1)).take 1)[0]? = some (.int k xs[j]) := by rw [h3]; rfl
      rw [List.getElem?_take, List.getElem?_drop] at h4
      simpa [nums, List.getElem?_map, List.getElem?_eq_getElem hj] using h4
    · rw [List.getElem?_eq_none (by omega), List.getElem?_eq_none (by rw [nums_length]; omega)]
  rw [this] at ho
  exact ho


theorem alloc3_mid (w : World) (a b c : Obj) : (((w.alloc a).alloc b).alloc c).heap[w.heap.size + 1]? = some b := by
  have h := heap_alloc_new (w.alloc a) b
  have e : (w.alloc a).heap.size = w.heap.size + 1 := by simp
  rw [e] at h
  exact (Below.heap_alloc ((w.alloc a).alloc b) c (w.heap.size + 1) (by simp)).trans h

set_option maxHeartbeats 400000 in
theorem new_calls0 (A : Option Addr) (c : Nat) (base : Nat) (w : World) (hbase : base ≤ w.heap.size) :
    Calls Tryd.prog 16 #[.slice A 0 c] w fun e w' => ∃ gz, e = .returned (.pointer (some ⟨gz, 0, none⟩)) ∧ Rdr w' base gz [0] 0 0 ∧ Below base w w' := by
  go_enter Tryd.func16, Tryd.ntmps16
  go_wp2_with (fail)
  refine (PFnInput.tdparse_nullBuffer.calls [0] _ rfl).mono ?_
  rintro e w' ⟨v, rfl, hR, hb⟩
  have hz := alloc3_mid w (Obj.cells #[Value.slice A 0 c] 22) (Obj.cells #[Value.slice A 0 c, Value.int IntKind.i64 0, Value.int IntKind.i64 0, Value.nilIface, Value.nilFunc] 74) (Obj.cells #[Value.int IntKind.i64 0] 3)
  have hbw := Aside0.mk (show Below base w w' from ((((Below.refl base w).alloc hbase _).alloc (by simp; omega) _).alloc (by simp; omega) _).trans (hb.mono (by simp; omega)))
  have hz' := (hb.block _ (by simp)).trans hz
  have ho := R_nums hR
  obtain ⟨_, h | ⟨g, cap, cur, rfl, hg, hh, hn, hm, hs, ht⟩⟩ := ho
  · exact absurd h.2 (by simp)
  have HH := Aside0.mk (And.intro hg (And.intro hh (And.intro hn (And.intro hs ht))))
  have HZ := Aside0.mk hz'
  clear hR hb hz hg hh hn hm hs ht
  have c0 : w'.cell? ⟨w.heap.size + 1, 0, none⟩ = some (.slice A 0 c) := (blk_cell hz' 0).trans rfl
  have f0 := blk_frozen hz' 0
  clear hz'
  go_wp2
  go_ret
  obtain ⟨hg, hh, hn, hs, ht⟩ := HH.out
  have hlt : g ≠ w.heap.size + 1 := by
    intro e
    simp at hg
    omega
  refine ⟨w.heap.size + 1, rfl, ⟨g, cap, cur, .nilFunc, ?_, ?_, ?_, by omega, hn, ?_⟩, ?_⟩
  · exact blk_set (i := 0) HZ.out _
  · exact blk_far hh hlt _
  · simp at hg; omega
  · intro i hi
    have hi0 : i = 0 := by simpa using hi
    subst hi0
    have : (cur.toList.take 1)[0]? = (nums .u8 [0])[0]? := by rw [← ht]; rfl
    simpa [nums, List.getElem?_take, rd] using this
  · exact hbw.out.setCell (by show base ≤ w.heap.size + 1; omega) _
end Go.Proofs.YtojgpdphdhcjiaaDoor.InpM
