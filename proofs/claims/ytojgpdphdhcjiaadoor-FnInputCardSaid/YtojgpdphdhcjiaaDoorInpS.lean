/- What is known of memory in a round of RunInput: the reader, the answers so far, the step's own boxes; and what each store does to it. -/
import Derived.Test.YtojgpdphdhcjiaaDoorInpQ
import Derived.Test.YtojgpdphdhcjiaaDoorInpR
import Derived.Test.YtojgpdphdhcjiaaDoorInpO
namespace Go.Proofs.YtojgpdphdhcjiaaDoor.InpM
open Go.RowKit Go.Proofs.YtojgpdphdhcjiaaDoorW.PrintWords Go.Proofs.YtojgpdphdhcjiaaDoorW.PrintLast Go.Proofs.YtojgpdphdhcjiaaDoorW.PrintMore
open PFnInput
set_option linter.unusedVariables false

/-- A reader whose buffer's row and spare are named. -/
def RdrAt (w : World) (base gz gb : Nat) (cap : Nat) (cur : Array Value) (F : Value) (bs : List Int) (pos st : Int) : Prop :=
  w.heap[gz]? = some (.cells #[.slice (some ⟨gb, 0, none⟩) bs.length cap, .int .i64 pos, .int .i64 st, .nilIface, F] 74 (0, 0)) ∧ w.heap[gb]? = some (.cells cur 5 (0, 0)) ∧ base ≤ gb ∧ base ≤ gz ∧ bs.length ≤ cap ∧ ∀ i : Nat, i < bs.length → cur[i]? = some (.int .u8 (rd bs i))

/-- Between two steps. -/
def St (W0 w : World) (gz gb cap : Nat) (cur : Array Value) (F : Value) (bs : List Int) (pos st : Int) (v : Value) (xs : List S46) : Prop :=
  RdrAt w W0.heap.size gz gb cap cur F bs pos st ∧ Kd.R k46 46 w W0.heap.size (fun _ => True) v xs ∧ Below W0.heap.size W0 w

/-- Within a step: its own box (gs) and its answer's (ga). -/
def Mid (W0 w : World) (gz gb cap : Nat) (cur : Array Value) (F : Value) (bs : List Int) (pos st : Int) (v : Value) (xs : List S46) (gs ga : Nat) (kd n num sz : Int) (txt : ByteArray) : Prop :=
  RdrAt w W0.heap.size gz gb cap cur F bs pos st ∧ Kd.R k46 46 w W0.heap.size (fun k => k ≠ ga) v xs ∧ Below W0.heap.size W0 w ∧
    w.heap[gs]? = some (.cells #[.int .i64 kd, .int .i64 n] 26 (0, 0)) ∧ w.heap[ga]? = some (.cells #[.int .i64 num, .int .i64 sz, .string txt] 46 (0, 0)) ∧ W0.heap.size ≤ ga

section
variable {W0 w w' : World} {gz gb cap : Nat} {cur : Array Value} {F : Value} {bs : List Int} {pos st : Int} {v : Value} {xs : List S46} {gs ga : Nat} {kd n num sz : Int} {txt : ByteArray}
theorem RdrAt.move (h : RdrAt w W0.heap.size gz gb cap cur F bs pos st) (h1 : w'.heap[gz]? = w.heap[gz]?) (h2 : w'.heap[gb]? = w.heap[gb]?) : RdrAt w' W0.heap.size gz gb cap cur F bs pos st :=
  ⟨h1.trans h.1, h2.trans h.2.1, h.2.2⟩
theorem below_step' {W0 w w' : World} (h : Below W0.heap.size W0 w) (k : Below w.heap.size w w') : Below W0.heap.size W0 w' := below_then h h.size k
theorem Mid.drewN (h : Mid W0 w gz gb cap cur F bs pos st v xs gs ga kd n num sz txt) (m : Nat) : Mid W0 (w.drewN m) gz gb cap cur F bs pos st v xs gs ga kd n num sz txt := by
  obtain ⟨h1, h2, h3, h4, h5, h6⟩ := h
  exact ⟨h1, Kd.R_drewN h2 m, pw_below_drewN h3 m, h4, h5, h6⟩
theorem Mid.same (h : Mid W0 w gz gb cap cur F bs pos st v xs gs ga kd n num sz txt) (hh : w'.heap = w.heap) (h1 : w'.os = w.os) (h2 : w'.tape = w.tape) (h3 : w'.output = w.output) : Mid W0 w' gz gb cap cur F bs pos st v xs gs ga kd n num sz txt := by
  obtain ⟨g1, g2, g3, g4, g5, g6⟩ := h
  have hb : Below w.heap.size w w' := ⟨h1, h2, h3, by rw [hh]; exact Nat.le_refl _, fun _ _ => by rw [hh]⟩
  exact ⟨g1.move (by rw [hh]) (by rw [hh]), Kd.R_below g2 hb, below_step' g3 hb, by rw [hh]; exact g4, by rw [hh]; exact g5, g6⟩
theorem Mid.gzgb (h : RdrAt w W0.heap.size gz gb cap cur F bs pos st) : gb ≠ gz := fun e => by
  subst e
  have := h.1.symm.trans h.2.1
  injection this with this
  injection this with _ this
  exact absurd this (by decide)
theorem blk_ne' {w : World} {g g' t t' : Nat} {cs cs' : Array Value} (h : w.heap[g]? = some (.cells cs t (0, 0))) (h' : w.heap[g']? = some (.cells cs' t' (0, 0))) (hne : t ≠ t') : g ≠ g' := fun e => by
  subst e
  have := h.symm.trans h'
  injection this with this
  injection this with _ this
  exact hne this
theorem Mid.setPos (h : Mid W0 w gz gb cap cur F bs pos st v xs gs ga kd n num sz txt) (p : Int) : Mid W0 (w.setCell ⟨gz, 1, none⟩ (.int .i64 p)) gz gb cap cur F bs p st v xs gs ga kd n num sz txt := by
  obtain ⟨h1, h2, h3, h4, h5, h6⟩ := h
  exact ⟨⟨blk_set (i := 1) h1.1 _, blk_far h1.2.1 (Mid.gzgb h1) _, h1.2.2⟩, Kd.R_set h2 h1.1 (by decide) 1 _, h3.setCell h1.2.2.2.1 _, blk_far h4 (blk_ne' h4 h1.1 (by decide)) _, blk_far h5 (blk_ne' h5 h1.1 (by decide)) _, h6⟩
theorem Mid.setSt (h : Mid W0 w gz gb cap cur F bs pos st v xs gs ga kd n num sz txt) (p : Int) : Mid W0 (w.setCell ⟨gz, 2, none⟩ (.int .i64 p)) gz gb cap cur F bs pos p v xs gs ga kd n num sz txt := by
  obtain ⟨h1, h2, h3, h4, h5, h6⟩ := h
  exact ⟨⟨blk_set (i := 2) h1.1 _, blk_far h1.2.1 (Mid.gzgb h1) _, h1.2.2⟩, Kd.R_set h2 h1.1 (by decide) 2 _, h3.setCell h1.2.2.2.1 _, blk_far h4 (blk_ne' h4 h1.1 (by decide)) _, blk_far h5 (blk_ne' h5 h1.1 (by decide)) _, h6⟩
theorem Mid.setA (h : Mid W0 w gz gb cap cur F bs pos st v xs gs ga kd n num sz txt) (i : Nat) (u : Value) (num' sz' : Int) (txt' : ByteArray)
    (hu : #[Value.int .i64 num, Value.int .i64 sz, Value.string txt].setIfInBounds i u = #[Value.int .i64 num', Value.int .i64 sz', Value.string txt']) : Mid W0 (w.setCell ⟨ga, i, none⟩ u) gz gb cap cur F bs pos st v xs gs ga kd n num' sz' txt' := by
  obtain ⟨h1, h2, h3, h4, h5, h6⟩ := h
  refine ⟨⟨blk_far h1.1 (blk_ne' h1.1 h5 (by decide)) _, blk_far h1.2.1 (blk_ne' h1.2.1 h5 (by decide)) _, h1.2.2⟩, Kd.R_far (p := ⟨ga, i, none⟩) h2 (fun _ hk => hk) _, h3.setCell h6 _, blk_far h4 (blk_ne' h4 h5 (by decide)) _, ?_, h6⟩
  have := blk_set (i := i) h5 u
  rw [hu] at this
  exact this
theorem RdrAt.byte (h : RdrAt w W0.heap.size gz gb cap cur F bs pos st) (i : Nat) (hi : i < bs.length) : w.cell? ⟨gb, i, none⟩ = some (.int .u8 (rd bs i)) :=
  (blk_cell h.2.1 i).trans (h.2.2.2.2.2 i hi)
theorem RdrAt.reads (h : RdrAt w W0.heap.size gz gb cap cur F bs pos st) (hm : bs.length ≤ 1000000) : Kd.C (Kd.int .u8) w (some ⟨gb, 0, none⟩) bs.length bs := by
  refine ⟨rfl, by omega, fun _ => ⟨_, rfl, fun j p hj => ⟨[.int .u8 p], rfl, rfl, fun i u hu => ?_⟩⟩⟩
  have hi : i = 0 := by
    rcases Nat.eq_zero_or_pos i with h0 | h0
    · exact h0
    · rw [List.getElem?_eq_none (by simp; omega)] at hu; cases hu
  subst hi
  have hu' : u = .int .u8 p := by simpa using hu.symm
  subst hu'
  have hjl : j < bs.length := (List.getElem?_eq_some_iff.1 hj).1
  have e : (⟨gb, 0, none⟩ : Addr).add (j * (Kd.int .u8).sz + 0) = ⟨gb, j, none⟩ := by
    have : j * (Kd.int .u8).sz + 0 = j := by show j * 1 + 0 = j; omega
    rw [this]; exact add_plain gb j
  rw [e, h.byte j hjl]
  simp only [rd, Int.toNat_natCast, List.getD_eq_getElem?_getD, hj, Option.getD_some]
/-- A step begins: its two boxes. -/
theorem St.begin (h : St W0 w gz gb cap cur F bs pos st v xs) (kd n : Int) (ga : Nat) (hga : ga = w.heap.size + 1) :
    Mid W0 ((w.alloc (.cells #[.int .i64 kd, .int .i64 n] 26)).alloc (.cells #[.int .i64 0, .int .i64 0, .string ⟨#[]⟩] 46)) gz gb cap cur F bs pos st v xs w.heap.size ga kd n 0 0 ⟨#[]⟩ := by
  obtain ⟨h1, h2, h3⟩ := h
  have hs := h3.size
  have e : (w.alloc (.cells #[.int .i64 kd, .int .i64 n] 26)).heap.size = w.heap.size + 1 := by simp
  refine ⟨h1.move (((Below.heap_alloc _ _ _ (by rw [e]; have := blk_lt h1.1; omega))).trans (Below.heap_alloc _ _ _ (blk_lt h1.1))) (((Below.heap_alloc _ _ _ (by rw [e]; have := blk_lt h1.2.1; omega))).trans (Below.heap_alloc _ _ _ (blk_lt h1.2.1))), ?_, (h3.alloc hs _).alloc (by rw [e]; omega) _, ?_, ?_, by omega⟩
  · exact Kd.R_alloc (Kd.R_alloc (Kd.R_mono (Kd.R_bound h2) (fun k hk => by have := hk.2.2.1; omega)) _) _
  · exact (Below.heap_alloc _ _ _ (by rw [e]; omega)).trans (heap_alloc_new w _)
  · subst hga
    have h := heap_alloc_new (w.alloc (.cells #[.int .i64 kd, .int .i64 n] 26)) (.cells #[.int .i64 0, .int .i64 0, .string ⟨#[]⟩] 46)
    rw [e] at h
    exact h
end
end Go.Proofs.YtojgpdphdhcjiaaDoor.InpM
