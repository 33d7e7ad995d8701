/- impl.tableOf, walked: a map from the names to the values' bytes. -/
import Derived.Test.YtojgpdphdhcjiaaDoorEntK
import Derived.Maps.Own
import Derived.Maps.OwnSet
import Derived.Maps.Views
import Derived.StringKeys
namespace Go.Proofs.YtojgpdphdhcjiaaDoor.Ent
open Go.RowKit Go.Proofs.YtojgpdphdhcjiaaDoorW.PrintWords Go.Proofs.YtojgpdphdhcjiaaDoorW.PrintLast Go.Proofs.YtojgpdphdhcjiaaDoorW.PrintMore
open PFnEntityEach Go.Lib Go.Maps
set_option linter.unusedVariables false
set_option linter.unusedSimpArgs false

/-- An element reads as itself. -/
def Self (v : Value) : Option (DataW Value × List MemPlace) := some (.held v, [])
theorem law9 : Keyed Tryd.prog 9 := string_keyed Tryd.underlying9
/-- Bytes read in a block. -/
theorem C_heap {w w' : World} {g n : Nat} {xs : List Int} (h : Kd.C (Kd.int .u8) w (some ⟨g, 0, none⟩) n xs) (he : w'.heap[g]? = w.heap[g]?) : Kd.C (Kd.int .u8) w' (some ⟨g, 0, none⟩) n xs := by
  obtain ⟨h1, h2, h3⟩ := h
  refine ⟨h1, h2, fun h0 => ?_⟩
  obtain ⟨ad, e, hc⟩ := h3 h0
  cases e
  refine ⟨_, rfl, fun j p hj => ?_⟩
  obtain ⟨c, hs, hr, hcell⟩ := hc j p hj
  refine ⟨c, hs, hr, fun i u hu => ?_⟩
  have hc2 := hcell i u hu
  rw [add_plain] at hc2 ⊢
  rw [← hc2]
  exact World.cell?_of_block (w := w) (a := ⟨g, j * (Kd.int .u8).sz + i, none⟩) he
/-- The entity's name leads to its value's bytes, in a block from B on, none of them the map's. -/
def Entry (w : World) (B bm : Nat) (D : DataW Value) (e : S63) : Prop := ∃ g cap, Maps.has D (.string e.f0.data.toList) = true ∧ (∀ z, D.atKey (.string e.f0.data.toList) z = .held (.slice (some ⟨g, 0, none⟩) e.f1.size cap)) ∧ e.f1.size ≤ cap ∧ B ≤ g ∧ g < w.heap.size ∧ g ≠ bm ∧
  Kd.C (Kd.int .u8) w (some ⟨g, 0, none⟩) (ba e.f1).length (ba e.f1)
theorem Entry.move {w w' : World} {B bm : Nat} {D : DataW Value} {e : S63} (h : Entry w B bm D e) (hs : w.heap.size ≤ w'.heap.size) (hk : ∀ g, B ≤ g → g < w.heap.size → g ≠ bm → w'.heap[g]? = w.heap[g]?) : Entry w' B bm D e := by
  obtain ⟨g, cap, h1, h2, h3, h4, h5, h6, h7⟩ := h
  exact ⟨g, cap, h1, h2, h3, h4, by omega, h6, C_heap h7 (hk g h4 h5 h6)⟩
theorem name_ne {a b : ByteArray} (h : a ≠ b) : (Lit.string a.data.toList) ≠ Lit.string b.data.toList := by
  intro he
  injection he with he
  apply h
  rcases a with ⟨⟨a⟩⟩
  rcases b with ⟨⟨b⟩⟩
  simpa using he
theorem Entry.put {w : World} {B bm : Nat} {D : DataW Value} {e : S63} (h : Entry w B bm D e) {nm : ByteArray} (hne : e.f0 ≠ nm) (d : DataW Value) : Entry w B bm (D.put (.string nm.data.toList) d) e := by
  obtain ⟨g, cap, h1, h2, h3⟩ := h
  exact ⟨g, cap, by rw [has_put_other (name_ne hne)]; exact h1, fun z => by rw [atKey_put_other (name_ne hne)]; exact h2 z, h3⟩
theorem owns_bytes {w : World} {bm n : Nat} {D : DataW Value} (h : w.ownsMap Tryd.prog 9 Self bm n D) (s : ByteArray) : (bytesWorld w 5 s).ownsMap Tryd.prog 9 Self bm n D := by
  have hlt := World.ownsMap.lt h
  obtain ⟨es, clock, hb, x⟩ := h
  exact ⟨es, clock, (bytesWorld_at_old w 5 s bm hlt).trans hb, x⟩

set_option maxHeartbeats 2000000 in
set_option maxRecDepth 100000 in
theorem table_calls (w : World) (A : Option Addr) (c : Nat) (l : List S63) (hr : Kd.C k63 w A l.length l) (hc : l.length ≤ c) (hl : l.length ≤ 8) (hgd : ∀ i : Nat, i < l.length → Good l i) :
    Calls Tryd.prog 36 #[.slice A l.length c] w fun e w' => ∃ D, e = .returned (.map (some w.heap.size)) ∧ w'.ownsMap Tryd.prog 9 Self w.heap.size l.length D ∧ (∀ i : Nat, i < l.length → Entry w' w.heap.size w.heap.size D (rd_T63 l i)) ∧ Below w.heap.size w w' := by
  have HR := Aside0.mk hr
  have HC := Aside0.mk hc
  have HL := Aside0.mk hl
  have HGd := Aside0.mk hgd
  clear hr hc hl hgd
  have hcv : ∀ (W : World) (s : ByteArray), (convert 9 22 (.string s)).run Tryd.prog W = .ok (.slice (some ⟨W.heap.size, 0, none⟩) s.size (grownCap W s.size 0 5)) (bytesWorld W 5 s) := fun W s => Go.Lib.run_convert_string_bytes W 9 22 5 s Tryd.underlying9 Tryd.underlying22 Tryd.underlying5
  have hmm := @run_makeMap Tryd.prog
  go_enter Tryd.func36, Tryd.ntmps36
  go_wp2_with (fail)
  go_loopg [9] l.length (fun kq v9 w' => ∃ (i : Nat) (D : DataW Value), v9 = .int .i64 i ∧ Aside0 (i + kq = l.length ∧ w'.ownsMap Tryd.prog 9 Self w.heap.size i D ∧ (∀ j : Nat, j < i → Entry w' w.heap.size w.heap.size D (rd_T63 l j)) ∧ Below w.heap.size w w' ∧ w.heap.size < w'.heap.size))
  case atStart => exact ⟨0, .map [], rfl, ⟨by omega, World.ownsMap_made _ _ _ _, fun j hj => by omega, (Below.refl _ _).alloc (Nat.le_refl _) _, by simp⟩⟩
  case round =>
    obtain ⟨i, D, rfl, HI⟩ := hrel
    by_cases hk : gk = 0
    · have hi : i = l.length := by have := HI.out.1; omega
      subst hi
      have q' : decide ((l.length : Int) < (l.length : Int)) = false := decide_eq_false (by omega)
      go_wp2_with (fail)
      go_ret
      exact ⟨D, rfl, HI.out.2.1, HI.out.2.2.1, HI.out.2.2.2.1⟩
    · obtain ⟨k1, rfl⟩ : ∃ k1, gk = k1 + 1 := ⟨gk - 1, by omega⟩
      have hi : i < l.length := by have := HI.out.1; omega
      obtain ⟨ad, rfl, hx0, hx1⟩ := at_T63 HR.out (i : Int) (by omega) (by omega)
      have hy0 := (HI.out.2.2.2.1.cell (World.block_lt_of_cell? w _ hx0)).trans hx0
      have hy1 := (HI.out.2.2.2.1.cell (World.block_lt_of_cell? w _ hx1)).trans hx1
      have q0 := eq_true (show ((i : Int)) < l.length by omega)
      have q1 := eq_true (show (0 : Int) ≤ (i : Int) by omega)
      have q2 : decide ((i : Int) < (l.length : Int)) = true := decide_eq_true (by omega)
      have q3 : (i < l.length) = True := eq_true (by omega)
      have hw : wrap64 ((i : Int) + 1) = ((i + 1 : Nat) : Int) := by have := HL.out; simp only [wrap64]; omega
      clear hx0 hx1
      rw [Int.toNat_natCast] at hy0 hy1
      obtain ⟨nm, hnm⟩ : ∃ s, s = (rd_T63 l i).f0 := ⟨_, rfl⟩
      obtain ⟨vl, hvl⟩ : ∃ s, s = (rd_T63 l i).f1 := ⟨_, rfl⟩
      rw [← hnm] at hy0
      rw [← hvl] at hy1
      have hlen : nm.size ≤ maxLen ∧ vl.size ≤ 30 := by have h := HGd.out i hi; have h1 := h.n0; have h2 := h.v0; rw [← hnm] at h1 h2; rw [← hvl] at h2; simp only [maxLen]; omega
      have hkey : keyOf Tryd.prog 9 (.string nm) = some (.string nm.data.toList) := WideMaps.keyOf_string_mk Tryd.underlying9 hlen.1
      have HN := Aside0.mk (And.intro hnm (And.intro hvl hlen))
      clear hnm hvl hlen
      have HOwn := Aside0.mk (owns_bytes (HI.out.2.1.alloc (Obj.cells #[Value.string nm, Value.string vl] 63)) vl)
      have HLt := Aside0.mk (show i < maxLen by have := HL.out; simp only [maxLen]; omega)
      go_wp2_with (at_mapUpdate; refine wpList_mapUpdate_own _ rfl _ _ _ 68 rfl 9 22 law9 Tryd.underlying68 Self w.heap.size i D rfl HOwn.out HLt.out _ _ _ rfl rfl hkey (.held (.slice (some ⟨wr.heap.size + 1, 0, none⟩) vl.size (grownCap (wr.alloc (Obj.cells #[Value.string nm, Value.string vl] 63)) vl.size 0 5))) [] rfl ?_; intro w1 hown1 hgrow1; have HW1 := Aside0.mk (And.intro hown1 hgrow1); clear hown1 hgrow1)
      go_roundg k1
      case measure => omega
      case rel =>
        obtain ⟨hown1, hgrow1⟩ := HW1.out
        obtain ⟨hcnt, hown, hent, hbel, hlt⟩ := HI.out
        have hs : (bytesWorld (wr.alloc (Obj.cells #[Value.string nm, Value.string vl] 63)) 5 vl).heap.size = wr.heap.size + 2 := by rw [bytesWorld_size]; simp
        have hs1 := hgrow1.size
        rw [hs] at hs1
        have hkeep : ∀ g, w.heap.size ≤ g → g < wr.heap.size → g ≠ w.heap.size → w1.heap[g]? = wr.heap[g]? := fun g h1 h2 h3 => by
          rw [hgrow1.block g (by rw [hs]; omega) (by simpa using h3), bytesWorld_at_old _ 5 vl g (by simp; omega)]
          exact Below.heap_alloc wr _ g h2
        refine ⟨i + 1, _, by simp [hw], ⟨by omega, hown1, fun j hj => ?_, ?_, by omega⟩⟩
        · by_cases he : j = i
          · subst he
            refine ⟨wr.heap.size + 1, grownCap (wr.alloc (Obj.cells #[Value.string nm, Value.string vl] 63)) vl.size 0 5, ?_, fun z => ?_, ?_, by omega, by omega, by omega, ?_⟩
            · rw [← HN.out.1]; exact has_put_same (World.ownsMap.isMap hown) (show WideAt.IsKeyLit (.string nm.data.toList) from trivial) _
            · rw [← HN.out.1, ← HN.out.2.1]; exact atKey_put_same (World.ownsMap.isMap hown) (show WideAt.IsKeyLit (.string nm.data.toList) from trivial) _ _
            · rw [← HN.out.2.1]; exact grownCap_ge _ _ _ _
            · rw [← HN.out.2.1]
              have h := bytes_C (wr.alloc (Obj.cells #[Value.string nm, Value.string vl] 63)) vl (by have := HN.out.2.2.2; omega)
              rw [show (wr.alloc (Obj.cells #[Value.string nm, Value.string vl] 63)).heap.size = wr.heap.size + 1 by simp] at h
              exact C_heap h (hgrow1.block _ (by rw [hs]; omega) (by simp; omega))
          · have hj' : j < i := by omega
            have hne := (HGd.out i hi).other j hj'
            rw [← HN.out.1] at hne
            exact ((hent j hj').move (by omega) hkeep).put hne _
        · exact ((below_bytes (hbel.alloc hbel.size _) (by simp; omega) vl)).grown hgrow1 (by rw [hs]; omega) (fun k hk => by simp at hk; omega)
end Go.Proofs.YtojgpdphdhcjiaaDoor.Ent
