/- parse.ReplaceEntities over pieces and entities, walked. -/
import Derived.Test.YtojgpdphdhcjiaaDoorEntR
namespace Go.Proofs.YtojgpdphdhcjiaaDoor.Ent
open Go.RowKit Go.Proofs.YtojgpdphdhcjiaaDoorW.PrintWords Go.Proofs.YtojgpdphdhcjiaaDoorW.PrintLast Go.Proofs.YtojgpdphdhcjiaaDoorW.PrintMore
open PFnEntityEach Go.Lib Brow Go.Maps
set_option linter.unusedVariables false
set_option linter.unusedSimpArgs false

/-- A text of pieces, each with an entity behind it; what it stands for. -/
def txt : List (List Int × S63) → List Int
  | [] => []
  | s :: r => s.1 ++ (mid s.2.f0 ++ txt r)
def due : List (List Int × S63) → List Int
  | [] => []
  | s :: r => s.1 ++ (ba s.2.f1 ++ due r)
/-- An entity that can be put in place. -/
structure EOk (w : World) (B bm : Nat) (D : DataW Value) (e : S63) : Prop where
  ent : Entry w B bm D e
  n0 : 2 ≤ e.f0.size ∧ e.f0.size ≤ 20
  alnum : ∀ t : Nat, t < e.f0.size → (97 ≤ bt e.f0 t ∧ bt e.f0 t ≤ 122) ∨ (48 ≤ bt e.f0 t ∧ bt e.f0 t ≤ 57)
  v0 : 1 ≤ e.f1.size ∧ e.f1.size ≤ e.f0.size + 2
  amp : (38 : Int) ∉ ba e.f1
theorem EOk.grown {w w' : World} {B bm g : Nat} {D : DataW Value} {e : S63} (h : EOk w B bm D e) (hg : w.grownBy w' (some g)) (hgB : g < B) : EOk w' B bm D e :=
  ⟨h.ent.move hg.size (fun k h1 h2 h3 => hg.block k h2 (by simp; omega)), h.n0, h.alnum, h.v0, h.amp⟩
theorem grown_trans {a b c : World} {r : Option Nat} (h1 : a.grownBy b r) (h2 : b.grownBy c r) : a.grownBy c r :=
  ⟨h2.os.trans h1.os, h2.tape.trans h1.tape, h2.output.trans h1.output, Nat.le_trans h1.size h2.size, fun k hk hne => (h2.block k (Nat.lt_of_lt_of_le hk h1.size) hne).trans (h1.block k hk hne)⟩
/-- What holds ahead of a round. -/
structure At (w wr : World) (g L c : Nat) (full pre : List Int) (segs : List (List Int × S63)) (DUE : List Int) (i : Nat) : Prop where
  row : Row 5 wr g full
  len : full.length = c
  hi : i = pre.length
  hL : L = (pre ++ txt segs).length
  tk : full.take L = pre ++ txt segs
  le : L ≤ c
  mx : L ≤ 1000000
  hdue : pre ++ due segs = DUE
  gr : w.grownBy wr (some g)
theorem At.cellAt {w wr : World} {g L c i : Nat} {full pre DUE : List Int} {segs : List (List Int × S63)} (h : At w wr g L c full pre segs DUE i) (hi : i < L) : wr.cell? ⟨g, i, none⟩ = some (.int .u8 (rd (txt segs) 0)) := by
  rw [h.row.cell i (by have := h.le; have := h.len; omega)]
  congr 2
  have h1 : full[i]? = (txt segs)[0]? := by
    have h2 : (full.take L)[i]? = (pre ++ txt segs)[i]? := by rw [h.tk]
    rw [List.getElem?_take, if_pos hi, List.getElem?_append_right (by rw [h.hi]; omega), h.hi, Nat.sub_self] at h2
    rw [h.hi]; exact h2
  simp only [rd, Int.toNat_natCast, List.getD_eq_getElem?_getD]
  rw [h1]
  rfl
theorem At.full {w wr : World} {g L c i : Nat} {full pre DUE : List Int} {segs : List (List Int × S63)} (h : At w wr g L c full pre segs DUE i) : full = pre ++ txt segs ++ full.drop L := by
  have := List.take_append_drop L full
  rw [h.tk] at this
  exact this.symm
theorem txt_nil {segs : List (List Int × S63)} (h : txt segs = []) : segs = [] := by
  cases segs with
  | nil => rfl
  | cons s r => simp [txt, mid] at h
theorem At.swap {w wr wn : World} {g L c i : Nat} {full full2 pre DUE : List Int} {e : S63} {r : List (List Int × S63)} (h : At w wr g L c full pre (([], e) :: r) DUE i) (h1 : full2.length = c) (h2 : Row 5 wn g full2) (h3 : full2.take (pre.length + e.f1.size + (txt r).length) = pre ++ ba e.f1 ++ txt r) (h4 : wr.grownBy wn (some g)) (hv : e.f1.size ≤ e.f0.size + 2) :
    At w wn g (pre.length + e.f1.size + (txt r).length) c full2 (pre ++ ba e.f1) r DUE (i + e.f1.size) := by
  have hl : L = pre.length + (e.f0.size + 2) + (txt r).length := by rw [h.hL]; simp [txt, mid_len]; omega
  have hb := ba_len e.f1
  refine ⟨h2, h1, ?_, ?_, h3, ?_, ?_, ?_, grown_trans h.gr h4⟩
  · rw [h.hi]; simp [hb]
  · simp [hb]; omega
  · have := h.le; omega
  · have := h.mx; omega
  · rw [← h.hdue]; simp [Ent.due]
theorem At.byte {w wr : World} {g L c i : Nat} {full pre DUE pc : List Int} {x : Int} {e : S63} {r : List (List Int × S63)} (h : At w wr g L c full pre ((x :: pc, e) :: r) DUE i) : At w wr g L c full (pre ++ [x]) ((pc, e) :: r) DUE (i + 1) := by
  refine ⟨h.row, h.len, ?_, ?_, ?_, h.le, h.mx, ?_, h.gr⟩
  · have := h.hi; simp; omega
  · rw [h.hL]; simp [txt]
  · rw [h.tk]; simp [txt]
  · rw [← h.hdue]; simp [Ent.due]

theorem wrap_next {y n : Nat} (h : y + 1 = n) (hn : n ≤ 2000000) : wrap64 ((y : Int) + 1) = (n : Int) := by simp only [wrap64]; omega
theorem wrap_three {i : Nat} {x : Int} (h : x = (i : Int) + 3) (hn : i ≤ 2000000) : wrap64 ((i : Int) + 3) = x := by rw [h]; simp only [wrap64]; omega
set_option maxHeartbeats 2000000 in
set_option maxRecDepth 100000 in
theorem all_calls (w : World) (g B bm br n L c : Nat) (full : List Int) (segs : List (List Int × S63)) (D : DataW Value) (hr : Row 5 w g full) (hc : full.length = c) (hcm : c ≤ maxLen) (hL : L = (txt segs).length) (htk : full.take L = txt segs) (hle : L ≤ c) (hmx : L ≤ 1000000)
    (hown : w.ownsMap Tryd.prog 9 Self bm n D) (hown2 : w.ownsMap Tryd.prog 5 Self br 0 (.map [])) (hgB : g < B) (hgm : g ≠ bm) (hgr : g ≠ br) (hsegs : ∀ s ∈ segs, (38 : Int) ∉ s.1 ∧ EOk w B bm D s.2) :
    Calls Tryd.prog 35 #[.slice (some ⟨g, 0, none⟩) L c, .map (some bm), .map (some br)] w fun e w' => ∃ full', e = .returned (.slice (some ⟨g, 0, none⟩) (due segs).length c) ∧ full'.length = c ∧ Row 5 w' g full' ∧ full'.take (due segs).length = due segs ∧ (due segs).length ≤ c ∧ w.grownBy w' (some g) := by
  obtain ⟨DUE, hDUE⟩ : ∃ d, d = due segs := ⟨_, rfl⟩
  have HA0 := Aside0.mk (show At w w g L c full [] segs DUE 0 from ⟨hr, hc, rfl, by simpa using hL, by simpa using htk, hle, hmx, by simpa using hDUE.symm, World.grownBy.refl w _⟩)
  have HM := Aside0.mk (And.intro hown (And.intro hown2 (And.intro hgB (And.intro hgm (And.intro hgr (And.intro hcm hsegs))))))
  rw [← hDUE]
  clear hr hc hcm hL htk hle hmx hown hown2 hgB hgm hgr hsegs hDUE
  have HS0 := Aside0.mk (show ∀ s ∈ segs, s ∈ segs from fun s h => h)
  go_enter Tryd.func35, Tryd.ntmps35
  go_wp2_with (fail)
  go_loopg [0, 7] (txt segs).length (fun kq v0 v7 w' => ∃ (L' i : Nat), v0 = .slice (some ⟨g, 0, none⟩) L' c ∧ v7 = .int .i64 (i : Int) ∧ Aside0 (∃ full' pre segs', kq = (txt segs').length ∧ At w w' g L' c full' pre segs' DUE i ∧ ∀ s ∈ segs', (38 : Int) ∉ s.1 ∧ EOk w B bm D s.2))
  case atStart => exact ⟨L, 0, rfl, rfl, ⟨full, [], segs, rfl, HA0.out, HM.out.2.2.2.2.2.2⟩⟩
  case round =>
    obtain ⟨L', i, rfl, rfl, HI⟩ := hrel
    obtain ⟨full', pre, segs', hk, hA, hS⟩ := HI.out
    have hLl : L' = pre.length + (txt segs').length := by rw [hA.hL, List.length_append]
    have hii := hA.hi
    have hLm := hA.mx
    rcases segs' with _ | ⟨⟨pc, e⟩, r⟩
    · have e1 : i = L' := by simp [txt] at hLl; omega
      subst e1
      have q' : decide ((i : Int) < (i : Int)) = false := decide_eq_false (by omega)
      have HF := Aside0.mk (show ∃ full', i = DUE.length ∧ full'.length = c ∧ Row 5 wr g full' ∧ full'.take DUE.length = DUE ∧ DUE.length ≤ c ∧ w.grownBy wr (some g) from by
        have hd := hA.hdue
        simp only [Ent.due, List.append_nil] at hd
        have ht := hA.tk
        simp only [txt, List.append_nil] at ht
        subst hd
        have hl := hA.le
        rw [hii] at ht hl
        exact ⟨full', hii, hA.len, hA.row, ht, hl, hA.gr⟩)
      clear hA hS hLl hii hLm hk HI
      go_wp2_with (fail)
      go_ret
      obtain ⟨full2, h1, h2⟩ := HF.out
      exact ⟨full2, by rw [← h1]; rfl, h2⟩
    · rcases pc with _ | ⟨x, pc⟩
      · have hS1 : EOk wr B bm D e := EOk.grown (hS ([], e) (List.mem_cons_self ..)).2 hA.gr HM.out.2.2.1
        have hml := mid_len e.f0
        have hLe : L' = pre.length + (e.f0.size + 2) + (txt r).length := by rw [hLl]; simp [txt, hml]; omega
        have hn2 := hS1.n0.1
        have hlt : i < L' := by omega
        have hcell := hA.cellAt hlt
        rw [show rd (txt (([], e) :: r)) 0 = 38 from rfl] at hcell
        have hkept1 := World.ownsMap.kept HM.out.1 hA.gr (by simp only [ne_eq, Option.some.injEq]; exact fun h => HM.out.2.2.2.1 h.symm)
        have hkept2 := World.ownsMap.kept HM.out.2.1 hA.gr (by simp only [ne_eq, Option.some.injEq]; exact fun h => HM.out.2.2.2.2.1 h.symm)
        have hfull : full' = pre ++ mid e.f0 ++ txt r ++ full'.drop L' := by
          have h := hA.full
          simp only [txt, List.nil_append] at h
          rw [List.append_assoc pre]; exact h
        have HCall := Aside0.mk (repl_calls wr g B bm br n i L' c full' pre (txt r) (full'.drop L') [] [] e.f0 e.f1 D hA.row hfull hA.len hA.hi hLe hLm HM.out.2.2.2.2.2.1 hkept1 hS1.ent HM.out.2.2.1 HM.out.2.2.2.1 hkept2 HM.out.2.2.2.2.1 hS1.n0 hS1.alnum hS1.v0 hS1.amp)
        have HAt := Aside0.mk hA
        have HSr := Aside0.mk (show ∀ s ∈ r, (38 : Int) ∉ s.1 ∧ EOk w B bm D s.2 from fun s hs => hS s (List.mem_cons_of_mem _ hs))
        have HV := Aside0.mk hS1
        have hgk : gk = (txt (([], e) :: r)).length := hk
        have hgk2 : (txt r).length < gk := by rw [hgk]; simp [txt, hml]
        have u1 := eq_true (show (i : Int) < (L' : Int) by omega)
        have u2 := eq_true (show (0 : Int) ≤ (i : Int) by omega)
        have u3 : decide ((i : Int) < (L' : Int)) = true := decide_eq_true (by omega)
        have u4 := eq_true hlt
        obtain ⟨x3, hx3⟩ : ∃ x : Int, x = (i : Int) + 3 := ⟨_, rfl⟩
        have u5 : decide (x3 < (L' : Int)) = true := decide_eq_true (by omega)
        have u6 := eq_true (show x3 < (L' : Int) by omega)
        have hv0 := hS1.v0.1
        have hvm := hS1.v0.2
        have HK := Aside0.mk hgk2
        obtain ⟨y, hy⟩ : ∃ y : Nat, y = i + e.f1.size - 1 := ⟨_, rfl⟩
        have HY := Aside0.mk (show y + 1 = i + e.f1.size by omega)
        have hb1 : i + e.f1.size ≤ 2000000 := by omega
        have hb2 : i ≤ 2000000 := by omega
        have hw4 := wrap_next HY.out hb1
        have hw3 := wrap_three hx3 hb2
        clear hb1 hb2
        rw [← hy] at HCall
        clear hA hS hLl hii hLm hk HI hS1 hml hLe hn2 hkept1 hkept2 hfull hgk hgk2 hx3 hv0 hvm hlt hy
        go_wp2_with (go_at_call 41; refine HCall.out.mono ?_; rintro e2 w2 ⟨full2, rfl, hx⟩; have HX := Aside0.mk hx; clear hx)
        go_roundg (txt r).length
        case measure => exact HK.out
        case rel =>
          obtain ⟨h1, h2, h3, h4⟩ := HX.out
          have hsw := HAt.out.swap h1 h2 h3 h4 HV.out.v0.2
          exact ⟨pre.length + e.f1.size + (txt r).length, i + e.f1.size, rfl, by rw [hw4], ⟨full2, pre ++ ba e.f1, r, rfl, hsw, HSr.out⟩⟩
      · have hS1 := hS (x :: pc, e) (List.mem_cons_self ..)
        have hx38 : x ≠ 38 := fun h => hS1.1 (by rw [h]; exact List.mem_cons_self ..)
        have hlt : i < L' := by rw [hLl, hii]; simp [txt]
        have hcell := hA.cellAt hlt
        rw [show rd (txt ((x :: pc, e) :: r)) 0 = x from rfl] at hcell
        have HN := Aside0.mk (show ∃ full' pre segs', (txt ((pc, e) :: r)).length = (txt segs').length ∧ At w wr g L' c full' pre segs' DUE (i + 1) ∧ ∀ s ∈ segs', (38 : Int) ∉ s.1 ∧ EOk w B bm D s.2 from
          ⟨full', pre ++ [x], (pc, e) :: r, rfl, hA.byte, fun s hs => by
            rcases List.mem_cons.1 hs with rfl | hs
            · exact ⟨fun h => hS1.1 (List.mem_cons_of_mem _ h), hS1.2⟩
            · exact hS s (List.mem_cons_of_mem _ hs)⟩)
        have hgk : gk = (txt ((pc, e) :: r)).length + 1 := by rw [hk]; simp [txt]
        have u1 := eq_true (show (i : Int) < (L' : Int) by omega)
        have u2 := eq_true (show (0 : Int) ≤ (i : Int) by omega)
        have u3 : decide ((i : Int) < (L' : Int)) = true := decide_eq_true (by omega)
        have u4 := eq_true hlt
        have d1 : (x == 38) = false := beq_eq_false_iff_ne.mpr hx38
        have d2 := eq_false hx38
        have hw : wrap64 ((i : Int) + 1) = ((i + 1 : Nat) : Int) := by simp only [wrap64]; omega
        have HK := Aside0.mk hgk
        clear hA hS hLl hii hLm hk HI hS1 hx38 hlt hgk
        go_wp2_with (fail)
        go_roundg (txt ((pc, e) :: r)).length
        case measure => have := HK.out; omega
        case rel => exact ⟨L', i + 1, rfl, by rw [hw], HN⟩
end Go.Proofs.YtojgpdphdhcjiaaDoor.Ent
