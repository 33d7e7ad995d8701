/- parse.replaceEntities at an entity by its name, walked. -/
import Derived.Test.YtojgpdphdhcjiaaDoorEntQ
namespace Go.Proofs.YtojgpdphdhcjiaaDoor.Ent
open Go.RowKit Go.Proofs.YtojgpdphdhcjiaaDoorW.PrintWords Go.Proofs.YtojgpdphdhcjiaaDoorW.PrintLast Go.Proofs.YtojgpdphdhcjiaaDoorW.PrintMore
open PFnEntityEach Go.Lib Brow Go.Maps
set_option linter.unusedVariables false
set_option linter.unusedSimpArgs false

theorem one_pos {v : Nat} (h : v = 1) : (0 : Int) < (v : Int) ∧ 0 < v := by omega
theorem one_byte {w : World} {gv v : Nat} {vs : List Int} (hC : Kd.C (Kd.int .u8) w (some ⟨gv, 0, none⟩) v vs) (hv : vs.length = v) (h1 : v = 1) : ∃ x, x ∈ vs ∧ w.cell? ⟨gv, 0, none⟩ = some (.int .u8 x) := by
  obtain ⟨ad, had, hx2⟩ := Kd.at_int hC 0 (by omega) (by omega)
  cases had
  rw [show ((0 : Int)).toNat = 0 from rfl, Addr.add_zero'] at hx2
  exact ⟨rd vs 0, rd_mem (i := 0) (by omega), hx2⟩
theorem size5 : (Tryd.prog.info? 5).map (·.size) = some 1 := by kernel_rfl
theorem C_pos {w : World} {A : Option Addr} {n : Nat} {vs : List Int} (hC : Kd.C (Kd.int .u8) w A n vs) (h : 0 < vs.length) : ∃ ad, A = some ad ∧ ∀ (j : Nat) (x : Int), vs[j]? = some x → w.cell? (ad.add j) = some (.int .u8 x) := by
  have hn := hC.1
  obtain ⟨ad, he, hc⟩ := hC.2.2 (by omega)
  refine ⟨ad, he, fun j x hj => ?_⟩
  obtain ⟨cs, hs, hr, hcell⟩ := hc j x hj
  have hr' : cs = [.int .u8 x] := hr
  subst hr'
  have h2 := hcell 0 _ rfl
  rw [show j * (Kd.int .u8).sz + 0 = j by show j * 1 + 0 = j; omega] at h2
  exact h2
theorem copy_one {i j m L c v : Nat} {full vs : List Int} (hj : j = i + 1 + m) (h : m ≤ 20 ∧ L ≤ 1000000 ∧ L ≤ c ∧ True ∨ True) (hv : vs.length = v) (h1 : 1 ≤ v) (h2 : v ≤ m + 2) (hL : i + 2 + m ≤ L) (hf : full.length = c) (hLc : L ≤ c) : vs.length = Nat.min v (L - i) ∧ i + vs.length ≤ full.length := by
  refine ⟨?_, by omega⟩
  rw [hv]
  exact (Nat.min_eq_left (by omega)).symm
theorem idx_ne {i m L c : Nat} (h : i + 2 + m ≤ L) (hLc : L ≤ c) : ¬ c = i ∧ ¬ i = c := by omega
theorem idx_le {i m L c : Nat} (h : i + 2 + m ≤ L) (hLc : L ≤ c) : i ≤ L ∧ i ≤ c := by omega
theorem len_facts {i j m L v q p r c : Nat} {y2 z1 z2 : Int} (hq : q = j + 1) (hp : p = i + v) (h2 : y2 = (m : Int) + 2) (hz1 : z1 = (L : Int) - y2) (hr : r + (m + 2) = L + v) (hz2 : z2 = (p : Int) - 1) (hj : j = i + 1 + m) (hL : i + 2 + m ≤ L) (hm : L ≤ 1000000) (h2m : 2 ≤ m) (hv : 1 ≤ v ∧ v ≤ m + 2) (hc : L ≤ c) :
    wrap64 ((j : Int) + 1) = (q : Int) ∧ wrap64 ((q : Int) - (i : Int)) = y2 ∧ decide (2 < y2) = true ∧ (2 < y2) = True ∧
    IntKind.i64.wrap ((i : Int) + (v : Int)) = (p : Int) ∧ ((p : Int) ≤ (L : Int)) = True ∧ IntKind.i64.wrap ((j : Int) + 1) = (q : Int) ∧ ((q : Int) ≤ (L : Int)) = True ∧
    wrap64 ((L : Int) - y2) = z1 ∧ wrap64 (z1 + (v : Int)) = (r : Int) ∧ ((r : Int) ≤ (c : Int)) = True ∧ wrap64 ((i : Int) + (v : Int)) = (p : Int) ∧ wrap64 ((p : Int) - 1) = z2 ∧ (p ≤ L) = True ∧ (q ≤ L) = True ∧ (r ≤ c) = True := by
  refine ⟨?_, ?_, decide_eq_true (by omega), eq_true (by omega), ?_, eq_true (by omega), ?_, eq_true (by omega), ?_, ?_, eq_true (by omega), ?_, ?_, eq_true (by omega), eq_true (by omega), eq_true (by omega)⟩
  · simp only [wrap64]; omega
  · simp only [wrap64]; omega
  · simp only [IntKind.wrap_i64]; omega
  · simp only [IntKind.wrap_i64]; omega
  · simp only [wrap64]; omega
  · simp only [wrap64]; omega
  · simp only [wrap64]; omega
  · simp only [wrap64]; omega
theorem copy_two {g i v q p L c : Nat} {pre md post spare vs full : List Int} {dp sp : Option Addr} {W : World} (hf : full = pre ++ md ++ post ++ spare) (hi : i = pre.length) (hv : vs.length = v) (hvm : v ≤ md.length) (hq : q = i + md.length) (hp : p = i + v) (hL : L = i + md.length + post.length) (hc : full.length = c) (hW : Row 5 W g (over full i vs))
    (hdp : (if c = p then some (⟨g, 0, none⟩ : Addr) else some ⟨g, p, none⟩) = dp) (hsp : (if c = q then some (⟨g, 0, none⟩ : Addr) else some ⟨g, q, none⟩) = sp) :
    post.length = Nat.min (L - q) (L - p) ∧ (0 < post.length → dp = some ⟨g, p, none⟩ ∧ ∃ ad, sp = some ad ∧ ∀ (j : Nat) (x : Int), post[j]? = some x → W.cell? (ad.add j) = some (.int .u8 x)) ∧ p + post.length ≤ (over full i vs).length := by
  have hcl : c = pre.length + md.length + post.length + spare.length := by rw [← hc, hf]; simp only [List.length_append]
  have ho : (over full i vs).length = c := by rw [over_len (by omega)]; exact hc
  refine ⟨?_, fun h0 => ?_, by omega⟩
  · rw [show L - q = post.length by omega]
    exact (Nat.min_eq_left (by omega)).symm
  · rw [if_neg (by omega)] at hdp hsp
    refine ⟨hdp.symm, _, hsp.symm, fun j x hj => ?_⟩
    have hjl : j < post.length := (List.getElem?_eq_some_iff.1 hj).1
    rw [Go.WideShapes.add_plain, hW.cell (q + j) (by omega)]
    have h := over_rest pre md vs post spare (by omega) full hf
    congr 2
    have h2 : (over full i vs)[q + j]? = post[j]? := by
      have h3 : ((over full i vs).drop (pre.length + md.length))[j]? = (post ++ spare)[j]? := by rw [hi, h]
      rw [List.getElem?_drop, List.getElem?_append_left hjl] at h3
      rw [← h3, hq, hi]
    simp only [rd, Int.toNat_natCast, List.getD_eq_getElem?_getD]
    rw [h2, hj]
    rfl
theorem len_r {i m L v : Nat} (h : i + 2 + m ≤ L) : L + v - (m + 2) + (m + 2) = L + v := by omega
theorem mid_v {v m : Nat} {nm : ByteArray} (h : v ≤ m + 2) (hm : m = nm.size) : v ≤ (mid nm).length := by rw [mid_len]; omega
theorem mid_q {i j m q : Nat} {nm : ByteArray} (h : q = j + 1) (hj : j = i + 1 + m) (hm : m = nm.size) : q = i + (mid nm).length := by rw [mid_len]; omega
theorem mid_L {i L : Nat} {pre post : List Int} {nm : ByteArray} (h : L = pre.length + (nm.size + 2) + post.length) (hi : i = pre.length) : L = i + (mid nm).length + post.length := by rw [mid_len]; omega
theorem repl_done {g i m v p r L c : Nat} {z2 : Int} {pre post spare vs full : List Int} {nm vl : ByteArray} {w wa wb : World} (hf : full = pre ++ mid nm ++ post ++ spare) (hc : full.length = c) (hi : i = pre.length) (hL : L = pre.length + (nm.size + 2) + post.length) (hm : m = nm.size) (hvs : vs = ba vl) (hvv : v = vl.size) (hv : 1 ≤ v ∧ v ≤ m + 2)
    (hp : p = i + v) (hz2 : z2 = (p : Int) - 1) (hr : r + (m + 2) = L + v) (hW : Row 5 wb g (over (over full i vs) p post)) (h1 : w.grownBy wa (some g)) (h2 : wa.drew.grownBy wb (some g)) :
    ∃ full', Ending.returned (.tuple #[.slice (some ⟨g, 0, none⟩) r c, .int .i64 z2]) = Ending.returned (.tuple #[.slice (some ⟨g, 0, none⟩) (pre.length + vl.size + post.length) c, .int .i64 ((i + vl.size - 1 : Nat) : Int)]) ∧
      full'.length = c ∧ Row 5 wb g full' ∧ full'.take (pre.length + vl.size + post.length) = pre ++ ba vl ++ post ∧ w.grownBy wb (some g) := by
  have hvl : vs.length = v := by rw [hvs, ba_len, hvv]
  have hml := mid_len nm
  have hcl : c = pre.length + (nm.size + 2) + post.length + spare.length := by rw [← hc, hf]; simp only [List.length_append]; omega
  have e1 : r = pre.length + vl.size + post.length := by omega
  have e2 : z2 = ((i + vl.size - 1 : Nat) : Int) := by omega
  have o1 : (over full i vs).length = c := by rw [over_len (by omega)]; exact hc
  have h3 := over_twice pre (mid nm) vs post spare (by omega) full hf
  refine ⟨_, by rw [e1, e2], ?_, hW, ?_, ?_⟩
  · rw [over_len (by omega)]; exact o1
  · rw [← hvs, ← hvv, ← hvl, hp, hi, ← hvl]; exact h3
  · exact ⟨h2.os.trans h1.os, h2.tape.trans h1.tape, h2.output.trans h1.output, Nat.le_trans h1.size h2.size, fun k hk hne => (h2.block k (Nat.lt_of_lt_of_le hk h1.size) hne).trans (h1.block k hk hne)⟩
set_option maxHeartbeats 4000000 in
set_option maxRecDepth 100000 in
theorem repl_calls (w : World) (g B bm br n i L c : Nat) (full pre post spare l l' : List Int) (nm vl : ByteArray) (D : DataW Value) (hr : Row 5 w g full) (hf : full = pre ++ mid nm ++ post ++ spare) (hc : full.length = c) (hi : i = pre.length) (hL : L = pre.length + (nm.size + 2) + post.length) (hmx : L ≤ 1000000) (hcm : c ≤ maxLen)
    (hown : w.ownsMap Tryd.prog 9 Self bm n D) (hent : Entry w B bm D ⟨nm, vl⟩) (hgB : g < B) (hgm : g ≠ bm) (hown2 : w.ownsMap Tryd.prog 5 Self br 0 (.map [])) (hgr : g ≠ br)
    (hn : 2 ≤ nm.size ∧ nm.size ≤ 20) (halnum : ∀ t : Nat, t < nm.size → (97 ≤ bt nm t ∧ bt nm t ≤ 122) ∨ (48 ≤ bt nm t ∧ bt nm t ≤ 57)) (hv : 1 ≤ vl.size ∧ vl.size ≤ nm.size + 2) (hamp : (38 : Int) ∉ ba vl) :
    Calls Tryd.prog 41 #[.slice (some ⟨g, 0, none⟩) L c, .int .i64 i, .map (some bm), .map (some br)] w fun e w' => ∃ full', e = .returned (.tuple #[.slice (some ⟨g, 0, none⟩) (pre.length + vl.size + post.length) c, .int .i64 ((i + vl.size - 1 : Nat) : Int)]) ∧
      full'.length = c ∧ Row 5 w' g full' ∧ full'.take (pre.length + vl.size + post.length) = pre ++ ba vl ++ post ∧ w.grownBy w' (some g) := by
  obtain ⟨m, hm⟩ : ∃ m, m = nm.size := ⟨_, rfl⟩
  have hcL : L ≤ c := by rw [← hc, hf, hL]; simp [mid_len]; omega
  have HI := Aside0.mk (show i + 2 + m ≤ L ∧ m ≤ 20 ∧ L ≤ 1000000 ∧ L ≤ c from ⟨by rw [hL, hm, ← hi]; omega, by rw [hm]; exact hn.2, hmx, hcL⟩)
  have hcell : ∀ t : Nat, t < m → w.cell? ⟨g, i + 1 + t, none⟩ = some (.int .u8 (bt nm t)) := fun t ht => by
    have h := hr.cell (i + 1 + t) (by omega)
    rw [hf, hi, mid_rd pre post spare nm t (by omega)] at h
    rw [hi]; exact h
  have hend : w.cell? ⟨g, i + 1 + m, none⟩ = some (.int .u8 59) := by
    have h := hr.cell (i + 1 + m) (by omega)
    rw [hf, hi, hm, mid_end pre post spare nm] at h
    rw [hi, hm]; exact h
  obtain ⟨x0, hx0⟩ : ∃ x, x = bt nm (0 : Nat) := ⟨_, rfl⟩
  have hb0 : x0 ≠ 35 := by have := halnum 0 (by omega); rw [← hx0] at this; omega
  have h35 : (x0 == 35) = false := beq_eq_false_iff_ne.mpr hb0
  have h35' := eq_false hb0
  have hc0 := hcell 0 (by omega)
  rw [Nat.add_zero, ← hx0] at hc0
  clear hx0
  have q1 := eq_true (show (i : Int) + 1 < (L : Int) by omega)
  have q2 := eq_true (show (0 : Int) ≤ (i : Int) + 1 by omega)
  have q3 : decide ((i : Int) + 1 < (L : Int)) = true := decide_eq_true (by omega)
  have q4 := eq_true (show i + 1 < L by omega)
  have w1 : wrap64 ((i : Int) + 1) = ((i + 1 : Nat) : Int) := by simp only [wrap64]; omega
  have HCell := Aside0.mk (And.intro hcell hend)
  have HN := Aside0.mk (And.intro hn (And.intro halnum (And.intro hv (And.intro hamp hm))))
  have HR := Aside0.mk (And.intro hr (And.intro hf (And.intro hc (And.intro hi (And.intro hL (And.intro hmx (And.intro hcm hcL)))))))
  have HE := Aside0.mk (And.intro hown (And.intro hent (And.intro hgB (And.intro hgm (And.intro hown2 hgr)))))
  clear hr hf hc hL hmx hcm hown hent hgB hgm hown2 hgr hn halnum hv hamp hm hcell hend hb0 hcL
  clear hi
  go_enter Tryd.func41, Tryd.ntmps41
  go_upto_block 4 with (fail)
  go_cut [11] (fun v11 wc => v11 = .int .i64 ((i + 1 + m : Nat) : Int) ∧ wc = w)
  case first =>
    go_wp2_with (fail)
    go_loopg [11] m (fun kq v11 w' => ∃ t : Nat, v11 = .int .i64 ((i + 1 + t : Nat) : Int) ∧ Aside0 (t + kq = m) ∧ w' = w)
    case atStart => exact ⟨0, congrArg (Value.int .i64) w1, ⟨by omega⟩, rfl⟩
    case round =>
      obtain ⟨t, rfl, HT, rfl⟩ := hrel
      have HW1 := Aside0.mk w1
      clear w1
      obtain ⟨hI1, hI2, hI3, hI4⟩ := HI.out
      have hT := HT.out
      obtain ⟨j, hj⟩ : ∃ j, j = i + 1 + t := ⟨_, rfl⟩
      rw [← hj]
      obtain ⟨y1, hy1⟩ : ∃ y, y = (j : Int) - (i : Int) := ⟨_, rfl⟩
      obtain ⟨y2, hy2⟩ : ∃ y, y = y1 - 1 := ⟨_, rfl⟩
      have u1 := eq_true (show (j : Int) < (L : Int) by omega)
      have u2 := eq_true (show (0 : Int) ≤ (j : Int) by omega)
      have u3 : decide ((j : Int) < (L : Int)) = true := decide_eq_true (by omega)
      have u4 := eq_true (show j < L by omega)
      have v1 : wrap64 ((j : Int) - (i : Int)) = y1 := by rw [hy1]; simp only [wrap64]; omega
      have v2 : wrap64 (y1 - 1) = y2 := by rw [hy2]; simp only [wrap64]; omega
      have u5 : decide (y2 ≤ 31) = true := decide_eq_true (by omega)
      have u6 := eq_true (show y2 ≤ 31 by omega)
      have v3 : wrap64 ((j : Int) + 1) = ((j + 1 : Nat) : Int) := by simp only [wrap64]; omega
      clear hy1 hy2 hI1 hI2 hI3 hI4
      by_cases hk : gk = 0
      · have htm : t = m := by omega
        subst htm
        have hx := HCell.out.2
        rw [← hj] at hx
        have HJ := Aside0.mk hj
        clear hj hT hk
        go_wp2_with (fail)
        go_meet
        case rel => exact ⟨by rw [HJ.out], rfl⟩
      · obtain ⟨k1, rfl⟩ : ∃ k1, gk = k1 + 1 := ⟨gk - 1, by omega⟩
        have htm : t < m := by omega
        have hx := HCell.out.1 t htm
        have ha := HN.out.2.1 t (by have := HN.out.2.2.2.2; omega)
        rw [← hj] at hx
        obtain ⟨x, hxx⟩ : ∃ x, x = bt nm t := ⟨_, rfl⟩
        rw [← hxx] at hx ha
        have d1 : (x != 59) = true := bne_iff_ne.mpr (by omega)
        have d2 : decide (48 ≤ x) = true := decide_eq_true (by omega)
        have d2' := eq_true (show 48 ≤ x by omega)
        have HJ := Aside0.mk (And.intro hj hT)
        clear hj hT hk hxx htm
        by_cases h57 : x ≤ 57
        · have d3 : decide (x ≤ 57) = true := decide_eq_true h57
          have d3' := eq_true h57
          clear ha h57
          go_wp2_with (fail)
          go_roundg k1
          case measure => omega
          case rel => exact ⟨t + 1, by rw [v3]; have := HJ.out; congr 1; omega, ⟨by have := HJ.out; omega⟩, rfl⟩
        · have d3 : decide (x ≤ 57) = false := decide_eq_false h57
          have d3' := eq_false h57
          have d4 : decide (97 ≤ x) = true := decide_eq_true (by omega)
          have d4' := eq_true (show 97 ≤ x by omega)
          have d5 : decide (x ≤ 122) = true := decide_eq_true (by omega)
          have d5' := eq_true (show x ≤ 122 by omega)
          clear ha h57
          go_wp2_with (fail)
          go_roundg k1
          case measure => omega
          case rel => exact ⟨t + 1, by rw [v3]; have := HJ.out; congr 1; omega, ⟨by have := HJ.out; omega⟩, rfl⟩
  case rest =>
    obtain ⟨rfl, rfl⟩ := hcut
    have HW1 := Aside0.mk w1
    clear w1
    obtain ⟨hI1, hI2, hI3, hI4⟩ := HI.out
    have hm2 : 2 ≤ m := by have := HN.out.1; have := HN.out.2.2.2.2; omega
    obtain ⟨j, hj⟩ : ∃ j, j = i + 1 + m := ⟨_, rfl⟩
    rw [← hj]
    have hx := HCell.out.2
    rw [← hj] at hx
    have e1 : decide ((L : Int) ≤ (j : Int)) = false := decide_eq_false (by omega)
    have e1' := eq_false (show ¬ (L : Int) ≤ (j : Int) by omega)
    have e1'' := eq_false (show ¬ L ≤ j by omega)
    have e2 : ((j : Int) == (i : Int) + 1) = false := beq_eq_false_iff_ne.mpr (by omega)
    have e2' : ((j : Int) == ((i + 1 : Nat) : Int)) = false := beq_eq_false_iff_ne.mpr (by omega)
    have e2'' := eq_false (show ¬ (j : Int) = (i : Int) + 1 by omega)
    have u1 := eq_true (show (j : Int) < (L : Int) by omega)
    have u2 := eq_true (show (0 : Int) ≤ (j : Int) by omega)
    have u3 : decide ((j : Int) < (L : Int)) = true := decide_eq_true (by omega)
    have u4 := eq_true (show j < L by omega)
    have s1 := eq_true (show (i : Int) + 1 ≤ (j : Int) by omega)
    have s1' := eq_true (show i + 1 ≤ j by omega)
    have s2 := eq_true (show (j : Int) ≤ (c : Int) by omega)
    have s2' := eq_true (show j ≤ c by omega)
    have s3 := eq_false (show ¬ c = i + 1 by omega)
    have s3' := eq_false (show ¬ i + 1 = c by omega)
    have s4 := eq_true (show i + 1 ≤ c by omega)
    have HJ := Aside0.mk (And.intro hj (And.intro hm2 (And.intro hI1 (And.intro hI2 (And.intro hI3 hI4)))))
    clear hj hm2 hI1 hI2 hI3 hI4
    obtain ⟨gv, cap, hh1, hh2, hh3, hh4, hh5, hh6, hh7⟩ := HE.out.2.1
    have hcs : (convert 22 9 (.slice (some ⟨g, i + 1, none⟩) (j - (i + 1)) (c - (i + 1)))).run Tryd.prog wc = .ok (.string nm) wc := conv_mid wc g (i + 1) _ _ nm HN.out.1.2 (conv_len HJ.out.1 HN.out.2.2.2.2) (fun t ht => HCell.out.1 t (HN.out.2.2.2.2 ▸ ht))
    have hkey : keyOf Tryd.prog 9 (.string nm) = some (.string nm.data.toList) := WideMaps.keyOf_string_mk Tryd.underlying9 (short_max HN.out.1.2)
    have HV := Aside0.mk (And.intro hh3 (And.intro hh4 (And.intro hh5 (And.intro hh6 hh7))))
    clear hh3 hh4 hh5 hh6 hh7
    obtain ⟨vs, hvs⟩ : ∃ vs, vs = ba vl := ⟨_, rfl⟩
    obtain ⟨v, hvv⟩ : ∃ v, v = vl.size := ⟨_, rfl⟩
    have HW := Aside0.mk (And.intro hvs hvv)
    rw [← hvv] at hh2
    clear hvs hvv
    have HV2 := Aside0.mk (show vs.length = v ∧ 1 ≤ v ∧ v ≤ m + 2 ∧ (∀ x ∈ vs, 0 ≤ x ∧ x ≤ 255) ∧ (38 : Int) ∉ vs ∧ v ≤ cap ∧ Kd.C (Kd.int .u8) wc (some ⟨gv, 0, none⟩) v vs from by
      obtain ⟨hv1, hv2⟩ := HW.out
      obtain ⟨-, -, n3, n4, n5⟩ := HN.out
      rw [hv1, hv2, n5]
      exact ⟨ba_len vl, n3.1, n3.2, ba_range vl, n4, HV.out.1, by have := HV.out.2.2.2.2; rw [ba_len] at this; exact this⟩)
    have HC1 := Aside0.mk (copy_one HJ.out.1 (.inr trivial) HV2.out.1 HV2.out.2.1 HV2.out.2.2.1 HJ.out.2.2.1 HR.out.2.2.1 HJ.out.2.2.2.2.2)
    have s5 := eq_false (idx_ne HJ.out.2.2.1 HJ.out.2.2.2.2.2).1
    have s5' := eq_false (idx_ne HJ.out.2.2.1 HJ.out.2.2.2.2.2).2
    have s6 := eq_true (idx_le HJ.out.2.2.1 HJ.out.2.2.2.2.2).1
    have s6' := eq_true (idx_le HJ.out.2.2.1 HJ.out.2.2.2.2.2).2
    obtain ⟨q, hq⟩ : ∃ q : Nat, q = j + 1 := ⟨_, rfl⟩
    obtain ⟨p, hp⟩ : ∃ p : Nat, p = i + v := ⟨_, rfl⟩
    obtain ⟨y2, hy2⟩ : ∃ y : Int, y = (m : Int) + 2 := ⟨_, rfl⟩
    obtain ⟨z1, hz1⟩ : ∃ z : Int, z = (L : Int) - y2 := ⟨_, rfl⟩
    obtain ⟨z2, hz2⟩ : ∃ z : Int, z = (p : Int) - 1 := ⟨_, rfl⟩
    obtain ⟨r, hrr⟩ : ∃ r : Nat, r + (m + 2) = L + v := ⟨L + v - (m + 2), len_r HJ.out.2.2.1⟩
    obtain ⟨dp, hdp⟩ : ∃ dp, (if c = p then some (⟨g, 0, none⟩ : Addr) else some ⟨g, p, none⟩) = dp := ⟨_, rfl⟩
    obtain ⟨sp, hsp⟩ : ∃ sp, (if c = q then some (⟨g, 0, none⟩ : Addr) else some ⟨g, q, none⟩) = sp := ⟨_, rfl⟩
    obtain ⟨x2, x3, x4, x5, x6, x7, x8, x9, x10, x11, x12, x13, x14, x15, x16, x17⟩ := len_facts (c := c) hq hp hy2 hz1 hrr hz2 HJ.out.1 HJ.out.2.2.1 HJ.out.2.2.2.2.1 HJ.out.2.1 ⟨HV2.out.2.1, HV2.out.2.2.1⟩ HJ.out.2.2.2.2.2
    have HY := Aside0.mk (And.intro hq (And.intro hp (And.intro hz2 hrr)))
    clear hq hp hy2 hz1 hz2 hrr
    obtain ⟨wa, hrun1, hrow1, hgrow1⟩ := run_copy_over (P := Tryd.prog) wc 22 22 3 5 Tryd.underlying22 size5 (some ⟨g, i, none⟩) (some ⟨gv, 0, none⟩) (L - i) (c - i) v cap g i full vs HR.out.1 HC1.out.1 (fun h => ⟨rfl, C_pos HV2.out.2.2.2.2.2.2 h⟩) HC1.out.2
    have HC2 := Aside0.mk (copy_two (dp := dp) (sp := sp) (W := wa) HR.out.2.1 HR.out.2.2.2.1 HV2.out.1 (mid_v HV2.out.2.2.1 HN.out.2.2.2.2) (mid_q HY.out.1 HJ.out.1 HN.out.2.2.2.2) HY.out.2.1 (mid_L HR.out.2.2.2.2.1 HR.out.2.2.2.1) HR.out.2.2.1 hrow1 hdp hsp)
    have HA1 := Aside0.mk (And.intro hrow1 hgrow1)
    clear hrow1 hgrow1
    have w1 := HW1.out
    by_cases h1 : v = 1
    · have b1 : ((v : Int) == 1) = true := beq_iff_eq.mpr (congrArg Nat.cast h1)
      have b1' := eq_true (show (v : Int) = 1 from congrArg Nat.cast h1)
      obtain ⟨x, hmem, hxc⟩ := one_byte HV2.out.2.2.2.2.2.2 HV2.out.1 h1
      have d1 : (x == 38) = false := beq_eq_false_iff_ne.mpr (fun h => HV2.out.2.2.2.2.1 (h ▸ hmem))
      have d2 := eq_false (show ¬ x = 38 from fun h => HV2.out.2.2.2.2.1 (h ▸ hmem))
      have hkey5 : keyOf Tryd.prog 5 (.int .u8 x) = some (.int .u8 x) := keyOf_int_mk Tryd.underlying5 (WalkArith.wf_u8 (HV2.out.2.2.2.1 x hmem))
      have t1 := eq_true (one_pos h1).1
      have t2 := eq_true (one_pos h1).2
      clear h1 hmem
      go_wp2_with (first | (at_lookup; refine wpList_lookup_self _ rfl _ _ 68 rfl 9 22 law9 Tryd.underlying68 (zero22 _) bm n D rfl HE.out.1 _ _ rfl hkey _ _ (hh2 _) hh1 ?_) | (at_lookup; refine wpList_lookup_self _ rfl _ _ 70 rfl 5 22 law5 Tryd.underlying70 (zero22 _) br 0 (.map []) rfl HE.out.2.2.2.2.1 _ _ rfl hkey5 (.slice none 0 0) false rfl rfl ?_))
      go_region_law (refine step_copy_over _ rfl (.tmp 417) (.tmp 421) 22 22 5 rfl Tryd.underlying22 size5 dp sp (L - p) (c - p) (L - q) (c - q) (by simp [Act.eval, Act.put]) (by simp [Act.eval, Act.put]) g p (over full i vs) post HA1.out.1 HC2.out.1 HC2.out.2.1 HC2.out.2.2 ?_; intro wb hb)
      go_wp2_with (fail)
      go_ret2
      exact repl_done HR.out.2.1 HR.out.2.2.1 HR.out.2.2.2.1 HR.out.2.2.2.2.1 HN.out.2.2.2.2 HW.out.1 HW.out.2 ⟨HV2.out.2.1, HV2.out.2.2.1⟩ HY.out.2.1 (x14.trans HY.out.2.2.1) HY.out.2.2.2 hb.out.1 HA1.out.2 hb.out.2
    · have b1 : ((v : Int) == 1) = false := beq_eq_false_iff_ne.mpr (fun h => h1 (Int.ofNat.inj h))
      have b1' := eq_false (show ¬ (v : Int) = 1 from fun h => h1 (Int.ofNat.inj h))
      clear h1
      go_wp2_with (at_lookup; refine wpList_lookup_self _ rfl _ _ 68 rfl 9 22 law9 Tryd.underlying68 (zero22 _) bm n D rfl HE.out.1 _ _ rfl hkey _ _ (hh2 _) hh1 ?_)
      go_region_law (refine step_copy_over _ rfl (.tmp 417) (.tmp 421) 22 22 5 rfl Tryd.underlying22 size5 dp sp (L - p) (c - p) (L - q) (c - q) (by simp [Act.eval, Act.put]) (by simp [Act.eval, Act.put]) g p (over full i vs) post HA1.out.1 HC2.out.1 HC2.out.2.1 HC2.out.2.2 ?_; intro wb hb)
      go_wp2_with (fail)
      go_ret2
      exact repl_done HR.out.2.1 HR.out.2.2.1 HR.out.2.2.2.1 HR.out.2.2.2.2.1 HN.out.2.2.2.2 HW.out.1 HW.out.2 ⟨HV2.out.2.1, HV2.out.2.2.1⟩ HY.out.2.1 (x14.trans HY.out.2.2.1) HY.out.2.2.2 hb.out.1 HA1.out.2 hb.out.2
end Go.Proofs.YtojgpdphdhcjiaaDoor.Ent
