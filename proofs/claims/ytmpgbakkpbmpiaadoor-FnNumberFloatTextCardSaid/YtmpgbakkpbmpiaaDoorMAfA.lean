/- AppendFloat, walked: nought, the exponent, behind the loop, the loop in plain words. -/
import Derived.Test.YtmpgbakkpbmpiaaDoorMAd
/- AppendFloat where the mantissa is nought: a single nought is appended. -/
namespace Go.Proofs.YtmpgbakkpbmpiaaDoor.AF
open Go.RowKit Go.Proofs.YtmpgbakkpbmpiaaDoorW.PrintWords Go.Proofs.YtmpgbakkpbmpiaaDoorW.PrintLast Go.Proofs.YtmpgbakkpbmpiaaDoorW.PrintMore
open PFl Brow Dig AD
set_option linter.unusedVariables false
set_option linter.unusedSimpArgs false
set_option maxHeartbeats 4000000 in
set_option maxRecDepth 100000 in
theorem float_zero (w : World) (g : Nat) (full l : List Int) (base p f fa pwv gg : Nat) (t P : Int) (hr : Row 5 w g full) (hl : l.length ≤ full.length) (htk : full.take l.length = l) (hmx : full.length ≤ maxLen) (hb : base ≤ g) (hbs : base ≤ w.heap.size) (hln : l.length ≤ 100000000000)
    (hp : p ≤ 8) (hP : wrap64 ((p : Int) - t) = P)
    (hnan : ∀ W : World, Calls Tryd.prog 28 #[.float .f64 f] W fun e w' => e = .returned (.bool false) ∧ Drawn0 W w')
    (hinf : ∀ W : World, Calls Tryd.prog 25 #[.float .f64 f, .int .i64 0] W fun e w' => e = .returned (.bool false) ∧ Drawn0 W w')
    (hsg : (FloatKind.f64.format.order f 0 == some .lt) = false ∧ fa = f)
    (hexp : ∀ W : World, Calls Tryd.prog 30 #[.float .f64 fa] W fun e w' => e = .returned (.int .i64 t) ∧ Drawn0 W w')
    (hpow : ∀ W : World, W.heap = w.heap → Calls Tryd.prog 24 #[.int .i64 P] W fun e w' => e = .returned (.float .f64 pwv) ∧ Drawn0 W w')
    (e1 : FloatKind.f64.format.mul fa pwv = some gg)
    (hcv : ∀ W : World, (convert 25 2 (.float .f64 gg)).run Tryd.prog W = .ok (.int .i64 0) W) :
    Calls Tryd.prog 22 #[.slice (some ⟨g, 0, none⟩) l.length full.length, .float .f64 f, .int .i64 p] w fun e w' =>
      ∃ v', e = .returned v' ∧ Bs 5 w' base v' (l ++ [48]) ∧ Below base w w' := by
  obtain ⟨ho, rfl⟩ := hsg
  have HNan := Aside0.mk hnan
  have HInf := Aside0.mk hinf
  have HPow := Aside0.mk hpow
  have HExp := Aside0.mk hexp
  have HLen := Aside0.mk (fun W : World => PFnNumberDecimalNear.tdstrconv_LenInt.calls 0 1 W (by decide))
  have hmul : ∀ W : World, (binOp .mul 25 (.float .f64 fa) (.float .f64 pwv)).run Tryd.prog W = .ok (.float .f64 gg) W := fun W => run_float_arith W .mul 25 .f64 _ _ gg e1
  have d1 := eq_false (show ¬ (p : Int) < 0 by omega)
  have d2 := eq_false (show ¬ (17 : Int) < (p : Int) by omega)
  have d3 : decide ((p : Int) < 0) = false := decide_eq_false (by omega)
  have d4 : decide ((17 : Int) < (p : Int)) = false := decide_eq_false (by omega)
  have d5 := eq_false (show ¬ 17 < p by omega)
  have o2 := eq_false (show ¬ FloatKind.f64.format.order fa 0 = some .lt from fun h => by rw [h] at ho; cases ho)
  have HArg := Aside0.mk (And.intro (show Bs 5 w base (.slice (some ⟨g, 0, none⟩) l.length full.length) l from ⟨g, full, rfl, hb, hr, hl, hmx, htk⟩) (And.intro hln (And.intro hbs hb)))
  clear e1 hr hl htk hmx hb hbs hln hp hnan hinf hexp hpow
  go_enter Tryd.func22, Tryd.ntmps22
  go_wp2_with (first | (go_at_call 28; refine (HNan.out _).mono ?_; rintro e w' ⟨rfl, ⟨nd, rfl⟩⟩) | (go_at_call 25; refine (HInf.out _).mono ?_; rintro e w' ⟨rfl, ⟨nd2, rfl⟩⟩) | (go_at_call 30; refine (HExp.out _).mono ?_; rintro e w' ⟨rfl, ⟨nd3, rfl⟩⟩) | (go_at_call 24; refine (HPow.out (World.drewN w _) rfl).mono ?_; rintro e w' ⟨rfl, ⟨nd4, rfl⟩⟩) | (go_at_call 29; refine (HLen.out _).mono ?_; rintro e w' ⟨rfl, ⟨nd5, rfl⟩⟩) | (at_builtin; refine wpList_append _ rfl (.tmp 60) (.tmp 61) 22 5 base rfl Tryd.underlying22 PFnNumberFloatLength.info5 _ l rfl ?c1 (some ⟨w.heap.size, 0, none⟩) 1 [48] rfl ?c2 ?c3 ?c4 ?_; (case c1 => exact (show Bs 5 (w.drewN _) base _ l from HArg.out.1).belowAll (below_alloc (Below.refl _ _) _)); (case c2 => exact (show Row 5 _ w.heap.size [48] from heap_alloc_new (w.drewN _) _).reads 1 (by decide) (by decide)); (case c3 => have := HArg.out.2.1; simp only [List.length_singleton]; omega); (case c4 => have := HArg.out.2.2.1; simp; omega); intro v' w' hv hg hat; have HV := Aside0.mk hv; have HG := Aside0.mk hg; clear hv hg hat))
  go_ret
  refine ⟨_, rfl, HV.out, ?_⟩
  exact (((pw_below_drewN (Below.refl _ _) _).alloc HArg.out.2.2.1 _).grown HG.out (by have := HArg.out.2.2.1; simp; omega) (fun k hk => by have hk2 : some g = some k := hk; injection hk2 with hk3; subst hk3; exact HArg.out.2.2.2))
set_option maxHeartbeats 4000000 in
set_option maxRecDepth 100000 in
theorem float_zero_neg (w : World) (g : Nat) (full l : List Int) (base p f fa pwv gg : Nat) (t P : Int) (hr : Row 5 w g full) (hl : l.length ≤ full.length) (htk : full.take l.length = l) (hmx : full.length ≤ maxLen) (hb : base ≤ g) (hbs : base ≤ w.heap.size) (hln : l.length ≤ 100000000000)
    (hp : p ≤ 8) (hP : wrap64 ((p : Int) - t) = P)
    (hnan : ∀ W : World, Calls Tryd.prog 28 #[.float .f64 f] W fun e w' => e = .returned (.bool false) ∧ Drawn0 W w')
    (hinf : ∀ W : World, Calls Tryd.prog 25 #[.float .f64 f, .int .i64 0] W fun e w' => e = .returned (.bool false) ∧ Drawn0 W w')
    (ho : FloatKind.f64.format.order f 0 = some .lt) (hfa : fa = Op.negFloat .f64 f)
    (hexp : ∀ W : World, Calls Tryd.prog 30 #[.float .f64 fa] W fun e w' => e = .returned (.int .i64 t) ∧ Drawn0 W w')
    (hpow : ∀ W : World, W.heap = w.heap → Calls Tryd.prog 24 #[.int .i64 P] W fun e w' => e = .returned (.float .f64 pwv) ∧ Drawn0 W w')
    (e1 : FloatKind.f64.format.mul fa pwv = some gg)
    (hcv : ∀ W : World, (convert 25 2 (.float .f64 gg)).run Tryd.prog W = .ok (.int .i64 0) W) :
    Calls Tryd.prog 22 #[.slice (some ⟨g, 0, none⟩) l.length full.length, .float .f64 f, .int .i64 p] w fun e w' =>
      ∃ v', e = .returned v' ∧ Bs 5 w' base v' (l ++ [48]) ∧ Below base w w' := by
  have hneg : ∀ W : World, (Op.unary .neg (.float .f64 f)).run Tryd.prog W = .ok (.float .f64 fa) W := fun W => by rw [hfa]; rfl
  clear hfa
  have HNan := Aside0.mk hnan
  have HInf := Aside0.mk hinf
  have HPow := Aside0.mk hpow
  have HExp := Aside0.mk hexp
  have HLen := Aside0.mk (fun W : World => PFnNumberDecimalNear.tdstrconv_LenInt.calls 0 1 W (by decide))
  have hmul : ∀ W : World, (binOp .mul 25 (.float .f64 fa) (.float .f64 pwv)).run Tryd.prog W = .ok (.float .f64 gg) W := fun W => run_float_arith W .mul 25 .f64 _ _ gg e1
  have d1 := eq_false (show ¬ (p : Int) < 0 by omega)
  have d2 := eq_false (show ¬ (17 : Int) < (p : Int) by omega)
  have d3 : decide ((p : Int) < 0) = false := decide_eq_false (by omega)
  have d4 : decide ((17 : Int) < (p : Int)) = false := decide_eq_false (by omega)
  have d5 := eq_false (show ¬ 17 < p by omega)
  have HArg := Aside0.mk (And.intro (show Bs 5 w base (.slice (some ⟨g, 0, none⟩) l.length full.length) l from ⟨g, full, rfl, hb, hr, hl, hmx, htk⟩) (And.intro hln (And.intro hbs hb)))
  clear e1 hr hl htk hmx hb hbs hln hp hnan hinf hexp hpow
  go_enter Tryd.func22, Tryd.ntmps22
  go_wp2_with (first | (go_at_call 28; refine (HNan.out _).mono ?_; rintro e w' ⟨rfl, ⟨nd, rfl⟩⟩) | (go_at_call 25; refine (HInf.out _).mono ?_; rintro e w' ⟨rfl, ⟨nd2, rfl⟩⟩) | (go_at_call 30; refine (HExp.out _).mono ?_; rintro e w' ⟨rfl, ⟨nd3, rfl⟩⟩) | (go_at_call 24; refine (HPow.out (World.drewN w _) rfl).mono ?_; rintro e w' ⟨rfl, ⟨nd4, rfl⟩⟩) | (go_at_call 29; refine (HLen.out _).mono ?_; rintro e w' ⟨rfl, ⟨nd5, rfl⟩⟩) | (at_builtin; refine wpList_append _ rfl (.tmp 60) (.tmp 61) 22 5 base rfl Tryd.underlying22 PFnNumberFloatLength.info5 _ l rfl ?c1 (some ⟨w.heap.size, 0, none⟩) 1 [48] rfl ?c2 ?c3 ?c4 ?_; (case c1 => exact (show Bs 5 (w.drewN _) base _ l from HArg.out.1).belowAll (below_alloc (Below.refl _ _) _)); (case c2 => exact (show Row 5 _ w.heap.size [48] from heap_alloc_new (w.drewN _) _).reads 1 (by decide) (by decide)); (case c3 => have := HArg.out.2.1; simp only [List.length_singleton]; omega); (case c4 => have := HArg.out.2.2.1; simp; omega); intro v' w' hv hg hat; have HV := Aside0.mk hv; have HG := Aside0.mk hg; clear hv hg hat))
  go_ret
  refine ⟨_, rfl, HV.out, ?_⟩
  exact (((pw_below_drewN (Below.refl _ _) _).alloc HArg.out.2.2.1 _).grown HG.out (by have := HArg.out.2.2.1; simp; omega) (fun k hk => by have hk2 : some g = some k := hk; injection hk2 with hk3; subst hk3; exact HArg.out.2.2.2))
end Go.Proofs.YtmpgbakkpbmpiaaDoor.AF
/- AppendFloat in parts: the words. -/
namespace Go.Proofs.YtmpgbakkpbmpiaaDoor.AF
open Go.RowKit Go.Proofs.YtmpgbakkpbmpiaaDoorW.PrintWords Go.Proofs.YtmpgbakkpbmpiaaDoorW.PrintLast Go.Proofs.YtmpgbakkpbmpiaaDoorW.PrintMore
open PFl Brow Dig AD
set_option linter.unusedVariables false
set_option linter.unusedSimpArgs false

noncomputable def body22 : Code := (Tryd.f22.body).getD .skip
/-- Digits alone. -/
def DG (l : List Int) : Prop := ∀ x ∈ l, (48 : Int) ≤ x ∧ x ≤ 57
theorem DG.nil : DG [] := by intro x h; cases h
theorem DG.cons {x : Int} {l : List Int} (h1 : (48 : Int) ≤ x ∧ x ≤ 57) (h : DG l) : DG (x :: l) := by
  intro y hy
  rcases List.mem_cons.1 hy with rfl | hy
  · exact h1
  · exact h y hy
theorem DG.append {a b : List Int} (h1 : DG a) (h : DG b) : DG (a ++ b) := by
  intro y hy
  rcases List.mem_append.1 hy with hy | hy
  · exact h1 y hy
  · exact h y hy
theorem DG.take {a : List Int} (h : DG a) (n : Nat) : DG (a.take n) := fun y hy => h y (List.mem_of_mem_take hy)
theorem DG.digit {q : Nat} (h : q < 10) : (48 : Int) ≤ (48 : Int) + (q : Nat) ∧ (48 : Int) + (q : Nat) ≤ 57 := by omega
theorem DG.digs (n : Nat) : DG (digs n) := by
  induction n using Nat.strongRecOn with
  | ind n ih =>
    by_cases h : n < 10
    · rw [digs_small h]; exact DG.cons (by omega) DG.nil
    · rw [digs_big (by omega)]; exact (ih (n / 10) (by omega)).append (DG.cons (by omega) DG.nil)
/-- How many bytes a whole number has, its sign with it. -/
def lenI (e : Int) : Nat := (Dig.digs e.natAbs).length + (if e < 0 then 1 else 0)
theorem lenI_nat (n : Nat) : lenI (n : Int) = (Dig.digs n).length := by unfold lenI; rw [if_neg (by omega)]; rfl
theorem lenI_eq (e : Int) (h : e.natAbs < 9223372036854775808) : PFnNumberDecimalNear.tdstrconv_LenInt.f e = some ((lenI e : Nat) : Int) := by
  rcases Int.lt_or_le e 0 with hn | hn
  · obtain ⟨n, rfl⟩ : ∃ n : Nat, e = -(n : Int) := ⟨e.natAbs, by omega⟩
    have hnn : n < 9223372036854775808 := by omega
    have h1 : (-(n : Int)).natAbs = n := by omega
    unfold PFnNumberDecimalNear.tdstrconv_LenInt.f lenI
    have h3 := lenUint_eq n (by omega)
    have h4 : (Dig.digs n).length ≤ 20 := by
      have h5 := digs_len n
      rcases Nat.lt_or_ge 20 (Dig.digs n).length with hlt | hge
      · exfalso
        have h1 := Nat.pow_le_pow_right (n := 10) (by decide) (show 20 ≤ (Dig.digs n).length - 1 by omega)
        have h2 : (10 : Nat) ^ 20 = 100000000000000000000 := by decide
        have := h5.2.2 (by omega)
        omega
      · exact hge
    rw [if_pos hn, if_neg (by omega), if_pos hn, h1, show IntKind.u64.wrap (wrap64 (- -(n : Int))) = (n : Int) by rw [show wrap64 (- -(n : Int)) = (n : Int) by simp only [wrap64]; omega]; simp [IntKind.wrap, IntKind.bits]; omega, h3]
    generalize (Dig.digs n).length = L at *
    simp only [Option.bind]
    congr 1
    simp only [wrap64]
    omega
  · obtain ⟨n, rfl⟩ : ∃ n : Nat, e = (n : Int) := ⟨e.natAbs, by omega⟩
    rw [lenI_nat]
    exact lenInt_eq n (by omega)
/-- An exponent as AppendFloat writes it, or noughts in its place. -/
def ExpOK (E : List Int) : Prop := E = [] ∨ E = [48] ∨ E = [48, 48] ∨ ∃ ds, DG ds ∧ ds ≠ [] ∧ ds.length ≤ 1000000000000 ∧ (E = 101 :: ds ∨ E = 101 :: 45 :: ds)
theorem small64 {n : Nat} (h : n ≤ 9000000000000000000) : wrap64 (n : Int) = (n : Int) := by simp only [wrap64]; omega
theorem w64 {x y : Int} (h : x = y) (h1 : -9000000000000000000 ≤ y) (h2 : y ≤ 9000000000000000000) : wrap64 x = y := by subst h; simp only [wrap64]; omega
theorem lenI_pos (e : Int) : 1 ≤ lenI e := by have := (digs_len e.natAbs).1; unfold lenI; omega
theorem D_len {q : Nat} (h : q ≠ 0) : (D q).length = (D (q / 10)).length + 1 := by rw [D_pos h, List.length_append, List.length_singleton]
/-- Room for an exponent behind the i-th byte. -/
def Room (i N : Nat) (e : Int) : Prop := e = 0 ∨ (i + 1 + lenI e ≤ N ∧ e.natAbs ≤ 99)
end Go.Proofs.YtmpgbakkpbmpiaaDoor.AF
/- AppendFloat: the exponent. -/
namespace Go.Proofs.YtmpgbakkpbmpiaaDoor.AF
open Go.RowKit Go.Proofs.YtmpgbakkpbmpiaaDoorW.PrintWords Go.Proofs.YtmpgbakkpbmpiaaDoorW.PrintLast Go.Proofs.YtmpgbakkpbmpiaaDoorW.PrintMore
open PFl Brow Dig AD
set_option linter.unusedVariables false
set_option linter.unusedSimpArgs false

theorem fill_one {full T : List Int} {i n : Nat} {x : Int} (h : full.take i = T) (hl : T.length = i) (hi : i < full.length) (hn : i + 1 ≤ n) (hn2 : n ≤ full.length) : Fill (full.set i x) (T ++ [x]) [] n n := by
  refine ⟨?_, by rw [List.drop_of_length_le (by simp; omega)], by rw [List.length_set]; exact hn2, by rw [List.length_append, List.length_singleton, hl]; exact hn, rfl⟩
  rw [List.length_append, List.length_singleton, hl, List.take_add_one, List.take_set_of_le (Nat.le_refl _), h, List.getElem?_set_self hi]
  rfl
theorem fill_two {full T : List Int} {i i1 n : Nat} {x y : Int} (h : full.take i = T) (hl : T.length = i) (h1 : i1 = i + 1) (hi : i1 < full.length) (hn : i1 + 1 ≤ n) (hn2 : n ≤ full.length) : Fill ((full.set i x).set i1 y) (T ++ [x, y]) [] n n := by
  have h2 := fill_one (x := x) h hl (show i < full.length by omega) (show i + 1 ≤ n by omega) hn2
  have h3 := fill_one (full := full.set i x) (T := T ++ [x]) (i := i1) (n := n) (x := y) (by have := h2.fst; rw [List.length_append, List.length_singleton, hl, ← h1] at this; exact this) (by rw [List.length_append, List.length_singleton, hl, h1]) (by rw [List.length_set]; exact hi) hn (by rw [List.length_set]; exact hn2)
  rw [List.append_assoc] at h3
  exact h3
theorem u8a {d : Nat} (h : d < 10) : IntKind.u8.wrap (d : Int) = (d : Int) := by simp only [IntKind.wrap_u8]; omega
theorem u8b {d : Nat} (h : d < 10) : IntKind.u8.wrap ((48 : Int) + (d : Int)) = (48 : Int) + (d : Int) := by simp only [IntKind.wrap_u8]; omega
set_option maxHeartbeats 4000000 in
set_option maxRecDepth 100000 in
theorem part25 {g N c iN base : Nat} {x : Int} {full T : List Int} {w0 : World} {u1 u2 u3 u4 u5 u6 u7 u8 u9 u10 u12 u14 u15 u16 u17 u18 u19 u20 u21 u25 u26 u27 u28 u29 u30 u31 u32 u33 u34 u35 u36 u37 u38 u39 u40 u41 u42 u43 u44 u45 u46 u47 u48 u49 u50 u51 u52 u53 u54 u55 u56 u57 u58 u59 u60 u61 u62 u63 u64 u65 u66 u67 u68 u69 u70 u71 u72 u73 u74 u75 u76 u77 u78 u79 u80 u81 u82 u83 u84 u85 u86 u87 u88 u89 u90 u91 u92 u93 u94 u95 u96 u97 u98 u99 u100 u101 u102 u103 u104 u105 u106 u107 u108 u109 u110 u111 u112 u113 u114 u115 u116 u117 u118 u119 u120 u121 u122 u123 u124 u125 u126 u127 u128 u129 u130 u131 u132 u133 u134 u135 u136 u137 u138 u139 u140 u141 u142 u143 u144 u145 u146 u147 u148 u149 u150 u151 u152 u153 u154 u155 u156 u157 u158 u159 u160 u161 u162 u163 u164 u165 u166 u167 u168 u169 u170 u171 u172 u173 u174 u175 u176 u177 u178 u179 u180 u181 u182 u183 u184 u185 u186 u187 u188 u189 u190 u191 u192 u193 u194 u195 u196 u197 u198 u199 u200 u201 u202 u203 u204 u205 u206 : Value} (W : World) (hr : Row 5 W g full) (hc : full.length = c) (hw0 : Below base w0 W) (ht : full.take iN = T) (htl : T.length = iN) (hb : base ≤ g) (hN : N ≤ c) (hm : N ≤ 1000000000000) (hroom : Room iN N x) (hiN : iN ≤ N) :
    Code.wp Tryd.prog (rest 25 body22) (bodyPost Tryd.prog Tryd.f22 fun e w' => ∃ (full' E : List Int), e = .returned (.slice (some ⟨g, 0, none⟩) (iN + E.length) c) ∧ full'.length = c ∧ Row 5 w' g full' ∧ full'.take (iN + E.length) = T ++ E ∧ ExpOK E ∧ Below base w0 w') ⟨#[.slice (some ⟨g, 0, none⟩) N c, u1, u2, u3, u4, u5, u6, u7, u8, u9, u10, .int .i64 x, u12, .int .i64 (iN : Int), u14, u15, u16, u17, u18, u19, u20, u21, undef, undef, undef, u25, u26, u27, u28, u29, u30, u31, u32, u33, u34, u35, u36, u37, u38, u39, u40, u41, u42, u43, u44, u45, u46, u47, u48, u49, u50, u51, u52, u53, u54, u55, u56, u57, u58, u59, u60, u61, u62, u63, u64, u65, u66, u67, u68, u69, u70, u71, u72, u73, u74, u75, u76, u77, u78, u79, u80, u81, u82, u83, u84, u85, u86, u87, u88, u89, u90, u91, u92, u93, u94, u95, u96, u97, u98, u99, u100, u101, u102, u103, u104, u105, u106, u107, u108, u109, u110, u111, u112, u113, u114, u115, u116, u117, u118, u119, u120, u121, u122, u123, u124, u125, u126, u127, u128, u129, u130, u131, u132, u133, u134, u135, u136, u137, u138, u139, u140, u141, u142, u143, u144, u145, u146, u147, u148, u149, u150, u151, u152, u153, u154, u155, u156, u157, u158, u159, u160, u161, u162, u163, u164, u165, u166, u167, u168, u169, u170, u171, u172, u173, u174, u175, u176, u177, u178, u179, u180, u181, u182, u183, u184, u185, u186, u187, u188, u189, u190, u191, u192, u193, u194, u195, u196, u197, u198, u199, u200, u201, u202, u203, u204, u205, u206, undef, undef, undef, undef, undef, undef, undef, undef, undef, undef, undef, undef, undef, undef, undef, undef, undef, undef, undef, undef, undef, undef, undef, undef, undef, undef, undef, undef, undef, undef, undef, undef, undef, undef, undef, undef, undef, undef, undef, undef, undef, undef, undef, undef, undef, undef, undef, undef, undef, undef, undef, undef, undef, undef, undef, undef, undef, undef, undef], []⟩ W := by
  conv => arg 2; whnf
  have HR := Aside0.mk hr
  have HC := Aside0.mk hc
  have HW0 := Aside0.mk hw0
  have HT := Aside0.mk (And.intro ht htl)
  have HB := Aside0.mk hb
  have HM := Aside0.mk (And.intro hN hm)
  clear hr hc hw0 ht htl hb hN hm
  by_cases x0 : x = 0
  · subst x0
    have k1 := eq_true (show iN ≤ c by have := HM.out; omega)
    clear hroom
    go_wp2_with (fail)
    go_ret
    exact ⟨full, [], rfl, HC.out, HR.out, by rw [List.append_nil]; exact HT.out.1, .inl rfl, HW0.out⟩
  obtain ⟨hr1, hr2⟩ := hroom.resolve_left x0
  have hr3 := lenI_pos x
  have HLt := Aside0.mk hr1
  have HLp := Aside0.mk hr3
  have hce := HR.out.cell iN (by have h1 := HC.out; have h2 := HM.out; omega)
  have hfe := HR.out.frozen iN
  by_cases x1 : x = 1
  · subst x1
    obtain ⟨i1, hi1⟩ : ∃ i1 : Nat, i1 = iN + 1 := ⟨_, rfl⟩
    have hM := HM.out
    have hC := HC.out
    have p1 : (iN : Int) < (N : Int) := by omega
    have p2 : (0 : Int) ≤ (iN : Int) := by omega
    have p3 : iN < N := by omega
    have p4 : i1 ≤ c := by omega
    have p5 : (i1 : Int) ≤ (c : Int) := by omega
    have p6 : (0 : Int) ≤ (i1 : Int) := by omega
    have p7 : (iN : Int) + 1 = (i1 : Int) ∧ -9000000000000000000 ≤ (i1 : Int) ∧ (i1 : Int) ≤ 9000000000000000000 := by omega
    have t1 := eq_true p1
    have d1 : decide ((iN : Int) < (N : Int)) = true := decide_eq_true p1
    have t2 := eq_true p2
    have d2 : decide ((0 : Int) ≤ (iN : Int)) = true := decide_eq_true p2
    have t3 := eq_true p3
    have d3 : decide (iN < N) = true := decide_eq_true p3
    have t4 := eq_true p4
    have d4 : decide (i1 ≤ c) = true := decide_eq_true p4
    have t5 := eq_true p5
    have d5 : decide ((i1 : Int) ≤ (c : Int)) = true := decide_eq_true p5
    have t6 := eq_true p6
    have d6 : decide ((0 : Int) ≤ (i1 : Int)) = true := decide_eq_true p6
    have t7 := w64 p7.1 p7.2.1 p7.2.2
    clear hM hC p1 p2 p3 p4 p5 p6 p7
    have HI := Aside0.mk hi1
    clear hi1 hr1 hr2 hr3 x0 hroom hiN
    go_wp2_with (fail)
    go_ret
    obtain rfl := HI.out
    refine ⟨full.set iN 48, [48], rfl, by rw [List.length_set]; exact HC.out, HR.out.store _ _, ?_, .inr (.inl rfl), HW0.out.setCell HB.out _⟩
    have h1 := HC.out
    have h2 := HM.out
    have h3 := HLt.out
    have h4 := HLp.out
    rw [List.length_singleton, List.take_add_one, List.take_set_of_le (Nat.le_refl _), HT.out.1, List.getElem?_set_self (by clear t1 d1 t2 d2 t3 d3 t4 d4 t5 d5 t6 d6 t7; omega)]
    rfl
  by_cases x2 : x = 2
  · subst x2
    obtain ⟨i1, hi1⟩ : ∃ i1 : Nat, i1 = iN + 1 := ⟨_, rfl⟩
    obtain ⟨i2, hi2⟩ : ∃ i2 : Nat, i2 = iN + 2 := ⟨_, rfl⟩
    have HR2 := HR.out.store iN 48
    have hce2 := HR2.cell i1 (by have hq1 := HC.out; have hq2 := HM.out; rw [List.length_set]; omega)
    have hfe2 := HR2.frozen i1
    have hM := HM.out
    have hC := HC.out
    have p8 : (iN : Int) < (N : Int) := by omega
    have p9 : (0 : Int) ≤ (iN : Int) := by omega
    have p10 : iN < N := by omega
    have p11 : (i1 : Int) < (N : Int) := by omega
    have p12 : (0 : Int) ≤ (i1 : Int) := by omega
    have p13 : i1 < N := by omega
    have p14 : i2 ≤ c := by omega
    have p15 : (i2 : Int) ≤ (c : Int) := by omega
    have p16 : (0 : Int) ≤ (i2 : Int) := by omega
    have p17 : (iN : Int) + 1 = (i1 : Int) ∧ -9000000000000000000 ≤ (i1 : Int) ∧ (i1 : Int) ≤ 9000000000000000000 := by omega
    have p18 : (iN : Int) + 2 = (i2 : Int) ∧ -9000000000000000000 ≤ (i2 : Int) ∧ (i2 : Int) ≤ 9000000000000000000 := by omega
    have t8 := eq_true p8
    have d8 : decide ((iN : Int) < (N : Int)) = true := decide_eq_true p8
    have t9 := eq_true p9
    have d9 : decide ((0 : Int) ≤ (iN : Int)) = true := decide_eq_true p9
    have t10 := eq_true p10
    have d10 : decide (iN < N) = true := decide_eq_true p10
    have t11 := eq_true p11
    have d11 : decide ((i1 : Int) < (N : Int)) = true := decide_eq_true p11
    have t12 := eq_true p12
    have d12 : decide ((0 : Int) ≤ (i1 : Int)) = true := decide_eq_true p12
    have t13 := eq_true p13
    have d13 : decide (i1 < N) = true := decide_eq_true p13
    have t14 := eq_true p14
    have d14 : decide (i2 ≤ c) = true := decide_eq_true p14
    have t15 := eq_true p15
    have d15 : decide ((i2 : Int) ≤ (c : Int)) = true := decide_eq_true p15
    have t16 := eq_true p16
    have d16 : decide ((0 : Int) ≤ (i2 : Int)) = true := decide_eq_true p16
    have t17 := w64 p17.1 p17.2.1 p17.2.2
    have t18 := w64 p18.1 p18.2.1 p18.2.2
    clear hM hC p8 p9 p10 p11 p12 p13 p14 p15 p16 p17 p18
    have HI := Aside0.mk (And.intro hi1 hi2)
    have HR2' := Aside0.mk HR2
    clear hi1 hi2 hr1 hr2 hr3 x0 x1 hroom hiN HR2
    go_wp2_with (fail)
    go_ret
    obtain ⟨rfl, rfl⟩ := HI.out
    refine ⟨(full.set iN 48).set (iN + 1) 48, [48, 48], rfl, by rw [List.length_set, List.length_set]; exact HC.out, HR2'.out.store _ _, ?_, .inr (.inr (.inl rfl)), (HW0.out.setCell HB.out _).setCell HB.out _⟩
    have h1 := HC.out
    have h2 := HM.out
    have h3 := HLt.out
    have h4 := HLp.out
    clear t8 d8 t9 d9 t10 d10 t11 d11 t12 d12 t13 d13 t14 d14 t15 d15 t16 d16 t17 t18
    rw [show iN + ([48, 48] : List Int).length = iN + 1 + 1 from rfl, List.take_add_one, List.take_set_of_le (Nat.le_refl _), List.getElem?_set_self (by rw [List.length_set]; omega), List.take_add_one, List.take_set_of_le (Nat.le_refl _), HT.out.1, List.getElem?_set_self (by omega)]
    simp
  have xb : 3 ≤ x ∨ x < 0 := by omega
  obtain ⟨i1, hi1⟩ : ∃ i1 : Nat, i1 = iN + 1 := ⟨_, rfl⟩
  rcases xb with hp | hn
  · obtain ⟨q, rfl⟩ : ∃ q : Nat, x = (q : Int) := ⟨x.toNat, by omega⟩
    rw [lenI_nat] at hr1
    have hL := PFnNumberDecimalNear.tdstrconv_LenInt.calls (q : Int) ((Dig.digs q).length : Int)
    have HLen := Aside0.mk (fun W : World => hL W (lenInt_eq q (by omega)))
    clear hL
    obtain ⟨L, hLL⟩ : ∃ L : Nat, L = (Dig.digs q).length := ⟨_, rfl⟩
    rw [← hLL] at HLen hr1
    have hL1 : 1 ≤ L := by rw [hLL]; exact (digs_len q).1
    obtain ⟨i2, hi2⟩ : ∃ i2 : Nat, i2 = i1 + L := ⟨_, rfl⟩
    have HZ := Aside0.mk (show iN + ([(101 : Int)] ++ Dig.digs q).length = i2 ∧ i2 ≤ N from ⟨by rw [hi2, hi1, hLL, List.length_append, List.length_singleton]; omega, by omega⟩)
    have hDq : D q = Dig.digs q := by unfold D; rw [if_neg (by omega)]
    have HS := Aside0.mk (fun nd : Nat => show Aside0 (Row 5 ((W.setCell ⟨g, iN, none⟩ (.int .u8 101)).drewN nd) g (full.set iN 101) ∧ (full.set iN 101).length = c ∧ Fill (full.set iN 101) (T ++ [101]) [] i2 i2 ∧ (T ++ [101]).length + (D q).length = i2 ∧ D q ++ [] = Dig.digs q ∧ q ≤ 99 ∧ Below base w0 ((W.setCell ⟨g, iN, none⟩ (.int .u8 101)).drewN nd)) from
      ⟨(HR.out.store _ _).drewN nd, by rw [List.length_set]; exact HC.out, fill_one HT.out.1 HT.out.2 (by have hq1 := HC.out; have hq2 := HM.out; omega) (by omega) (by have hq1 := HC.out; have hq2 := HM.out; omega), by rw [hDq, ← hLL, List.length_append, List.length_singleton, HT.out.2]; omega, by rw [hDq, List.append_nil], by omega, pw_below_drewN (HW0.out.setCell HB.out _) nd⟩)
    have hM := HM.out
    have hC := HC.out
    have p19 : (iN : Int) < (N : Int) := by omega
    have p20 : (0 : Int) ≤ (iN : Int) := by omega
    have p21 : iN < N := by omega
    have p22 : (iN : Int) + 1 = (i1 : Int) ∧ -9000000000000000000 ≤ (i1 : Int) ∧ (i1 : Int) ≤ 9000000000000000000 := by omega
    have p23 : (i1 : Int) + (L : Int) = (i2 : Int) ∧ -9000000000000000000 ≤ (i2 : Int) ∧ (i2 : Int) ≤ 9000000000000000000 := by omega
    have p24 : ¬ ((q : Int) = 0) := by omega
    have p25 : ¬ ((q : Int) = 1) := by omega
    have p26 : ¬ ((q : Int) = 2) := by omega
    have p27 : ¬ (q = 0) := by omega
    have p28 : ¬ (q = 1) := by omega
    have p29 : ¬ (q = 2) := by omega
    have p30 : ¬ ((q : Int) < 0) := by omega
    have t19 := eq_true p19
    have d19 : decide ((iN : Int) < (N : Int)) = true := decide_eq_true p19
    have t20 := eq_true p20
    have d20 : decide ((0 : Int) ≤ (iN : Int)) = true := decide_eq_true p20
    have t21 := eq_true p21
    have d21 : decide (iN < N) = true := decide_eq_true p21
    have t22 := w64 p22.1 p22.2.1 p22.2.2
    have mL := w64 p23.1 p23.2.1 p23.2.2
    have t24 := eq_false p24
    have s24 : ((q : Int) == 0) = false := beq_eq_false_iff_ne.mpr p24
    have r24 : ((q : Int) != 0) = true := bne_iff_ne.mpr p24
    have t25 := eq_false p25
    have s25 : ((q : Int) == 1) = false := beq_eq_false_iff_ne.mpr p25
    have r25 : ((q : Int) != 1) = true := bne_iff_ne.mpr p25
    have t26 := eq_false p26
    have s26 : ((q : Int) == 2) = false := beq_eq_false_iff_ne.mpr p26
    have r26 : ((q : Int) != 2) = true := bne_iff_ne.mpr p26
    have t27 := eq_false p27
    have d27 : decide (q = 0) = false := decide_eq_false p27
    have t28 := eq_false p28
    have d28 : decide (q = 1) = false := decide_eq_false p28
    have t29 := eq_false p29
    have d29 : decide (q = 2) = false := decide_eq_false p29
    have t30 := eq_false p30
    have d30 : decide ((q : Int) < 0) = false := decide_eq_false p30
    clear hM hC p19 p20 p21 p22 p23 p24 p25 p26 p27 p28 p29 p30
    have HI := Aside0.mk (And.intro hi1 (And.intro hi2 hLL))
    clear hi1 hi2 hLL hL1 hr1 hr2 hr3 x0 x1 x2 hroom hiN hDq hp
    go_upto_block 4 with (go_at_call 29; refine (HLen.out _).mono ?_; rintro e w' ⟨rfl, ⟨nd, rfl⟩⟩)
    clear t19 d19 t20 d20 t21 d21 t22 t24 s24 r24 t25 s25 r25 t26 s26 r26 t27 d27 t28 d28 t29 d29 t30 d30 hce hfe
    go_wp2_with (fail)
    rw [mL]
    clear mL
    go_loopg [11, 22, 23, 24] q (fun kq v11 v22 v23 v24 w' => ∃ (full1 suf1 : List Int) (j1 : Nat), v11 = .int .i64 (kq : Int) ∧ v22 = .int .i64 (j1 : Int) ∧ Aside0 (Row 5 w' g full1 ∧ full1.length = c ∧ Fill full1 (T ++ [101]) suf1 j1 i2 ∧ (T ++ [101]).length + (D kq).length = j1 ∧ D kq ++ suf1 = Dig.digs q ∧ kq ≤ 99 ∧ Below base w0 w'))
    case atStart => exact ⟨_, [], i2, rfl, rfl, HS.out _⟩
    case round =>
      obtain ⟨full1, suf1, j1, rfl, rfl, HI⟩ := hrel
      by_cases hk : gk = 0
      · subst hk
        have k1 := eq_true (show i2 ≤ c by have h1 := HZ.out.2; have h2 := HM.out; omega)
        go_wp2_with (fail)
        go_ret
        obtain ⟨h1, h2, h3, h4, h5, h6, h7⟩ := HI.out
        rw [D_zero] at h4 h5
        have h8 : (T ++ [101]).length = j1 := by simpa only [List.length_nil, Nat.add_zero] using h4
        subst h8
        have h9 := h3.done
        rw [List.nil_append] at h5
        subst h5
        obtain ⟨z1, z2⟩ := HZ.out
        subst z1
        exact ⟨full1, [101] ++ Dig.digs q, rfl, h2, h1, by rw [h9, List.append_assoc], .inr (.inr (.inr ⟨Dig.digs q, DG.digs q, by intro hnil; have := (digs_len q).1; rw [hnil] at this; exact absurd this (by decide), by have hq1 := HM.out; rw [List.length_append] at z2; clear k1; omega, .inl rfl⟩)), h7⟩
      · obtain ⟨h1, h2, h3, h4, h5, h6, h7⟩ := HI.out
        rw [D_len hk] at h4
        rw [D_pos hk, List.append_assoc] at h5
        obtain ⟨j', rfl⟩ : ∃ j', j1 = j' + 1 := ⟨j1 - 1, by omega⟩
        have hF2 := h3.step (by omega) ((48 : Int) + (gk % 10 : Nat))
        have l1 := h3.sum
        have l2 := HZ.out.2
        have l4 := h3.len
        have b5 := h1.cell j' (by omega)
        have b6 := h1.frozen j'
        have HN := Aside0.mk (show Row 5 (wr.setCell ⟨g, j', none⟩ (.int .u8 ((48 : Int) + (gk % 10 : Nat)))) g (full1.set j' ((48 : Int) + (gk % 10 : Nat))) ∧ (full1.set j' ((48 : Int) + (gk % 10 : Nat))).length = c ∧ Fill (full1.set j' ((48 : Int) + (gk % 10 : Nat))) (T ++ [101]) (((48 : Int) + (gk % 10 : Nat)) :: suf1) j' i2 ∧ (T ++ [101]).length + (D (gk / 10)).length = j' ∧ D (gk / 10) ++ (((48 : Int) + (gk % 10 : Nat)) :: suf1) = Dig.digs q ∧ gk / 10 ≤ 99 ∧ Below base w0 (wr.setCell ⟨g, j', none⟩ (.int .u8 ((48 : Int) + (gk % 10 : Nat)))) from
          ⟨h1.store _ _, by rw [List.length_set]; exact h2, hF2, by omega, h5, by omega, h7.setCell HB.out _⟩)
        obtain ⟨y, hy⟩ : ∃ y : Nat, y = gk / 10 := ⟨_, rfl⟩
        obtain ⟨d, hd⟩ : ∃ d : Nat, d = gk % 10 := ⟨_, rfl⟩
        have hu : d < 10 ∧ gk = 10 * y + d := by omega
        have HY := Aside0.mk (And.intro hy hd)
        rw [← hy, ← hd] at HN
        clear hy hd h2 h3 h4 h5 h7 hF2
        have hM := HM.out
        have hC := HC.out
        have p58 : (0 : Int) < (gk : Int) := by omega
        have p59 : 0 < gk := by omega
        have p60 : (j' : Int) = (j' : Int) ∧ -9000000000000000000 ≤ (j' : Int) ∧ (j' : Int) ≤ 9000000000000000000 := by omega
        have p61 : (j' : Int) + 1 - 1 = (j' : Int) ∧ -9000000000000000000 ≤ (j' : Int) ∧ (j' : Int) ≤ 9000000000000000000 := by omega
        have p62 : (j' : Int) < (N : Int) := by omega
        have p63 : (0 : Int) ≤ (j' : Int) := by omega
        have p64 : j' < N := by omega
        have p65 : (gk : Int) / 10 = (y : Int) ∧ -9000000000000000000 ≤ (y : Int) ∧ (y : Int) ≤ 9000000000000000000 := by omega
        have p66 : 10 * (y : Int) = 10 * (y : Int) ∧ -9000000000000000000 ≤ 10 * (y : Int) ∧ 10 * (y : Int) ≤ 9000000000000000000 := by omega
        have p67 : (gk : Int) - 10 * (y : Int) = (d : Int) ∧ -9000000000000000000 ≤ (d : Int) ∧ (d : Int) ≤ 9000000000000000000 := by omega
        have t58 := eq_true p58
        have d58 : decide ((0 : Int) < (gk : Int)) = true := decide_eq_true p58
        have t59 := eq_true p59
        have d59 : decide (0 < gk) = true := decide_eq_true p59
        have mk := w64 p60.1 p60.2.1 p60.2.2
        have mj := w64 p61.1 p61.2.1 p61.2.2
        have t62 := eq_true p62
        have d62 : decide ((j' : Int) < (N : Int)) = true := decide_eq_true p62
        have t63 := eq_true p63
        have d63 : decide ((0 : Int) ≤ (j' : Int)) = true := decide_eq_true p63
        have t64 := eq_true p64
        have d64 : decide (j' < N) = true := decide_eq_true p64
        have my := w64 p65.1 p65.2.1 p65.2.2
        have t66 := w64 p66.1 p66.2.1 p66.2.2
        have t67 := w64 p67.1 p67.2.1 p67.2.2
        clear hM hC p58 p59 p60 p61 p62 p63 p64 p65 p66 p67
        have m7 := u8a hu.1
        have m8 := u8b hu.1
        have HU := Aside0.mk (And.intro hu hk)
        clear hu h1 h6 l1 l2 l4 hk
        go_wp2_with (fail)
        go_roundg y
        case measure => have hu := HU.out.1; have hk := HU.out.2; clear t58 d58 t59 d59 mk mj t62 d62 t63 d63 t64 d64 my t66 t67 m7 m8; omega
        case rel => exact ⟨_, _, j', by rw [my], by rw [mk], HN⟩
  · obtain ⟨q, rfl⟩ : ∃ q : Nat, x = -(q : Int) := ⟨x.natAbs, by omega⟩
    have hLn : lenI (-(q : Int)) = (Dig.digs q).length + 1 := by unfold lenI; rw [if_pos hn, show (-(q : Int)).natAbs = q by omega]
    rw [hLn] at hr1
    have hL := PFnNumberDecimalNear.tdstrconv_LenInt.calls (q : Int) ((Dig.digs q).length : Int)
    have HLen := Aside0.mk (fun (W : World) (z : Int) (hz : z = (q : Int)) => show Calls Tryd.prog 29 #[.int .i64 z] W (fun e w' => e = .returned (.int .i64 ((Dig.digs q).length : Int)) ∧ Drawn0 W w') from by rw [hz]; exact hL W (lenInt_eq q (by omega)))
    clear hL hLn
    obtain ⟨L, hLL⟩ : ∃ L : Nat, L = (Dig.digs q).length := ⟨_, rfl⟩
    rw [← hLL] at HLen hr1
    have hL1 : 1 ≤ L := by rw [hLL]; exact (digs_len q).1
    obtain ⟨i2, hi2⟩ : ∃ i2 : Nat, i2 = i1 + 1 := ⟨_, rfl⟩
    obtain ⟨i3, hi3⟩ : ∃ i3 : Nat, i3 = i2 + L := ⟨_, rfl⟩
    have HZ := Aside0.mk (show iN + ([(101 : Int), 45] ++ Dig.digs q).length = i3 ∧ i3 ≤ N from ⟨by rw [hi3, hi2, hi1, hLL, List.length_append]; simp only [List.length_cons, List.length_nil]; omega, by omega⟩)
    have hDq : D q = Dig.digs q := by unfold D; rw [if_neg (by omega)]
    have HR2 := HR.out.store iN 101
    have hls : (full.set iN 101).length = c := by rw [List.length_set]; exact HC.out
    have hce2 := HR2.cell i1 (by have hq1 := HC.out; have hq2 := HM.out; rw [List.length_set]; omega)
    have hfe2 := HR2.frozen i1
    have HS := Aside0.mk (fun nd : Nat => show Aside0 (Row 5 (((W.setCell ⟨g, iN, none⟩ (.int .u8 101)).setCell ⟨g, i1, none⟩ (.int .u8 45)).drewN nd) g ((full.set iN 101).set i1 45) ∧ ((full.set iN 101).set i1 45).length = c ∧ Fill ((full.set iN 101).set i1 45) (T ++ [101, 45]) [] i3 i3 ∧ (T ++ [101, 45]).length + (D q).length = i3 ∧ D q ++ [] = Dig.digs q ∧ q ≤ 99 ∧ Below base w0 (((W.setCell ⟨g, iN, none⟩ (.int .u8 101)).setCell ⟨g, i1, none⟩ (.int .u8 45)).drewN nd)) from
      ⟨(HR2.store _ _).drewN nd, by rw [List.length_set]; exact hls, fill_two HT.out.1 HT.out.2 hi1 (by have hq1 := HC.out; have hq2 := HM.out; omega) (by omega) (by have hq1 := HC.out; have hq2 := HM.out; omega), by rw [hDq, ← hLL, List.length_append, HT.out.2]; simp only [List.length_cons, List.length_nil]; omega, by rw [hDq, List.append_nil], by omega, pw_below_drewN ((HW0.out.setCell HB.out _).setCell HB.out _) nd⟩)
    have hng : wrap64 (q : Int) = (q : Int) := w64 (by omega) (by omega) (by omega)
    have HNg := Aside0.mk hng
    clear hng
    have hM := HM.out
    have hC := HC.out
    have p31 : (iN : Int) < (N : Int) := by omega
    have p32 : (0 : Int) ≤ (iN : Int) := by omega
    have p33 : iN < N := by omega
    have p34 : (i1 : Int) < (N : Int) := by omega
    have p35 : (0 : Int) ≤ (i1 : Int) := by omega
    have p36 : i1 < N := by omega
    have p37 : (iN : Int) + 1 = (i1 : Int) ∧ -9000000000000000000 ≤ (i1 : Int) ∧ (i1 : Int) ≤ 9000000000000000000 := by omega
    have p38 : (i1 : Int) + 1 = (i2 : Int) ∧ -9000000000000000000 ≤ (i2 : Int) ∧ (i2 : Int) ≤ 9000000000000000000 := by omega
    have p39 : (i2 : Int) + (L : Int) = (i3 : Int) ∧ -9000000000000000000 ≤ (i3 : Int) ∧ (i3 : Int) ≤ 9000000000000000000 := by omega
    have p40 : ¬ (-(q : Int) = 0) := by omega
    have p41 : ¬ (-(q : Int) = 1) := by omega
    have p42 : ¬ (-(q : Int) = 2) := by omega
    have p43 : ¬ (q = 0) := by omega
    have p44 : ¬ ((q : Int) = 0) := by omega
    have p45 : -(q : Int) < 0 := by omega
    have p46 : 0 < (q : Int) := by omega
    have p47 : 0 < q := by omega
    have t31 := eq_true p31
    have d31 : decide ((iN : Int) < (N : Int)) = true := decide_eq_true p31
    have t32 := eq_true p32
    have d32 : decide ((0 : Int) ≤ (iN : Int)) = true := decide_eq_true p32
    have t33 := eq_true p33
    have d33 : decide (iN < N) = true := decide_eq_true p33
    have t34 := eq_true p34
    have d34 : decide ((i1 : Int) < (N : Int)) = true := decide_eq_true p34
    have t35 := eq_true p35
    have d35 : decide ((0 : Int) ≤ (i1 : Int)) = true := decide_eq_true p35
    have t36 := eq_true p36
    have d36 : decide (i1 < N) = true := decide_eq_true p36
    have t37 := w64 p37.1 p37.2.1 p37.2.2
    have t38 := w64 p38.1 p38.2.1 p38.2.2
    have mL := w64 p39.1 p39.2.1 p39.2.2
    have t40 := eq_false p40
    have s40 : (-(q : Int) == 0) = false := beq_eq_false_iff_ne.mpr p40
    have r40 : (-(q : Int) != 0) = true := bne_iff_ne.mpr p40
    have t41 := eq_false p41
    have s41 : (-(q : Int) == 1) = false := beq_eq_false_iff_ne.mpr p41
    have r41 : (-(q : Int) != 1) = true := bne_iff_ne.mpr p41
    have t42 := eq_false p42
    have s42 : (-(q : Int) == 2) = false := beq_eq_false_iff_ne.mpr p42
    have r42 : (-(q : Int) != 2) = true := bne_iff_ne.mpr p42
    have t43 := eq_false p43
    have d43 : decide (q = 0) = false := decide_eq_false p43
    have t44 := eq_false p44
    have d44 : decide ((q : Int) = 0) = false := decide_eq_false p44
    have t45 := eq_true p45
    have d45 : decide (-(q : Int) < 0) = true := decide_eq_true p45
    have t46 := eq_true p46
    have d46 : decide (0 < (q : Int)) = true := decide_eq_true p46
    have t47 := eq_true p47
    have d47 : decide (0 < q) = true := decide_eq_true p47
    clear hM hC p31 p32 p33 p34 p35 p36 p37 p38 p39 p40 p41 p42 p43 p44 p45 p46 p47
    have hng := HNg.out
    have HI := Aside0.mk (And.intro hi1 (And.intro hi2 (And.intro hi3 hLL)))
    clear hi1 hi2 hi3 hLL hL1 hr1 hr2 hr3 x0 x1 x2 hroom hiN hDq hn hls HR2
    go_upto_block 4 with (go_at_call 29; refine (HLen.out _ _ ?hz).mono ?_; (case hz => first | with_reducible rfl | exact hng); rintro e w' ⟨rfl, ⟨nd, rfl⟩⟩)
    clear t31 d31 t32 d32 t33 d33 t34 d34 t35 d35 t36 d36 t37 t38 t40 s40 r40 t41 s41 r41 t42 s42 r42 t43 d43 t44 d44 t45 d45 t46 d46 t47 d47 hce hfe hce2 hfe2
    go_wp2_with (fail)
    rw [mL]
    clear mL hng
    go_loopg [11, 22, 23, 24] q (fun kq v11 v22 v23 v24 w' => ∃ (full1 suf1 : List Int) (j1 : Nat), v11 = .int .i64 (kq : Int) ∧ v22 = .int .i64 (j1 : Int) ∧ Aside0 (Row 5 w' g full1 ∧ full1.length = c ∧ Fill full1 (T ++ [101, 45]) suf1 j1 i3 ∧ (T ++ [101, 45]).length + (D kq).length = j1 ∧ D kq ++ suf1 = Dig.digs q ∧ kq ≤ 99 ∧ Below base w0 w'))
    case atStart => exact ⟨_, [], i3, rfl, rfl, HS.out _⟩
    case round =>
      obtain ⟨full1, suf1, j1, rfl, rfl, HI⟩ := hrel
      by_cases hk : gk = 0
      · subst hk
        have k1 := eq_true (show i3 ≤ c by have h1 := HZ.out.2; have h2 := HM.out; omega)
        go_wp2_with (fail)
        go_ret
        obtain ⟨h1, h2, h3, h4, h5, h6, h7⟩ := HI.out
        rw [D_zero] at h4 h5
        have h8 : (T ++ [101, 45]).length = j1 := by simpa only [List.length_nil, Nat.add_zero] using h4
        subst h8
        have h9 := h3.done
        rw [List.nil_append] at h5
        subst h5
        obtain ⟨z1, z2⟩ := HZ.out
        subst z1
        exact ⟨full1, [101, 45] ++ Dig.digs q, rfl, h2, h1, by rw [h9, List.append_assoc], .inr (.inr (.inr ⟨Dig.digs q, DG.digs q, by intro hnil; have := (digs_len q).1; rw [hnil] at this; exact absurd this (by decide), by have hq1 := HM.out; rw [List.length_append] at z2; clear k1; omega, .inr rfl⟩)), h7⟩
      · obtain ⟨h1, h2, h3, h4, h5, h6, h7⟩ := HI.out
        rw [D_len hk] at h4
        rw [D_pos hk, List.append_assoc] at h5
        obtain ⟨j', rfl⟩ : ∃ j', j1 = j' + 1 := ⟨j1 - 1, by omega⟩
        have hF2 := h3.step (by omega) ((48 : Int) + (gk % 10 : Nat))
        have l1 := h3.sum
        have l2 := HZ.out.2
        have l4 := h3.len
        have b5 := h1.cell j' (by omega)
        have b6 := h1.frozen j'
        have HN := Aside0.mk (show Row 5 (wr.setCell ⟨g, j', none⟩ (.int .u8 ((48 : Int) + (gk % 10 : Nat)))) g (full1.set j' ((48 : Int) + (gk % 10 : Nat))) ∧ (full1.set j' ((48 : Int) + (gk % 10 : Nat))).length = c ∧ Fill (full1.set j' ((48 : Int) + (gk % 10 : Nat))) (T ++ [101, 45]) (((48 : Int) + (gk % 10 : Nat)) :: suf1) j' i3 ∧ (T ++ [101, 45]).length + (D (gk / 10)).length = j' ∧ D (gk / 10) ++ (((48 : Int) + (gk % 10 : Nat)) :: suf1) = Dig.digs q ∧ gk / 10 ≤ 99 ∧ Below base w0 (wr.setCell ⟨g, j', none⟩ (.int .u8 ((48 : Int) + (gk % 10 : Nat)))) from
          ⟨h1.store _ _, by rw [List.length_set]; exact h2, hF2, by omega, h5, by omega, h7.setCell HB.out _⟩)
        obtain ⟨y, hy⟩ : ∃ y : Nat, y = gk / 10 := ⟨_, rfl⟩
        obtain ⟨d, hd⟩ : ∃ d : Nat, d = gk % 10 := ⟨_, rfl⟩
        have hu : d < 10 ∧ gk = 10 * y + d := by omega
        have HY := Aside0.mk (And.intro hy hd)
        rw [← hy, ← hd] at HN
        clear hy hd h2 h3 h4 h5 h7 hF2
        have hM := HM.out
        have hC := HC.out
        have p48 : (0 : Int) < (gk : Int) := by omega
        have p49 : 0 < gk := by omega
        have p50 : (j' : Int) = (j' : Int) ∧ -9000000000000000000 ≤ (j' : Int) ∧ (j' : Int) ≤ 9000000000000000000 := by omega
        have p51 : (j' : Int) + 1 - 1 = (j' : Int) ∧ -9000000000000000000 ≤ (j' : Int) ∧ (j' : Int) ≤ 9000000000000000000 := by omega
        have p52 : (j' : Int) < (N : Int) := by omega
        have p53 : (0 : Int) ≤ (j' : Int) := by omega
        have p54 : j' < N := by omega
        have p55 : (gk : Int) / 10 = (y : Int) ∧ -9000000000000000000 ≤ (y : Int) ∧ (y : Int) ≤ 9000000000000000000 := by omega
        have p56 : 10 * (y : Int) = 10 * (y : Int) ∧ -9000000000000000000 ≤ 10 * (y : Int) ∧ 10 * (y : Int) ≤ 9000000000000000000 := by omega
        have p57 : (gk : Int) - 10 * (y : Int) = (d : Int) ∧ -9000000000000000000 ≤ (d : Int) ∧ (d : Int) ≤ 9000000000000000000 := by omega
        have t48 := eq_true p48
        have d48 : decide ((0 : Int) < (gk : Int)) = true := decide_eq_true p48
        have t49 := eq_true p49
        have d49 : decide (0 < gk) = true := decide_eq_true p49
        have mk := w64 p50.1 p50.2.1 p50.2.2
        have mj := w64 p51.1 p51.2.1 p51.2.2
        have t52 := eq_true p52
        have d52 : decide ((j' : Int) < (N : Int)) = true := decide_eq_true p52
        have t53 := eq_true p53
        have d53 : decide ((0 : Int) ≤ (j' : Int)) = true := decide_eq_true p53
        have t54 := eq_true p54
        have d54 : decide (j' < N) = true := decide_eq_true p54
        have my := w64 p55.1 p55.2.1 p55.2.2
        have t56 := w64 p56.1 p56.2.1 p56.2.2
        have t57 := w64 p57.1 p57.2.1 p57.2.2
        clear hM hC p48 p49 p50 p51 p52 p53 p54 p55 p56 p57
        have m7 := u8a hu.1
        have m8 := u8b hu.1
        have HU := Aside0.mk (And.intro hu hk)
        clear hu h1 h6 l1 l2 l4 hk
        go_wp2_with (fail)
        go_roundg y
        case measure => have hu := HU.out.1; have hk := HU.out.2; clear t48 d48 t49 d49 mk mj t52 d52 t53 d53 t54 d54 my t56 t57 m7 m8; omega
        case rel => exact ⟨_, _, j', by rw [my], by rw [mk], HN⟩
end Go.Proofs.YtmpgbakkpbmpiaaDoor.AF
/- AppendFloat: behind the loop, where the point is passed. -/
namespace Go.Proofs.YtmpgbakkpbmpiaaDoor.AF
open Go.RowKit Go.Proofs.YtmpgbakkpbmpiaaDoorW.PrintWords Go.Proofs.YtmpgbakkpbmpiaaDoorW.PrintLast Go.Proofs.YtmpgbakkpbmpiaaDoorW.PrintMore
open PFl Brow Dig AD
set_option linter.unusedVariables false
set_option linter.unusedSimpArgs false

/-- Digits, or digits and a point and digits (ahead of the point there may be none). -/
def MantOK (M : List Int) : Prop := M.length ≤ 1000000000000 ∧ ∃ ds, DG ds ∧ ((ds ≠ [] ∧ M = ds) ∨ ∃ fs, DG fs ∧ fs ≠ [] ∧ M = ds ++ 46 :: fs)
theorem lenI_le (n : Nat) (h : 1 ≤ n) : lenI (n : Int) ≤ n := by
  rw [lenI_nat]
  have h1 := (digs_len n).2.2 h
  rcases Nat.lt_or_ge n (Dig.digs n).length with h2 | h2
  · exfalso
    have h3 : ∀ k : Nat, k < 10 ^ k := fun k => Nat.lt_pow_self (by decide)
    have h4 := h3 ((Dig.digs n).length - 1)
    omega
  · exact h2
set_option maxHeartbeats 4000000 in
set_option maxRecDepth 100000 in
theorem part24a {g N c iN last dot i0 base : Nat} {x jv : Int} {full pre : List Int} {w0 : World} {u1 u2 u3 u4 u5 u6 u7 u8 u9 u10 u12 u14 u15 u19 u20 u21 u25 u26 u27 u28 u29 u30 u31 u32 u33 u34 u35 u36 u37 u38 u39 u40 u41 u42 u43 u44 u45 u46 u47 u48 u49 u50 u51 u52 u53 u54 u55 u56 u57 u58 u59 u60 u61 u62 u63 u64 u65 u66 u67 u68 u69 u70 u71 u72 u73 u74 u75 u76 u77 u78 u79 u80 u81 u82 u83 u84 u85 u86 u87 u88 u89 u90 u91 u92 u93 u94 u95 u96 u97 u98 u99 u100 u101 u102 u103 u104 u105 u106 u107 u108 u109 u110 u111 u112 u113 u114 u115 u116 u117 u118 u119 u120 u121 u122 u123 u124 u125 u126 u127 u128 u129 u130 u131 u132 u133 u134 u135 u136 u137 u138 u139 u140 u141 u142 u143 u144 u145 u146 u147 u148 u149 u150 u151 u152 u153 u154 u155 u156 u157 u158 u159 u160 u161 u162 u163 u164 u165 u166 u167 u168 u169 u170 u171 u172 u173 u174 u175 u176 : Value} (W : World) (hr : Row 5 W g full) (hc : full.length = c) (hw0 : Below base w0 W) (hpl : pre.length = i0) (hpd : i0 ≤ dot) (hj : jv = (i0 : Int) - 1) (hb : base ≤ g) (hN : N ≤ c) (hm : N ≤ 1000000000000) (hcase : (dot ≤ last + 3 ∧ Room iN N x ∧ iN ≤ N ∧ ∃ M, MantOK M ∧ full.take iN = pre ++ M ∧ iN = i0 + M.length) ∨ (last + 3 < dot ∧ i0 ≤ last ∧ dot + 1 ≤ N ∧ dot ≤ i0 + 30 ∧ ∃ ds, DG ds ∧ full.take dot = pre ++ ds ∧ dot = i0 + ds.length)) (hld : last ≤ N ∧ dot ≤ N) :
    Code.wp Tryd.prog (rest 24 body22) (bodyPost Tryd.prog Tryd.f22 fun e w' => ∃ (full' M E : List Int), e = .returned (.slice (some ⟨g, 0, none⟩) (i0 + M.length + E.length) c) ∧ full'.length = c ∧ Row 5 w' g full' ∧ full'.take (i0 + M.length + E.length) = pre ++ M ++ E ∧ MantOK M ∧ ExpOK E ∧ Below base w0 w') ⟨#[.slice (some ⟨g, 0, none⟩) N c, u1, u2, u3, u4, u5, u6, u7, u8, u9, u10, .int .i64 x, u12, .int .i64 (iN : Int), u14, u15, .int .i64 (last : Int), .int .i64 (dot : Int), .int .i64 jv, u19, u20, u21, undef, undef, undef, u25, u26, u27, u28, u29, u30, u31, u32, u33, u34, u35, u36, u37, u38, u39, u40, u41, u42, u43, u44, u45, u46, u47, u48, u49, u50, u51, u52, u53, u54, u55, u56, u57, u58, u59, u60, u61, u62, u63, u64, u65, u66, u67, u68, u69, u70, u71, u72, u73, u74, u75, u76, u77, u78, u79, u80, u81, u82, u83, u84, u85, u86, u87, u88, u89, u90, u91, u92, u93, u94, u95, u96, u97, u98, u99, u100, u101, u102, u103, u104, u105, u106, u107, u108, u109, u110, u111, u112, u113, u114, u115, u116, u117, u118, u119, u120, u121, u122, u123, u124, u125, u126, u127, u128, u129, u130, u131, u132, u133, u134, u135, u136, u137, u138, u139, u140, u141, u142, u143, u144, u145, u146, u147, u148, u149, u150, u151, u152, u153, u154, u155, u156, u157, u158, u159, u160, u161, u162, u163, u164, u165, u166, u167, u168, u169, u170, u171, u172, u173, u174, u175, u176, undef, undef, undef, undef, undef, undef, undef, undef, undef, undef, undef, undef, undef, undef, undef, undef, undef, undef, undef, undef, undef, undef, undef, undef, undef, undef, undef, undef, undef, undef, undef, undef, undef, undef, undef, undef, undef, undef, undef, undef, undef, undef, undef, undef, undef, undef, undef, undef, undef, undef, undef, undef, undef, undef, undef, undef, undef, undef, undef, undef, undef, undef, undef, undef, undef, undef, undef, undef, undef, undef, undef, undef, undef, undef, undef, undef, undef, undef, undef, undef, undef, undef, undef, undef, undef, undef, undef, undef, undef], []⟩ W := by
  conv => arg 2; whnf
  have HR := Aside0.mk hr
  have HC := Aside0.mk hc
  have HW0 := Aside0.mk hw0
  have HPl := Aside0.mk (And.intro hpl (And.intro hpd hj))
  have HB := Aside0.mk hb
  have HM := Aside0.mk (And.intro hN hm)
  have HCase := Aside0.mk hcase
  clear hr hc hw0 hpl hpd hj hb hN hm hcase
  have dj := decide_eq_false (show ¬ ((dot : Int) < jv) by have := HPl.out; omega)
  have tj := eq_false (show ¬ ((dot : Int) < jv) by have := HPl.out; omega)
  go_upto_if 179 with (fail)
  clear dj tj
  go_cut [11, 13, 18] (fun v11 v13 v18 wc => ∃ (M : List Int) (x2 : Int) (i2 : Nat), v11 = .int .i64 x2 ∧ v13 = .int .i64 (i2 : Int) ∧ Aside0 (MantOK M ∧ full.take i2 = pre ++ M ∧ i2 = i0 + M.length ∧ Room i2 N x2 ∧ i2 ≤ N ∧ wc = W))
  case first =>
    rcases HCase.out with ⟨h1, h2, h3, M, h4, h5, h6⟩ | ⟨h1, h2, h3, h4, ds, h5, h6, h7⟩
    · have HX := Aside0.mk (And.intro h4 (And.intro h5 (And.intro h6 (And.intro h2 h3))))
      have hpl := HPl.out
      have hM := HM.out
      have hC := HC.out
      have p1 : ¬ ((last : Int) + 3 < (dot : Int)) := by omega
      have p2 : ¬ (last + 3 < dot) := by omega
      have p3 : ¬ (jv = (dot : Int)) := by omega
      have p4 : (last : Int) + 3 = (last : Int) + 3 ∧ -9000000000000000000 ≤ (last : Int) + 3 ∧ (last : Int) + 3 ≤ 9000000000000000000 := by omega
      have t1 := eq_false p1
      have d1 : decide ((last : Int) + 3 < (dot : Int)) = false := decide_eq_false p1
      have t2 := eq_false p2
      have d2 : decide (last + 3 < dot) = false := decide_eq_false p2
      have t3 := eq_false p3
      have s3 : (jv == (dot : Int)) = false := beq_eq_false_iff_ne.mpr p3
      have r3 : (jv != (dot : Int)) = true := bne_iff_ne.mpr p3
      have t4 := w64 p4.1 p4.2.1 p4.2.2
      clear hM hC p1 p2 p3 p4
      clear h1 h2 h3 h4 h5 h6 hpl
      go_wp2_with (fail)
      go_meet
      case rel => exact ⟨M, x, iN, rfl, rfl, ⟨HX.out.1, HX.out.2.1, HX.out.2.2.1, HX.out.2.2.2.1, HX.out.2.2.2.2, rfl⟩⟩
    · have hpl := HPl.out
      obtain ⟨n, hn⟩ : ∃ n : Nat, n = dot - last - 1 := ⟨_, rfl⟩
      have hlen := lenI_le n (by omega)
      have HX := Aside0.mk (show MantOK (ds.take (last + 1 - i0)) ∧ full.take (last + 1) = pre ++ ds.take (last + 1 - i0) ∧ last + 1 = i0 + (ds.take (last + 1 - i0)).length ∧ Room (last + 1) N (n : Int) ∧ last + 1 ≤ N from
        ⟨⟨by have hq1 := HM.out; rw [List.length_take]; omega, ds.take (last + 1 - i0), h5.take _, .inl ⟨by intro hnil; have := congrArg List.length hnil; simp only [List.length_take, List.length_nil] at this; omega, rfl⟩⟩, by
          have h8 : (full.take dot).take (last + 1) = full.take (last + 1) := by rw [List.take_take, Nat.min_eq_left (by omega)]
          rw [← h8, h6, List.take_append, hpl.1, List.take_of_length_le (by omega)], by rw [List.length_take, Nat.min_eq_left (by omega)]; omega, .inr ⟨by omega, by omega⟩, by omega⟩)
      have HNn := Aside0.mk hn
      clear hlen h5 h6 h7 hn
      have hM := HM.out
      have hC := HC.out
      have p5 : (last : Int) + 3 < (dot : Int) := by omega
      have p6 : last + 3 < dot := by omega
      have p7 : (last : Int) + 3 = (last : Int) + 3 ∧ -9000000000000000000 ≤ (last : Int) + 3 ∧ (last : Int) + 3 ≤ 9000000000000000000 := by omega
      have p8 : (last : Int) + 1 = ((last + 1 : Nat) : Int) ∧ -9000000000000000000 ≤ ((last + 1 : Nat) : Int) ∧ ((last + 1 : Nat) : Int) ≤ 9000000000000000000 := by omega
      have p9 : (dot : Int) - (last : Int) = (dot : Int) - (last : Int) ∧ -9000000000000000000 ≤ (dot : Int) - (last : Int) ∧ (dot : Int) - (last : Int) ≤ 9000000000000000000 := by omega
      have p10 : (dot : Int) - (last : Int) - 1 = ((dot - last - 1 : Nat) : Int) ∧ -9000000000000000000 ≤ ((dot - last - 1 : Nat) : Int) ∧ ((dot - last - 1 : Nat) : Int) ≤ 9000000000000000000 := by omega
      have t5 := eq_true p5
      have d5 : decide ((last : Int) + 3 < (dot : Int)) = true := decide_eq_true p5
      have t6 := eq_true p6
      have d6 : decide (last + 3 < dot) = true := decide_eq_true p6
      have t7 := w64 p7.1 p7.2.1 p7.2.2
      have ml := w64 p8.1 p8.2.1 p8.2.2
      have t9 := w64 p9.1 p9.2.1 p9.2.2
      have md := w64 p10.1 p10.2.1 p10.2.2
      clear hM hC p5 p6 p7 p8 p9 p10
      clear h1 h2 h3 h4 hpl
      go_wp2_with (fail)
      go_meet
      case rel => exact ⟨_, (n : Int), last + 1, by first | (rw [HNn.out]; congr 1; done) | (rw [HNn.out]; congr 1; exact md), by first | (congr 1; exact ml) | (congr 1; done), ⟨HX.out.1, HX.out.2.1, HX.out.2.2.1, HX.out.2.2.2.1, HX.out.2.2.2.2, rfl⟩⟩
  case rest =>
    obtain ⟨M, x2, i2, rfl, rfl, HX⟩ := hcut
    obtain ⟨h1, h2, h3, h4, h5, rfl⟩ := HX.out
    refine use_k (by assumption) ?_
    refine Code.wp_mono (bodyPost_mono ?_) (part25 _ HR.out HC.out HW0.out h2 (by rw [List.length_append, HPl.out.1, h3]) HB.out HM.out.1 HM.out.2 h4 h5)
    rintro e w' ⟨full', E, rfl, k1, k2, k3, k4, k5⟩
    exact ⟨full', M, E, by rw [h3], k1, k2, by rw [← h3]; exact k3, h1, k4, k5⟩
end Go.Proofs.YtmpgbakkpbmpiaaDoor.AF
/- AppendFloat: behind the loop, all digits behind the point. -/
namespace Go.Proofs.YtmpgbakkpbmpiaaDoor.AF
open Go.RowKit Go.Proofs.YtmpgbakkpbmpiaaDoorW.PrintWords Go.Proofs.YtmpgbakkpbmpiaaDoorW.PrintLast Go.Proofs.YtmpgbakkpbmpiaaDoorW.PrintMore
open PFl Brow Dig AD
set_option linter.unusedVariables false
set_option linter.unusedSimpArgs false

set_option maxHeartbeats 4000000 in
set_option maxRecDepth 100000 in
theorem part24b {g N c iN last i0 r base : Nat} {full pre suf : List Int} {w0 : World} {u1 u2 u3 u4 u5 u6 u7 u8 u9 u10 u12 u14 u15 u19 u20 u21 u25 u26 u27 u28 u29 u30 u31 u32 u33 u34 u35 u36 u37 u38 u39 u40 u41 u42 u43 u44 u45 u46 u47 u48 u49 u50 u51 u52 u53 u54 u55 u56 u57 u58 u59 u60 u61 u62 u63 u64 u65 u66 u67 u68 u69 u70 u71 u72 u73 u74 u75 u76 u77 u78 u79 u80 u81 u82 u83 u84 u85 u86 u87 u88 u89 u90 u91 u92 u93 u94 u95 u96 u97 u98 u99 u100 u101 u102 u103 u104 u105 u106 u107 u108 u109 u110 u111 u112 u113 u114 u115 u116 u117 u118 u119 u120 u121 u122 u123 u124 u125 u126 u127 u128 u129 u130 u131 u132 u133 u134 u135 u136 u137 u138 u139 u140 u141 u142 u143 u144 u145 u146 u147 u148 u149 u150 u151 u152 u153 u154 u155 u156 u157 u158 u159 u160 u161 u162 u163 u164 u165 u166 u167 u168 u169 u170 u171 u172 u173 u174 u175 u176 : Value} (W : World) (hr : Row 5 W g full) (hc : full.length = c) (hw0 : Below base w0 W) (hpl : pre.length = i0) (hb : base ≤ g) (hN : N ≤ c) (hm : N ≤ 1000000000000) (hF : Fill full pre suf (i0 + r + 1) iN) (hd : DG suf) (hd0 : suf ≠ []) (hiN : iN ≤ N) (hli : i0 ≤ last ∧ last ≤ N) :
    Code.wp Tryd.prog (rest 24 body22) (bodyPost Tryd.prog Tryd.f22 fun e w' => ∃ (full' M E : List Int), e = .returned (.slice (some ⟨g, 0, none⟩) (i0 + M.length + E.length) c) ∧ full'.length = c ∧ Row 5 w' g full' ∧ full'.take (i0 + M.length + E.length) = pre ++ M ++ E ∧ MantOK M ∧ ExpOK E ∧ Below base w0 w') ⟨#[.slice (some ⟨g, 0, none⟩) N c, u1, u2, u3, u4, u5, u6, u7, u8, u9, u10, .int .i64 0, u12, .int .i64 (iN : Int), u14, u15, .int .i64 (last : Int), .int .i64 (i0 : Int), .int .i64 ((i0 + r : Nat) : Int), u19, u20, u21, undef, undef, undef, u25, u26, u27, u28, u29, u30, u31, u32, u33, u34, u35, u36, u37, u38, u39, u40, u41, u42, u43, u44, u45, u46, u47, u48, u49, u50, u51, u52, u53, u54, u55, u56, u57, u58, u59, u60, u61, u62, u63, u64, u65, u66, u67, u68, u69, u70, u71, u72, u73, u74, u75, u76, u77, u78, u79, u80, u81, u82, u83, u84, u85, u86, u87, u88, u89, u90, u91, u92, u93, u94, u95, u96, u97, u98, u99, u100, u101, u102, u103, u104, u105, u106, u107, u108, u109, u110, u111, u112, u113, u114, u115, u116, u117, u118, u119, u120, u121, u122, u123, u124, u125, u126, u127, u128, u129, u130, u131, u132, u133, u134, u135, u136, u137, u138, u139, u140, u141, u142, u143, u144, u145, u146, u147, u148, u149, u150, u151, u152, u153, u154, u155, u156, u157, u158, u159, u160, u161, u162, u163, u164, u165, u166, u167, u168, u169, u170, u171, u172, u173, u174, u175, u176, undef, undef, undef, undef, undef, undef, undef, undef, undef, undef, undef, undef, undef, undef, undef, undef, undef, undef, undef, undef, undef, undef, undef, undef, undef, undef, undef, undef, undef, undef, undef, undef, undef, undef, undef, undef, undef, undef, undef, undef, undef, undef, undef, undef, undef, undef, undef, undef, undef, undef, undef, undef, undef, undef, undef, undef, undef, undef, undef, undef, undef, undef, undef, undef, undef, undef, undef, undef, undef, undef, undef, undef, undef, undef, undef, undef, undef, undef, undef, undef, undef, undef, undef, undef, undef, undef, undef, undef, undef], []⟩ W := by
  conv => arg 2; whnf
  have HC := Aside0.mk hc
  have HW0 := Aside0.mk hw0
  have HB := Aside0.mk hb
  have HM := Aside0.mk (And.intro hN (And.intro hm (And.intro hiN hli)))
  have HS := Aside0.mk (And.intro hr (And.intro hF (And.intro hd hd0)))
  have HPl := Aside0.mk hpl
  clear hr hc hw0 hpl hb hN hm hF hd hd0 hiN hli
  have hR : r = 0 ∨ 0 < r := by omega
  rcases hR with rfl | hr0
  · have dj := decide_eq_false (show ¬ ((i0 : Int) < ((i0 + 0 : Nat) : Int)) by omega)
    go_upto_if 179 with (fail)
    clear dj
    go_cut [11, 13, 18] (fun v11 v13 v18 wc => ∃ (full1 M : List Int), v11 = .int .i64 0 ∧ v13 = .int .i64 (iN : Int) ∧ Aside0 (Row 5 wc g full1 ∧ full1.length = c ∧ Below base w0 wc ∧ MantOK M ∧ full1.take iN = pre ++ M ∧ iN = i0 + M.length))
    case first =>
      obtain ⟨h1, h2, h3, h4⟩ := HS.out
      have hl := h2.len
      have hsm := h2.sum
      have hce := h1.cell i0 (by omega)
      have hfe := h1.frozen i0
      have hst := h1.store i0 46
      have hF2 := (show Fill full pre suf (i0 + 1) iN from h2).step (by rw [HPl.out]; exact Nat.le_refl _) 46
      have HX := Aside0.mk (show Row 5 (W.setCell ⟨g, i0, none⟩ (.int .u8 46)) g (full.set i0 46) ∧ (full.set i0 46).length = c ∧ Below base w0 (W.setCell ⟨g, i0, none⟩ (.int .u8 46)) ∧ MantOK (46 :: suf) ∧ (full.set i0 46).take iN = pre ++ 46 :: suf ∧ iN = i0 + (46 :: suf).length from
        ⟨hst, by rw [List.length_set]; exact HC.out, HW0.out.setCell HB.out _, ⟨by have hq1 := HM.out; rw [List.length_cons]; omega, [], DG.nil, .inr ⟨suf, h3, h4, rfl⟩⟩, by rw [← HPl.out] at hF2 ⊢; exact hF2.done, by rw [List.length_cons]; omega⟩)
      have hM := HM.out
      have hC := HC.out
      have p1 : (i0 : Int) < (N : Int) := by omega
      have p2 : (0 : Int) ≤ (i0 : Int) := by omega
      have p3 : i0 < N := by omega
      have p4 : ¬ ((last : Int) + 3 < (i0 : Int)) := by omega
      have p5 : ¬ (last + 3 < i0) := by omega
      have p6 : (last : Int) + 3 = (last : Int) + 3 ∧ -9000000000000000000 ≤ (last : Int) + 3 ∧ (last : Int) + 3 ≤ 9000000000000000000 := by omega
      have t1 := eq_true p1
      have d1 : decide ((i0 : Int) < (N : Int)) = true := decide_eq_true p1
      have t2 := eq_true p2
      have d2 : decide ((0 : Int) ≤ (i0 : Int)) = true := decide_eq_true p2
      have t3 := eq_true p3
      have d3 : decide (i0 < N) = true := decide_eq_true p3
      have t4 := eq_false p4
      have d4 : decide ((last : Int) + 3 < (i0 : Int)) = false := decide_eq_false p4
      have t5 := eq_false p5
      have d5 : decide (last + 3 < i0) = false := decide_eq_false p5
      have t6 := w64 p6.1 p6.2.1 p6.2.2
      clear hM hC p1 p2 p3 p4 p5 p6
      clear h1 h2 h3 h4 hl hsm hst hF2
      go_wp2_with (fail)
      go_meet
      case rel => exact ⟨_, _, rfl, rfl, HX⟩
    case rest =>
      obtain ⟨full1, M, rfl, rfl, HX⟩ := hcut
      obtain ⟨h1, h2, h3, h4, h5, h6⟩ := HX.out
      refine use_k (by assumption) ?_
      refine Code.wp_mono (bodyPost_mono ?_) (part25 _ h1 h2 h3 h5 (by rw [List.length_append, HPl.out, h6]) HB.out HM.out.1 HM.out.2.1 (.inl rfl) HM.out.2.2.1)
      rintro e w' ⟨full', E, rfl, k1, k2, k3, k4, k5⟩
      exact ⟨full', M, E, by rw [h6], k1, k2, by rw [← h6]; exact k3, h4, k4, k5⟩
  · have dj := decide_eq_true (show ((i0 : Int) < ((i0 + r : Nat) : Int)) by omega)
    go_upto_if 179 with (fail)
    clear dj
    go_cut [11, 13, 18] (fun v11 v13 v18 wc => ∃ (full1 M : List Int), v11 = .int .i64 0 ∧ v13 = .int .i64 (iN : Int) ∧ Aside0 (Row 5 wc g full1 ∧ full1.length = c ∧ Below base w0 wc ∧ MantOK M ∧ full1.take iN = pre ++ M ∧ iN = i0 + M.length))
    case first =>
      go_wp2_with (fail)
      go_loopg [18] r (fun kr v18 w' => ∃ (full1 suf1 : List Int), v18 = .int .i64 ((i0 + kr : Nat) : Int) ∧ Aside0 (Row 5 w' g full1 ∧ full1.length = c ∧ Below base w0 w' ∧ Fill full1 pre suf1 (i0 + kr + 1) iN ∧ DG suf1 ∧ suf1 ≠ []))
      case atStart => exact ⟨full, suf, rfl, ⟨HS.out.1, HC.out, HW0.out, HS.out.2.1, HS.out.2.2⟩⟩
      case round =>
        clear hr0 HS
        obtain ⟨full1, suf1, rfl, HI⟩ := hrel
        obtain ⟨h1, h2, h3, h4, h5, h6⟩ := HI.out
        have hl := h4.len
        have hsm := h4.sum
        cases gk with
        | zero =>
          have hF2 := (show Fill full1 pre suf1 (i0 + 1) iN from h4).step (by rw [HPl.out]; exact Nat.le_refl _) 46
          have hce := h1.cell i0 (by omega)
          have hfe := h1.frozen i0
          have HX := Aside0.mk (show Row 5 (wr.setCell ⟨g, i0, none⟩ (.int .u8 46)) g (full1.set i0 46) ∧ (full1.set i0 46).length = c ∧ Below base w0 (wr.setCell ⟨g, i0, none⟩ (.int .u8 46)) ∧ MantOK (46 :: suf1) ∧ (full1.set i0 46).take iN = pre ++ 46 :: suf1 ∧ iN = i0 + (46 :: suf1).length from
            ⟨h1.store _ _, by rw [List.length_set]; exact h2, h3.setCell HB.out _, ⟨by have hq1 := HM.out; rw [List.length_cons]; omega, [], DG.nil, .inr ⟨suf1, h5, h6, rfl⟩⟩, by rw [← HPl.out] at hF2 ⊢; exact hF2.done, by rw [List.length_cons]; omega⟩)
          have hM := HM.out
          have hC := HC.out
          have p7 : (i0 : Int) < (N : Int) := by omega
          have p8 : (0 : Int) ≤ (i0 : Int) := by omega
          have p9 : i0 < N := by omega
          have t7 := eq_true p7
          have d7 : decide ((i0 : Int) < (N : Int)) = true := decide_eq_true p7
          have t8 := eq_true p8
          have d8 : decide ((0 : Int) ≤ (i0 : Int)) = true := decide_eq_true p8
          have t9 := eq_true p9
          have d9 : decide (i0 < N) = true := decide_eq_true p9
          clear hM hC p7 p8 p9
          clear h1 h2 h3 h4 h5 h6 hl hsm hF2
          go_wp2_with (fail)
          go_meet
          case rel => exact ⟨_, _, rfl, rfl, HX⟩
        | succ k1 =>
          have hF2 := (show Fill full1 pre suf1 (i0 + (k1 + 1) + 1) iN from h4).step (by rw [HPl.out]; omega) 48
          obtain ⟨jj, hjj⟩ : ∃ jj : Nat, jj = i0 + (k1 + 1) := ⟨_, rfl⟩
          have hce := h1.cell jj (by omega)
          have hfe := h1.frozen jj
          rw [← hjj] at hF2 ⊢
          have HX := Aside0.mk (show Row 5 (wr.setCell ⟨g, jj, none⟩ (.int .u8 48)) g (full1.set jj 48) ∧ (full1.set jj 48).length = c ∧ Below base w0 (wr.setCell ⟨g, jj, none⟩ (.int .u8 48)) ∧ Fill (full1.set jj 48) pre (48 :: suf1) (i0 + k1 + 1) iN ∧ DG (48 :: suf1) ∧ (48 :: suf1) ≠ [] from
            ⟨h1.store _ _, by rw [List.length_set]; exact h2, h3.setCell HB.out _, (show jj = i0 + k1 + 1 by omega) ▸ hF2, h5.cons (by decide), by intro h; cases h⟩)
          have hM := HM.out
          have hC := HC.out
          have p10 : (jj : Int) < (N : Int) := by omega
          have p11 : (0 : Int) ≤ (jj : Int) := by omega
          have p12 : jj < N := by omega
          have p13 : (i0 : Int) < (jj : Int) := by omega
          have p14 : i0 < jj := by omega
          have p15 : (jj : Int) - 1 = ((i0 + k1 : Nat) : Int) ∧ -9000000000000000000 ≤ ((i0 + k1 : Nat) : Int) ∧ ((i0 + k1 : Nat) : Int) ≤ 9000000000000000000 := by omega
          have t10 := eq_true p10
          have d10 : decide ((jj : Int) < (N : Int)) = true := decide_eq_true p10
          have t11 := eq_true p11
          have d11 : decide ((0 : Int) ≤ (jj : Int)) = true := decide_eq_true p11
          have t12 := eq_true p12
          have d12 : decide (jj < N) = true := decide_eq_true p12
          have t13 := eq_true p13
          have d13 : decide ((i0 : Int) < (jj : Int)) = true := decide_eq_true p13
          have t14 := eq_true p14
          have d14 : decide (i0 < jj) = true := decide_eq_true p14
          have mj := w64 p15.1 p15.2.1 p15.2.2
          clear hM hC p10 p11 p12 p13 p14 p15
          clear h1 h2 h3 h4 h5 h6 hl hsm hF2 hjj
          go_wp2_with (fail)
          go_roundg k1
          case measure => omega
          case rel => exact ⟨_, _, by rw [mj], HX⟩
    case rest =>
      obtain ⟨full1, M, rfl, rfl, HX⟩ := hcut
      obtain ⟨h1, h2, h3, h4, h5, h6⟩ := HX.out
      refine use_k (by assumption) ?_
      refine Code.wp_mono (bodyPost_mono ?_) (part25 _ h1 h2 h3 h5 (by rw [List.length_append, HPl.out, h6]) HB.out HM.out.1 HM.out.2.1 (.inl rfl) HM.out.2.2.1)
      rintro e w' ⟨full', E, rfl, k1, k2, k3, k4, k5⟩
      exact ⟨full', M, E, by rw [h6], k1, k2, by rw [← h6]; exact k3, h4, k4, k5⟩
end Go.Proofs.YtmpgbakkpbmpiaaDoor.AF
/- AppendFloat, plain: what the loop over the digits keeps. -/
namespace Go.Proofs.YtmpgbakkpbmpiaaDoor.AF
open Go.RowKit Go.Proofs.YtmpgbakkpbmpiaaDoorW.PrintWords Go.Proofs.YtmpgbakkpbmpiaaDoorW.PrintLast Go.Proofs.YtmpgbakkpbmpiaaDoorW.PrintMore
open PFl Brow Dig AD
set_option linter.unusedVariables false
set_option linter.unusedSimpArgs false

/-- What stays the same over the loop: i0 bytes ahead, n without its noughts at the end has K digits, r noughts behind a point at i0. -/
structure Par (i0 r n K N c dot0 last0 : Nat) (x0 : Int) (pre : List Int) : Prop where
  hpl : pre.length = i0
  hK : (D n).length = K
  hn : n % 10 ≠ 0
  hd : dot0 = i0 ∨ (r = 0 ∧ i0 < dot0)
  hx : x0 ≠ 0 → dot0 = i0 + 1
  hroom : Room (last0 + 1) N x0
  hN : last0 + 1 ≤ N
  hdl : dot0 ≤ last0
  h30 : dot0 ≤ i0 + 30
  hm : N ≤ 1000000000000
  hc : N ≤ c
/-- Noughts at the end: nothing is kept yet. -/
def S1 (i0 r n K dot0 last0 : Nat) (x0 : Int) (pre : List Int) (m : Nat) (x : Int) (iN last dot jj : Nat) (full : List Int) : Prop :=
  iN = i0 ∧ dot = dot0 ∧ last = last0 ∧ x = x0 ∧ jj ≤ last0 + 1 ∧ ∃ z, m = n * 10 ^ z ∧
    ((jj = i0 + 1 + r + K + z ∧ dot0 < jj ∧ Fill full pre [] jj jj) ∨
     (r = 0 ∧ jj = i0 + K + z ∧ jj < dot0 ∧ Fill full pre (List.replicate (dot0 - jj) 48) jj dot0))
/-- What stands behind the whole part. -/
def Tail (t : List Int) : Prop := t = [] ∨ ∃ fs, DG fs ∧ fs ≠ [] ∧ t = 46 :: fs
/-- The digits: what is kept ends at iN. -/
def S2 (i0 r N : Nat) (pre : List Int) (m : Nat) (x : Int) (iN last dot jj : Nat) (full : List Int) : Prop :=
  last ≤ N ∧ dot ≤ N ∧
  ((jj = i0 + 1 + r + (D m).length ∧ dot < jj ∧ (dot = i0 ∨ (r = 0 ∧ i0 < dot)) ∧ (dot = i0 → x = 0) ∧ dot ≤ last + 3 ∧ i0 ≤ last ∧ Room iN N x ∧ iN ≤ N ∧ ∃ suf, DG suf ∧ suf ≠ [] ∧ Fill full pre suf jj iN) ∨
   (jj = i0 + (D m).length ∧ jj ≤ dot ∧ ∃ ds t, DG ds ∧ ds ≠ [] ∧ Fill full pre (ds ++ t) jj iN ∧
     ((dot ≤ last + 3 ∧ Room iN N x ∧ iN ≤ N ∧ Tail t) ∨ (last + 3 < dot ∧ i0 ≤ last ∧ dot + 1 ≤ N ∧ dot ≤ i0 + 30 ∧ t = [] ∧ iN = dot ∧ x = 0))))
section
variable {i0 r n K N c dot0 last0 : Nat} {x0 : Int} {pre full : List Int} {m iN last dot j : Nat} {x : Int}
theorem ffree {suf : List Int} {j N' n' : Nat} (h : Fill full pre suf j N') (h1 : pre.length ≤ n') (h2 : n' ≤ full.length) : Fill full pre [] n' n' :=
  ⟨h.fst, by rw [List.drop_of_length_le (by rw [List.length_take]; omega)], h2, h1, rfl⟩
theorem fput {suf : List Int} {j N' : Nat} (h : Fill full pre suf j N') (p : Nat) (v : Int) (hp : pre.length ≤ p) : (full.set p v).take pre.length = pre := by
  rw [List.take_set_of_le hp]; exact h.fst
theorem fone {p n' : Nat} {v : Int} (h : full.take pre.length = pre) (hp : pre.length ≤ p) (hn : n' = p + 1) (hl : n' ≤ full.length) : Fill (full.set p v) pre [v] p n' := by
  subst hn
  have h0 : Fill full pre [] (p + 1) (p + 1) := ⟨h, by rw [List.drop_of_length_le (by rw [List.length_take]; omega)], hl, by omega, rfl⟩
  exact h0.step hp v
theorem zeros_div {z : Nat} : n * 10 ^ (z + 1) / 10 = n * 10 ^ z := by
  rw [Nat.pow_succ, ← Nat.mul_assoc, Nat.mul_div_cancel _ (by decide)]
theorem zeros_mod {z : Nat} : n * 10 ^ (z + 1) % 10 = 0 := by
  rw [Nat.pow_succ, ← Nat.mul_assoc, Nat.mul_mod_left]
theorem S1.nought (h : S1 i0 r n K dot0 last0 x0 pre m x iN last dot j full) (hP : Par i0 r n K N c dot0 last0 x0 pre) (h0 : m % 10 = 0) : ∃ z, m = n * 10 ^ (z + 1) ∧
    ((j = i0 + 1 + r + K + (z + 1) ∧ dot0 < j ∧ Fill full pre [] j j) ∨
     (r = 0 ∧ j = i0 + K + (z + 1) ∧ j < dot0 ∧ Fill full pre (List.replicate (dot0 - j) 48) j dot0)) := by
  obtain ⟨h1, h2, h3, h4, h5, z, h6, h7⟩ := h
  cases z with
  | zero => rw [h6, Nat.pow_zero, Nat.mul_one] at h0; exact absurd h0 hP.hn
  | succ z => exact ⟨z, h6, h7⟩
theorem S1.digit (h : S1 i0 r n K dot0 last0 x0 pre m x iN last dot j full) (h0 : m % 10 ≠ 0) : m = n ∧
    ((j = i0 + 1 + r + K ∧ dot0 < j ∧ Fill full pre [] j j) ∨
     (r = 0 ∧ j = i0 + K ∧ j < dot0 ∧ Fill full pre (List.replicate (dot0 - j) 48) j dot0)) := by
  obtain ⟨h1, h2, h3, h4, h5, z, h6, h7⟩ := h
  cases z with
  | zero => exact ⟨by rw [h6, Nat.pow_zero, Nat.mul_one], h7⟩
  | succ z => rw [h6, zeros_mod] at h0; exact absurd rfl h0
theorem Par.pos (hP : Par i0 r n K N c dot0 last0 x0 pre) : 1 ≤ K ∧ (D (n / 10)).length + 1 = K := by
  have h1 := hP.hn
  have h2 := D_len (q := n) (by intro h; rw [h] at h1; exact h1 rfl)
  have h3 := hP.hK
  omega
/-- Where the point is met, a nought. -/
theorem S1.hit0 (hP : Par i0 r n K N c dot0 last0 x0 pre) (hf : full.length = c) (h : S1 i0 r n K dot0 last0 x0 pre m x iN last dot (j + 2) full) (hj : dot = j + 1) (h0 : m % 10 = 0) :
    S1 i0 r n K dot0 last0 x0 pre (m / 10) x iN last dot j ((full.set (j + 1) 46).set j 48) := by
  obtain ⟨z, h6, h7⟩ := h.nought hP h0
  obtain ⟨h1, h2, h3, h4, h5, -⟩ := h
  have hp := hP.pos
  have hc := hP.hc
  have hN := hP.hN
  have hpl := hP.hpl
  have hd := hP.hd
  refine ⟨h1, h2, h3, h4, by omega, z, by rw [h6, zeros_div], .inr ?_⟩
  rcases h7 with ⟨e1, e2, e3⟩ | ⟨e0, e1, e2, e3⟩
  · have hr0 : r = 0 := by rcases hd with hd | hd <;> omega
    refine ⟨hr0, by omega, by omega, ?_⟩
    have e4 : dot0 - j = 1 := by omega
    rw [e4]
    exact fone (fput e3 _ _ (by omega)) (by omega) (by omega) (by rw [List.length_set]; omega)
  · omega
/-- Where the point is met, the first digit. -/
theorem S1.hit1 (hP : Par i0 r n K N c dot0 last0 x0 pre) (hf : full.length = c) (h : S1 i0 r n K dot0 last0 x0 pre m x iN last dot (j + 2) full) (hj : dot = j + 1) (h0 : m % 10 ≠ 0) :
    S2 i0 r N pre (m / 10) x dot j dot j ((full.set (j + 1) 46).set j ((48 : Int) + (m % 10 : Nat))) := by
  obtain ⟨h6, h7⟩ := h.digit h0
  obtain ⟨h1, h2, h3, h4, h5, -⟩ := h
  have hp := hP.pos
  have hc := hP.hc
  have hN := hP.hN
  have hpl := hP.hpl
  have hd := hP.hd
  have hdl := hP.hdl
  have hroom := hP.hroom
  refine ⟨by omega, by omega, .inr ?_⟩
  rcases h7 with ⟨e1, e2, e3⟩ | ⟨e0, e1, e2, e3⟩
  · have hr0 : r = 0 := by rcases hd with hd | hd <;> omega
    refine ⟨by rw [h6]; omega, by omega, [(48 : Int) + (m % 10 : Nat)], [], DG.nil.cons (by omega), List.cons_ne_nil _ _, ?_, .inl ⟨by omega, ?_, by omega, .inl rfl⟩⟩
    · rw [List.append_nil]
      exact fone (fput e3 _ _ (by omega)) (by omega) (by omega) (by rw [List.length_set]; omega)
    · rcases hroom with hr | ⟨hr1, hr2⟩
      · exact .inl (by rw [h4]; exact hr)
      · exact .inr ⟨by rw [h4]; omega, by rw [h4]; exact hr2⟩
  · omega
/-- A nought. -/
theorem S1.go0 (hP : Par i0 r n K N c dot0 last0 x0 pre) (hf : full.length = c) (h : S1 i0 r n K dot0 last0 x0 pre m x iN last dot (j + 1) full) (hj : dot ≠ j) (h0 : m % 10 = 0) :
    S1 i0 r n K dot0 last0 x0 pre (m / 10) x iN last dot j (full.set j 48) := by
  obtain ⟨z, h6, h7⟩ := h.nought hP h0
  obtain ⟨h1, h2, h3, h4, h5, -⟩ := h
  have hp := hP.pos
  have hc := hP.hc
  have hN := hP.hN
  have hpl := hP.hpl
  refine ⟨h1, h2, h3, h4, by omega, z, by rw [h6, zeros_div], ?_⟩
  rcases h7 with ⟨e1, e2, e3⟩ | ⟨e0, e1, e2, e3⟩
  · refine .inl ⟨by omega, by omega, ?_⟩
    exact ⟨fput e3 _ _ (by omega), by rw [List.drop_of_length_le (by rw [List.length_take]; omega)], by rw [List.length_set]; omega, by omega, rfl⟩
  · refine .inr ⟨e0, by omega, by omega, ?_⟩
    have e4 : dot0 - j = (dot0 - (j + 1)) + 1 := by omega
    rw [e4, List.replicate_succ]
    exact e3.step (by omega) 48
/-- The first digit, behind the point. -/
theorem S1.behind (hP : Par i0 r n K N c dot0 last0 x0 pre) (hf : full.length = c) (h : S1 i0 r n K dot0 last0 x0 pre m x iN last dot (j + 1) full) (hj : dot < j) (h0 : m % 10 ≠ 0) :
    S2 i0 r N pre (m / 10) x (j + 1) j dot j (full.set j ((48 : Int) + (m % 10 : Nat))) := by
  obtain ⟨h6, h7⟩ := h.digit h0
  obtain ⟨h1, h2, h3, h4, h5, -⟩ := h
  have hp := hP.pos
  have hc := hP.hc
  have hN := hP.hN
  have hpl := hP.hpl
  have hd := hP.hd
  have hdl := hP.hdl
  have hx := hP.hx
  have hroom := hP.hroom
  refine ⟨by omega, by omega, .inl ?_⟩
  rcases h7 with ⟨e1, e2, e3⟩ | ⟨e0, e1, e2, e3⟩
  · refine ⟨by rw [h6]; omega, by omega, by rw [h2]; exact hd, ?_, by omega, by omega, ?_, by omega, [(48 : Int) + (m % 10 : Nat)], DG.nil.cons (by omega), List.cons_ne_nil _ _, ?_⟩
    · intro hdd
      rw [h4]
      rcases Decidable.em (x0 = 0) with hz | hz
      · exact hz
      · have := hx hz
        omega
    · rcases hroom with hr | ⟨hr1, hr2⟩
      · exact .inl (by rw [h4]; exact hr)
      · exact .inr ⟨by rw [h4]; omega, by rw [h4]; exact hr2⟩
    · exact fone e3.fst (by omega) rfl (by omega)
  · omega
theorem lenI_99 {e f : Int} (h : lenI e = lenI f) (he : e.natAbs ≤ 99) (hn : e < 0) (hf : f < 0) : f.natAbs ≤ 99 := by
  unfold lenI at h
  rw [if_pos hn, if_pos hf] at h
  have h1 := digs_len e.natAbs
  have h2 := digs_len f.natAbs
  have h3 : (Dig.digs e.natAbs).length ≤ 2 := by
    rcases Nat.lt_or_ge 2 (Dig.digs e.natAbs).length with hlt | hge
    · exfalso
      have h4 := Nat.pow_le_pow_right (n := 10) (by decide) (show 2 ≤ (Dig.digs e.natAbs).length - 1 by omega)
      have h5 : (10 : Nat) ^ 2 = 100 := by decide
      have := h1.2.2 (by omega)
      omega
    · exact hge
  have h6 := Nat.pow_le_pow_right (n := 10) (by decide) (show (Dig.digs f.natAbs).length ≤ 2 by omega)
  have h7 : (10 : Nat) ^ 2 = 100 := by decide
  omega
/-- The first digit, the point moved behind it. -/
theorem S1.moved (hP : Par i0 r n K N c dot0 last0 x0 pre) (hf : full.length = c) (h : S1 i0 r n K dot0 last0 x0 pre m x iN last dot (j + 2) full) (hj : dot < j + 1) (h0 : m % 10 ≠ 0) (hx0 : x < 0) (y : Int) (hy : y = x - (((j + 1 : Nat) : Int) - dot)) (hl : lenI y = lenI x) :
    S2 i0 r N pre (m / 10) y (j + 1) j (j + 1) j (full.set j ((48 : Int) + (m % 10 : Nat))) := by
  obtain ⟨h6, h7⟩ := h.digit h0
  obtain ⟨h1, h2, h3, h4, h5, -⟩ := h
  have hp := hP.pos
  have hc := hP.hc
  have hN := hP.hN
  have hpl := hP.hpl
  have hd := hP.hd
  have hdl := hP.hdl
  have hx := hP.hx (by omega)
  have hroom := hP.hroom
  refine ⟨by omega, by omega, .inr ?_⟩
  rcases h7 with ⟨e1, e2, e3⟩ | ⟨e0, e1, e2, e3⟩
  · have hr0 : r = 0 := by rcases hd with hd | hd <;> omega
    refine ⟨by rw [h6]; omega, by omega, [(48 : Int) + (m % 10 : Nat)], [], DG.nil.cons (by omega), List.cons_ne_nil _ _, ?_, .inl ⟨by omega, ?_, by omega, .inl rfl⟩⟩
    · rw [List.append_nil]
      exact fone e3.fst (by omega) rfl (by omega)
    · rcases hroom with hr | ⟨hr1, hr2⟩
      · omega
      · exact .inr ⟨by rw [hl, h4]; omega, lenI_99 hl.symm (by rw [h4]; exact hr2) hx0 (by omega)⟩
  · omega
/-- The first digit, ahead of the point. -/
theorem S1.ahead (hP : Par i0 r n K N c dot0 last0 x0 pre) (hf : full.length = c) (h : S1 i0 r n K dot0 last0 x0 pre m x iN last dot (j + 1) full) (hj : j < dot) (h0 : m % 10 ≠ 0) :
    S2 i0 r N pre (m / 10) x dot j dot j (full.set j ((48 : Int) + (m % 10 : Nat))) := by
  obtain ⟨h6, h7⟩ := h.digit h0
  obtain ⟨h1, h2, h3, h4, h5, -⟩ := h
  have hp := hP.pos
  have hc := hP.hc
  have hN := hP.hN
  have hpl := hP.hpl
  have hd := hP.hd
  have hdl := hP.hdl
  have hx := hP.hx
  have h30 := hP.h30
  have hroom := hP.hroom
  refine ⟨by omega, by omega, .inr ?_⟩
  rcases h7 with ⟨e1, e2, e3⟩ | ⟨e0, e1, e2, e3⟩
  · omega
  · have hz : x0 = 0 := by
      rcases Decidable.em (x0 = 0) with hz | hz
      · exact hz
      · have := hx hz
        omega
    refine ⟨by rw [h6]; omega, by omega, ((48 : Int) + (m % 10 : Nat)) :: List.replicate (dot0 - (j + 1)) 48, [], (show DG (List.replicate (dot0 - (j + 1)) 48) from fun y hy => by rw [List.eq_of_mem_replicate hy]; decide).cons (by omega), List.cons_ne_nil _ _, ?_, ?_⟩
    · rw [List.append_nil, h2]
      exact e3.step (by omega) _
    · by_cases h9 : dot ≤ j + 3
      · exact .inl ⟨h9, .inl (by rw [h4]; exact hz), by omega, .inl rfl⟩
      · exact .inr ⟨by omega, by omega, by omega, by omega, rfl, rfl, by rw [h4]; exact hz⟩
/-- The point, then a digit. -/
theorem S2.hit (hpl : pre.length = i0) (hf : full.length = c) (hc : N ≤ c) (h : S2 i0 r N pre m x iN last dot (j + 2) full) (hj : dot = j + 1) (hm : m ≠ 0) :
    S2 i0 r N pre (m / 10) x iN last dot j ((full.set (j + 1) 46).set j ((48 : Int) + (m % 10 : Nat))) := by
  obtain ⟨h1, h2, h3⟩ := h
  have hD := D_len hm
  refine ⟨h1, h2, .inr ?_⟩
  rcases h3 with ⟨e1, e2, e3, e4, e5, e6, e7, e8, suf, k1, k2, k3⟩ | ⟨e1, e2, e3⟩
  · have hr0 : r = 0 := by rcases e3 with hd | hd <;> omega
    refine ⟨by omega, by omega, [(48 : Int) + (m % 10 : Nat)], 46 :: suf, DG.nil.cons (by omega), List.cons_ne_nil _ _, ?_, .inl ⟨by omega, e7, e8, .inr ⟨suf, k1, k2, rfl⟩⟩⟩
    exact (k3.step (by omega) 46).step (by omega) _
  · omega
/-- A digit. -/
theorem S2.go (hpl : pre.length = i0) (hf : full.length = c) (hc : N ≤ c) (h : S2 i0 r N pre m x iN last dot (j + 1) full) (hj : dot ≠ j) (hm : m ≠ 0) :
    S2 i0 r N pre (m / 10) x iN last dot j (full.set j ((48 : Int) + (m % 10 : Nat))) := by
  obtain ⟨h1, h2, h3⟩ := h
  have hD := D_len hm
  refine ⟨h1, h2, ?_⟩
  rcases h3 with ⟨e1, e2, e3, e4, e5, e6, e7, e8, suf, k1, k2, k3⟩ | ⟨e1, e2, ds, t, k1, k2, k3, k4⟩
  · exact .inl ⟨by omega, by omega, e3, e4, e5, e6, e7, e8, ((48 : Int) + (m % 10 : Nat)) :: suf, k1.cons (by omega), List.cons_ne_nil _ _, k3.step (by omega) _⟩
  · exact .inr ⟨by omega, by omega, ((48 : Int) + (m % 10 : Nat)) :: ds, t, k1.cons (by omega), List.cons_ne_nil _ _, k3.step (by omega) _, k4⟩
/-- Where the digits are at their end. -/
theorem S2.fin (hpl : pre.length = i0) (hNm : N ≤ 1000000000000) (h : S2 i0 r N pre 0 x iN last dot j full) :
    (dot = i0 ∧ x = 0 ∧ j = i0 + r + 1 ∧ (i0 ≤ last ∧ last ≤ N) ∧ iN ≤ N ∧ ∃ suf, DG suf ∧ suf ≠ [] ∧ Fill full pre suf (i0 + r + 1) iN) ∨
    (j = i0 ∧ i0 ≤ dot ∧ (last ≤ N ∧ dot ≤ N) ∧ ((dot ≤ last + 3 ∧ Room iN N x ∧ iN ≤ N ∧ ∃ M, MantOK M ∧ full.take iN = pre ++ M ∧ iN = i0 + M.length) ∨ (last + 3 < dot ∧ i0 ≤ last ∧ dot + 1 ≤ N ∧ dot ≤ i0 + 30 ∧ ∃ ds, DG ds ∧ full.take dot = pre ++ ds ∧ dot = i0 + ds.length))) := by
  obtain ⟨h1, h2, h3⟩ := h
  rw [D_zero] at h3
  simp only [List.length_nil, Nat.add_zero] at h3
  rcases h3 with ⟨e1, e2, e3, e4, e5, e6, e7, e8, suf, k1, k2, k3⟩ | ⟨e1, e2, ds, t, k1, k2, k3, k4⟩
  · left
    have hd : dot = i0 := by rcases e3 with hd | hd <;> omega
    have hj : j = i0 + r + 1 := by omega
    refine ⟨hd, e4 hd, hj, ⟨e6, h1⟩, e8, suf, k1, k2, ?_⟩
    rw [← hj]; exact k3
  · right
    have hf : full.take iN = pre ++ (ds ++ t) := by
      rw [e1, ← hpl] at k3
      exact k3.done
    have hs := k3.sum
    refine ⟨e1, by omega, ⟨h1, h2⟩, ?_⟩
    rcases k4 with ⟨f1, f2, f3, f4⟩ | ⟨f1, f2, f3, f4, f5, f6, f7⟩
    · left
      refine ⟨f1, f2, f3, ds ++ t, ?_, hf, by omega⟩
      rcases f4 with rfl | ⟨fs, g1, g2, rfl⟩
      · exact ⟨by omega, ds, k1, .inl ⟨k2, List.append_nil _⟩⟩
      · exact ⟨by omega, ds, k1, .inr ⟨fs, g1, g2, rfl⟩⟩
    · right
      subst f5
      rw [List.append_nil] at hf hs
      exact ⟨f1, f2, f3, f4, ds, k1, by rw [← f6]; exact hf, by omega⟩
theorem S1.lt (hP : Par i0 r n K N c dot0 last0 x0 pre) (h : S1 i0 r n K dot0 last0 x0 pre m x iN last dot j full) : 1 ≤ j ∧ j ≤ N ∧ dot ≤ N ∧ x.natAbs ≤ 99 ∧ (j = dot + 1 → 2 ≤ j) ∧ m ≠ 0 ∧ (m % 10 ≠ 0 → dot < j → i0 < j - 1) := by
  have hp := hP.pos
  have hN := hP.hN
  have hdl := hP.hdl
  have hd := hP.hd
  have hn := hP.hn
  obtain ⟨h1, h2, h3, h4, h5, z, h6, h7⟩ := h
  refine ⟨?_, by omega, by omega, ?_, ?_, ?_, ?_⟩
  · rcases h7 with h | h <;> omega
  · rw [h4]
    rcases hP.hroom with h | h
    · rw [h]; decide
    · exact h.2
  · intro hj
    rcases h7 with h | h
    · rcases hd with hd | hd <;> omega
    · omega
  · rw [h6]
    exact Nat.mul_ne_zero (by intro h0; rw [h0] at hn; exact hn rfl) (Nat.pos_iff_ne_zero.1 (Nat.pow_pos (by decide)))
  · intro _ _
    rcases h7 with h | h <;> omega
theorem S2.lt (hpl : pre.length = i0) (hm : m ≠ 0) (h : S2 i0 r N pre m x iN last dot j full) : 1 ≤ j ∧ j ≤ N ∧ dot ≤ N ∧ (j = dot + 1 → 2 ≤ j) := by
  obtain ⟨h1, h2, h3⟩ := h
  have hD := D_len hm
  rcases h3 with ⟨e1, e2, e3, e4, e5, e6, e7, e8, suf, k1, k2, k3⟩ | ⟨e1, e2, ds, t, k1, k2, k3, k4⟩
  · have hs := k3.sum
    refine ⟨by omega, by omega, h2, fun hj => ?_⟩
    rcases e3 with hd | hd <;> omega
  · have hs := k3.sum
    refine ⟨by omega, ?_, h2, fun hj => by omega⟩
    rcases k4 with hk | hk <;> omega
end
end Go.Proofs.YtmpgbakkpbmpiaaDoor.AF
