/- ParseDecimal, ReadDecimal, WriteDecimal, mixed, the law FnNumberDecimalNear, walked. -/
import Derived.Test.YtmpgbakkpbmpiaaDoorMAd
import Derived.Test.YtmpgbakkpbmpiaaDoorPFnNumberDecimalNearx1
import Derived.Test.YtmpgbakkpbmpiaaDoorFlt
import Derived.Test.YtmpgbakkpbmpiaaDoorMRea
/- ParseDecimal over a number's text, plain: where its first digit and its point are, and which integer its digits make. -/
namespace Go.Proofs.YtmpgbakkpbmpiaaDoor.PD
open Go.RowKit Dig
set_option linter.unusedVariables false

/-- A digit or a point. -/
def Mark (c : Int) : Prop := c = 46 ∨ (48 ≤ c ∧ c ≤ 57)
/-- The loop of ParseDecimal from place i on: start, point, integer. -/
def fin : Nat → Int → Int → Nat → List Int → Int × Int × Nat
  | _, s, d, v, [] => (s, d, v)
  | i, s, d, v, c :: cs =>
    if c = 46 then fin (i + 1) s i v cs
    else if s = -1 then (if c = 48 then fin (i + 1) s d v cs else fin (i + 1) i d (c - 48).toNat cs)
    else fin (i + 1) s d (v * 10 + (c - 48).toNat) cs

theorem fin_digit {i : Nat} {s d : Int} {v m : Nat} {cs : List Int} (hm : m < 10) (hs : s ≠ -1) : fin i s d v (((48 : Int) + m) :: cs) = fin (i + 1) s d (v * 10 + m) cs := by
  rw [fin, if_neg (by omega), if_neg hs, show ((48 : Int) + m - 48).toNat = m by omega]
theorem fin_first {i : Nat} {d : Int} {v m : Nat} {cs : List Int} (hm : m < 10) (h0 : 0 < m) : fin i (-1) d v (((48 : Int) + m) :: cs) = fin (i + 1) i d m cs := by
  rw [fin, if_neg (by omega), if_pos rfl, if_neg (by omega), show ((48 : Int) + m - 48).toNat = m by omega]
theorem fin_zero {i : Nat} {d : Int} {v : Nat} {cs : List Int} : fin i (-1) d v ((48 : Int) :: cs) = fin (i + 1) (-1) d v cs := by
  rw [fin, if_neg (by omega), if_pos rfl, if_pos rfl]
theorem fin_point {i : Nat} {s d : Int} {v : Nat} {cs : List Int} : fin i s d v ((46 : Int) :: cs) = fin (i + 1) s i v cs := by
  rw [fin, if_pos rfl]

theorem fin_digs_on (q : Nat) : ∀ (i : Nat) (s d : Int) (v : Nat) (cs : List Int), s ≠ -1 → fin i s d v (digs q ++ cs) = fin (i + (digs q).length) s d (v * 10 ^ (digs q).length + q) cs := by
  induction q using Nat.strongRecOn with
  | ind q ih =>
    intro i s d v cs hs
    by_cases h : q < 10
    · rw [digs_small h]
      simp only [List.singleton_append, List.length_singleton, Nat.pow_one]
      exact fin_digit h hs
    · rw [digs_big (by omega), List.append_assoc, ih (q / 10) (by omega) _ _ _ _ _ hs, List.singleton_append, fin_digit (by omega) hs, List.length_append, List.length_singleton]
      congr 1
      rw [Nat.pow_succ, ← Nat.mul_assoc]
      omega
theorem fin_digs (q : Nat) : ∀ (i : Nat) (d : Int) (v : Nat) (cs : List Int), 0 < q → fin i (-1) d v (digs q ++ cs) = fin (i + (digs q).length) i d q cs := by
  induction q using Nat.strongRecOn with
  | ind q ih =>
    intro i d v cs hq
    by_cases h : q < 10
    · rw [digs_small h]
      simp only [List.singleton_append, List.length_singleton]
      exact fin_first h hq
    · rw [digs_big (by omega), List.append_assoc, ih (q / 10) (by omega) _ _ _ _ (by omega), List.singleton_append, fin_digit (by omega) (by omega), List.length_append, List.length_singleton]
      congr 1
      omega
theorem fin_frac_on : ∀ (k m i : Nat) (s d : Int) (v : Nat) (cs : List Int), s ≠ -1 → fin i s d v (frac k m ++ cs) = fin (i + k) s d (v * 10 ^ k + m % 10 ^ k) cs
  | 0, m, i, s, d, v, cs, hs => by simp [frac, Nat.mod_one]
  | k + 1, m, i, s, d, v, cs, hs => by
    rw [frac, List.append_assoc, fin_frac_on k (m / 10) _ _ _ _ _ hs, List.singleton_append, fin_digit (by omega) hs]
    congr 1
    rw [Nat.pow_succ, ← Nat.mul_assoc, Nat.mul_comm (10 ^ k) 10, Nat.mod_mul]
    omega
theorem fin_frac_zero : ∀ (k i : Nat) (d : Int) (v : Nat) (cs : List Int), fin i (-1) d v (frac k 0 ++ cs) = fin (i + k) (-1) d v cs
  | 0, i, d, v, cs => rfl
  | k + 1, i, d, v, cs => by
    rw [frac, List.append_assoc, show (0 : Nat) / 10 = 0 from rfl, fin_frac_zero k, List.singleton_append]
    exact fin_zero
theorem fin_frac : ∀ (k m i : Nat) (d : Int) (v : Nat) (cs : List Int), 0 < m → m < 10 ^ k → fin i (-1) d v (frac k m ++ cs) = fin (i + k) ((i : Int) + k - (digs m).length) d m cs
  | 0, m, i, d, v, cs, h0, h => by simp at h; omega
  | k + 1, m, i, d, v, cs, h0, h => by
    rw [frac, List.append_assoc]
    by_cases h9 : m < 10
    · rw [show m / 10 = 0 by omega, fin_frac_zero k, List.singleton_append, show m % 10 = m by omega, fin_first h9 h0, digs_small h9, List.length_singleton]
      congr 1
      omega
    · have hb := digs_big (n := m) (by omega)
      have hl := (digs_len (m / 10)).2.2 (by omega)
      have hk : m / 10 < 10 ^ k := by rw [Nat.pow_succ] at h; omega
      have hlk : (digs (m / 10)).length ≤ k := by
        rcases Nat.lt_or_ge k (digs (m / 10)).length with h1 | h1
        · have := Nat.pow_le_pow_right (n := 10) (by decide) (show k ≤ (digs (m / 10)).length - 1 by omega)
          omega
        · exact h1
      rw [fin_frac k (m / 10) i d v _ (by omega) hk, List.singleton_append, fin_digit (by omega) (by omega), hb, List.length_append, List.length_singleton]
      congr 1
      · omega
      · omega

/-- What the loop leaves, at the end of a number's text: the integer, and the exponent. -/
theorem fin_text (n d : Nat) (hn : 0 < n) : ∃ s p, fin 0 (-1) (-1) 0 (text n d) = (s, p, n) ∧ 0 ≤ s ∧ s < (text n d).length ∧ (p = -1 ∨ (1 ≤ p ∧ p < (text n d).length)) ∧
    (if p = -1 then ((text n d).length : Int) else p) - s - (digs n).length + (if (if p = -1 then ((text n d).length : Int) else p) < s then 1 else 0) = -(d : Int) := by
  have hL := (digs_len n).1
  by_cases hd : d = 0
  · subst hd
    rw [text_zero]
    have := fin_digs n 0 (-1) 0 [] hn
    rw [List.append_nil] at this
    refine ⟨0, -1, by rw [this]; rfl, by omega, by omega, .inl rfl, ?_⟩
    rw [if_pos rfl, if_neg (by omega)]
    omega
  · rw [text_pos n d (by omega)]
    have hT := Nat.pow_pos (a := 10) (n := d) (by decide)
    have hQ := (digs_len (n / 10 ^ d)).1
    rw [List.length_append, List.length_cons, frac_len]
    by_cases hq : n / 10 ^ d = 0
    · have hlt : n < 10 ^ d := by
        rcases Nat.lt_or_ge n (10 ^ d) with h | h
        · exact h
        · have := Nat.div_pos h hT
          omega
      have hlk : (digs n).length ≤ d := by
        rcases Nat.lt_or_ge d (digs n).length with h1 | h1
        · have := Nat.pow_le_pow_right (n := 10) (by decide) (show d ≤ (digs n).length - 1 by omega)
          have := (digs_len n).2.2 hn
          omega
        · exact h1
      rw [hq, digs_small (by decide)]
      have h1 := fin_frac d n 2 1 0 [] hn hlt
      rw [List.append_nil] at h1
      refine ⟨((2 : Nat) : Int) + d - (digs n).length, 1, ?_, ?_, ?_, .inr ⟨by omega, ?_⟩, ?_⟩
      · rw [List.singleton_append]
        refine Eq.trans fin_zero (Eq.trans fin_point (Eq.trans h1 rfl))
      · omega
      · simp only [List.length_singleton]; omega
      · simp only [List.length_singleton]; omega
      · rw [if_neg (by omega), if_pos (by omega)]
        omega
    · have hpos : 0 < n / 10 ^ d := Nat.pos_of_ne_zero hq
      have hlen := AD.digs_div (v := n) (d := d) ((Nat.le_div_iff_mul_le hT).1 hpos |> fun h => by rw [Nat.one_mul] at h; exact h)
      have h1 := fin_digs (n / 10 ^ d) 0 (-1) 0 ((46 : Int) :: frac d n) hpos
      have h2 := fin_frac_on d n (0 + (digs (n / 10 ^ d)).length + 1) 0 ((digs (n / 10 ^ d)).length : Int) (n / 10 ^ d) [] (by omega)
      rw [List.append_nil] at h2
      refine ⟨0, (digs (n / 10 ^ d)).length, ?_, by omega, by omega, .inr ⟨by omega, by omega⟩, ?_⟩
      · rw [h1]
        refine Eq.trans fin_point ?_
        rw [show ((0 + (digs (n / 10 ^ d)).length : Nat) : Int) = ((digs (n / 10 ^ d)).length : Int) by omega]
        refine Eq.trans h2 ?_
        rw [fin, Nat.div_add_mod' n (10 ^ d)]
      · rw [if_neg (by omega), if_neg (by omega), hlen]
        omega

theorem digs_mark (q : Nat) : ∀ c ∈ digs q, 48 ≤ c ∧ c ≤ 57 := by
  induction q using Nat.strongRecOn with
  | ind q ih =>
    intro c hc
    by_cases h : q < 10
    · rw [digs_small h, List.mem_singleton] at hc
      omega
    · rw [digs_big (by omega), List.mem_append, List.mem_singleton] at hc
      rcases hc with hc | hc
      · exact ih (q / 10) (by omega) c hc
      · omega
theorem frac_mark : ∀ (k m : Nat), ∀ c ∈ frac k m, 48 ≤ c ∧ c ≤ 57
  | 0, m, c, hc => by cases hc
  | k + 1, m, c, hc => by
    rw [frac, List.mem_append, List.mem_singleton] at hc
    rcases hc with hc | hc
    · exact frac_mark k (m / 10) c hc
    · omega
/-- Of what a number's text is made: at most one point. -/
def Tame (p : Int) (cs : List Int) : Prop := (∀ c ∈ cs, Mark c) ∧ (p ≠ -1 → (46 : Int) ∉ cs) ∧ cs.count 46 ≤ 1
theorem tame_text (n d : Nat) : Tame (-1) (text n d) := by
  refine ⟨?_, fun h => absurd rfl h, ?_⟩
  · intro c hc
    by_cases hd : d = 0
    · subst hd
      rw [text_zero] at hc
      exact .inr (digs_mark _ c hc)
    · rw [text_pos n d (by omega), List.mem_append, List.mem_cons] at hc
      rcases hc with hc | hc | hc
      · exact .inr (digs_mark _ c hc)
      · exact .inl hc
      · exact .inr (frac_mark _ _ c hc)
  · by_cases hd : d = 0
    · subst hd
      rw [text_zero, List.count_eq_zero.2 (fun h => by have := digs_mark _ _ h; omega)]
      omega
    · rw [text_pos n d (by omega), List.count_append, List.count_cons_self, List.count_eq_zero.2 (fun h => by have := digs_mark _ _ h; omega), List.count_eq_zero.2 (fun h => by have := frac_mark _ _ _ h; omega)]
      omega
theorem Tame.tail {p c : Int} {cs : List Int} (h : Tame p (c :: cs)) : Tame p cs := by
  refine ⟨fun x hx => h.1 x (List.mem_cons_of_mem _ hx), fun hp hx => h.2.1 hp (List.mem_cons_of_mem _ hx), ?_⟩
  have := h.2.2
  rw [List.count_cons] at this
  omega
theorem Tame.point {p p2 : Int} {cs : List Int} (h : Tame p ((46 : Int) :: cs)) : p = -1 ∧ Tame p2 cs := by
  have h1 := h.2.2
  rw [List.count_cons_self] at h1
  refine ⟨Decidable.byContradiction fun hp => h.2.1 hp (List.mem_cons_self ..), fun x hx => h.1 x (List.mem_cons_of_mem _ hx), fun _ hx => ?_, by omega⟩
  have := List.count_pos_iff.2 hx
  omega
end Go.Proofs.YtmpgbakkpbmpiaaDoor.PD
/- ParseDecimal: from the exponent on. -/
namespace Go.Proofs.YtmpgbakkpbmpiaaDoor.PD
open Go.RowKit Go.Proofs.YtmpgbakkpbmpiaaDoorW.PrintWords Go.Proofs.YtmpgbakkpbmpiaaDoorW.PrintLast Go.Proofs.YtmpgbakkpbmpiaaDoorW.PrintMore
open PFl Brow Dig AD
set_option linter.unusedVariables false
set_option linter.unusedSimpArgs false

noncomputable def body20 : Code := (Tryd.f20.body).getD .skip
set_option maxHeartbeats 2000000 in
set_option maxRecDepth 100000 in
/-- From the exponent on. -/
theorem part9 {A : Option Addr} {c L n d : Nat} {s p : Int} {u1 u2 u3 u9 u10 u11 u12 u13 u14 u15 u16 u17 u18 u19 u20 u21 u22 u23 u24 u25 u26 u27 u28 u29 u30 u31 u32 u33 u34 u35 u36 u37 u38 u39 u40 u41 u42 u43 u44 u45 u46 u47 u48 u49 u50 u51 u52 u53 u54 u55 u56 u57 u58 u59 u60 u61 u62 u63 u64 u65 u66 u67 u68 u69 u70 u71 u72 u73 u74 u75 u76 u77 u78 u79 u80 u81 u82 u83 u84 u85 u86 u87 u88 u89 u90 u91 u92 u93 u94 u95 u96 u97 u98 u99 u100 u101 u102 u103 u104 u105 u106 u107 u108 u109 u110 u111 u112 u113 u114 u115 u116 u117 u118 u119 u120 u121 u122 u123 u124 u125 u126 u127 u128 u129 u130 u131 u132 u133 u134 : Value} (w W : World) (hw : Drawn0 w W) (ht : ∀ i < 23, w.cell? ⟨0, i, none⟩ = some (.float .f64 (Tab.tab0.getD i 0))) (hL : L ≤ 100) (hs : 0 ≤ s ∧ s < L) (hp : 0 ≤ p ∧ p ≤ L) (hd : d < 10) (hn : 0 < n ∧ n < 9007199254740992)
    (hE : p - s - (digs n).length + (if p < s then 1 else 0) = -(d : Int)) :
    Code.wp Tryd.prog (rest 9 body20) (bodyPost Tryd.prog Tryd.f20 fun e w' => ∃ r, e = .returned (.tuple #[.float .f64 r, .int .i64 (L : Int)]) ∧ Real.ReadsAs r n d ∧ Drawn0 w w') ⟨#[.slice A L c, u1, u2, u3, .int .i64 (L : Int), .float .f64 4607182418800017408, .int .i64 s, .int .i64 p, .int .u64 (n : Int), u9, u10, u11, u12, u13, u14, u15, u16, u17, u18, u19, u20, u21, u22, u23, u24, u25, u26, u27, u28, u29, u30, u31, u32, u33, u34, u35, u36, u37, u38, u39, u40, u41, u42, u43, u44, u45, u46, u47, u48, u49, u50, u51, u52, u53, u54, u55, u56, u57, u58, u59, u60, u61, u62, u63, u64, u65, u66, u67, u68, u69, u70, u71, u72, u73, u74, u75, u76, u77, u78, u79, u80, u81, u82, u83, u84, u85, u86, u87, u88, u89, u90, u91, u92, u93, u94, u95, u96, u97, u98, u99, u100, u101, u102, u103, u104, u105, u106, u107, u108, u109, u110, u111, u112, u113, u114, u115, u116, u117, u118, u119, u120, u121, u122, u123, u124, u125, u126, u127, u128, u129, u130, u131, u132, u133, u134], []⟩ W := by
  conv => arg 2; whnf
  obtain ⟨m0, rfl⟩ := hw
  have HLU := Aside0.mk (fun W : World => PFnNumberDecimalNear.tdstrconv_LenUint.calls (n : Int) ((digs n).length : Int) W (lenUint_eq n (by omega)))
  have hdl : (digs n).length ≤ 16 := by
    rcases Nat.lt_or_ge 16 (digs n).length with h | h
    · have h1 := (digs_len n).2.2 hn.1
      have h2 := Nat.pow_le_pow_right (n := 10) (by decide) (show 16 ≤ (digs n).length - 1 by omega)
      omega
    · exact h
  generalize (digs n).length = D at *
  obtain ⟨x1, hx1⟩ : ∃ x1, x1 = p - s := ⟨_, rfl⟩
  obtain ⟨x2, hx2⟩ : ∃ x2, x2 = x1 - (D : Int) := ⟨_, rfl⟩
  obtain ⟨e, he⟩ : ∃ e, e = -(d : Int) := ⟨_, rfl⟩
  have w1 : wrap64 (p - s) = x1 := by rw [hx1]; simp only [wrap64]; omega
  have w2 : wrap64 (x1 - (D : Int)) = x2 := by rw [hx2]; simp only [wrap64]; omega
  have HE := Aside0.mk (show x2 + (if p < s then 1 else 0) = e by rw [hx2, hx1, he]; exact hE)
  have HT := Aside0.mk ht
  have HB := Aside0.mk (And.intro hL (And.intro hs (And.intro hp (And.intro hd (And.intro hn he)))))
  clear ht hL hs hp hd hn hE hdl hx1 hx2 he
  go_upto_if 87 with (go_at_call 26; refine (HLU.out _).mono ?_; rintro e w' ⟨rfl, ⟨nd, rfl⟩⟩)
  go_cut [10] (fun v10 wc => v10 = .int .i64 e ∧ Drawn0 w wc)
  case first =>
    go_wp2_with (fail)
    · go_meet
      case rel =>
        have hE := HE.out
        have hb := HB.out
        rw [if_pos (by assumption)] at hE
        have w3 : wrap64 (x2 + 1) = e := by simp only [wrap64]; omega
        exact ⟨by simp [w2, w3], by repeat (first | exact Drawn0.refl _ | apply Drawn0.step)⟩
    · go_meet
      case rel =>
        have hE := HE.out
        have hb := HB.out
        rw [if_neg (by omega)] at hE
        have w3 : x2 = e := by omega
        exact ⟨by simp [w2, w3], by repeat (first | exact Drawn0.refl _ | apply Drawn0.step)⟩
  case rest =>
    obtain ⟨rfl, ⟨m1, rfl⟩⟩ := hcut
    have hb := HB.out
    obtain ⟨hL, hs, hp, hd, hn, he⟩ := hb
    obtain ⟨-, x, hx, hv⟩ := Real.mul_one_val (Real.int_val n hn.1 hn.2) hn.1 hn.2
    have h1 : ∀ W : World, (binOp .mul 25 (.float .f64 4607182418800017408) (.float .f64 (floatOfInt .f64 (n : Int)))).run Tryd.prog W = .ok (.float .f64 x) W := fun W => run_float_arith W .mul 25 .f64 _ _ x (by rw [← (show Real.pw 0 = 4607182418800017408 by kernel_rfl)]; exact hx)
    by_cases hd0 : d = 0
    · subst hd0
      obtain ⟨r, hr, hra⟩ := Real.reads_whole hv hn.1 hn.2
      have e0 : e = 0 := by omega
      subst e0
      have h2 : ∀ W : World, (binOp .mul 25 (.float .f64 x) (.float .f64 (Real.pw 0))).run Tryd.prog W = .ok (.float .f64 r) W := fun W => run_float_arith W .mul 25 .f64 _ _ r hr
      have hc := HT.out 0 (by decide)
      rw [(Real.pw_tab 0 (by decide)).2] at hc
      have HRA := Aside0.mk hra
      clear hL hs hp hd hn he hx hv hr hra
      go_wp2_with (fail)
      go_ret2
      exact ⟨_, rfl, HRA.out, by repeat (first | exact Drawn0.refl _ | apply Drawn0.step)⟩
    · obtain ⟨r, hr, hra⟩ := Real.reads_part hv hn.1 hn.2 hd
      have h2 : ∀ W : World, (binOp .quo 25 (.float .f64 x) (.float .f64 (Real.pw d))).run Tryd.prog W = .ok (.float .f64 r) W := fun W => run_float_arith W .quo 25 .f64 _ _ r hr
      have hc := HT.out d (by omega)
      rw [(Real.pw_tab d hd).2] at hc
      have w1 : wrap64 (-e) = (d : Int) := by simp only [wrap64]; omega
      have q1 : decide (1023 < e) = false := decide_eq_false (by omega)
      have q2 : decide (e < -1022) = false := decide_eq_false (by omega)
      have q3 : decide (0 ≤ e) = false := decide_eq_false (by omega)
      have q4 : decide (-22 ≤ e) = true := decide_eq_true (by omega)
      have q5 : decide (e < 0) = true := decide_eq_true (by omega)
      have r1 := eq_false (show ¬ 1023 < e by omega)
      have r2 := eq_false (show ¬ e < -1022 by omega)
      have r3 := eq_false (show ¬ 0 ≤ e by omega)
      have r4 := eq_true (show -22 ≤ e by omega)
      have r5 := eq_true (show e < 0 by omega)
      have r6 := eq_true (show d < 23 by omega)
      have r7 := eq_true (show (d : Int) < 23 by omega)
      have r8 := eq_true (show (0 : Int) ≤ (d : Int) by omega)
      have HRA := Aside0.mk hra
      clear hL hs hp hd hn he hx hv hr hra hd0
      go_wp2_with (fail)
      go_ret2
      exact ⟨_, rfl, HRA.out, by repeat (first | exact Drawn0.refl _ | apply Drawn0.step)⟩
end Go.Proofs.YtmpgbakkpbmpiaaDoor.PD
/- ParseDecimal: the call. -/
namespace Go.Proofs.YtmpgbakkpbmpiaaDoor.PD
open Go.RowKit Go.Proofs.YtmpgbakkpbmpiaaDoorW.PrintWords Go.Proofs.YtmpgbakkpbmpiaaDoorW.PrintLast Go.Proofs.YtmpgbakkpbmpiaaDoorW.PrintMore
open PFl Brow Dig AD
set_option linter.unusedVariables false
set_option linter.unusedSimpArgs false

/-- What holds ahead of round i. -/
def Inv (l : List Int) (F : Int × Int × Nat) (i : Nat) (s p : Int) (v : Nat) : Prop := fin i s p v (l.drop i) = F ∧ Tame p (l.drop i) ∧ (s = -1 ∨ (0 ≤ s ∧ s < i)) ∧ (p = -1 ∨ (0 ≤ p ∧ p < i)) ∧ v < 10 ^ i
section
variable {l : List Int} {F : Int × Int × Nat} {i : Nat} {s p : Int} {v : Nat}
theorem drop_rd (hi : i < l.length) : l.drop i = rd l (i : Int) :: l.drop (i + 1) := by
  rw [List.drop_eq_getElem_cons hi]
  congr 1
  simp only [rd, Int.toNat_natCast, List.getD_eq_getElem?_getD, List.getElem?_eq_getElem hi, Option.getD_some]
theorem Inv.mark (h : Inv l F i s p v) (hi : i < l.length) : Mark (rd l (i : Int)) := by
  have h2 := h.2.1
  rw [drop_rd hi] at h2
  exact h2.1 _ (List.mem_cons_self ..)
theorem Inv.dot (h : Inv l F i s p v) (hi : i < l.length) (hc : rd l (i : Int) = 46) : p = -1 ∧ Inv l F (i + 1) s i v := by
  obtain ⟨h1, h2, h3, h4, h5⟩ := h
  rw [drop_rd hi, hc] at h1 h2
  rw [fin_point] at h1
  have h6 := h2.point (p2 := (i : Int))
  exact ⟨h6.1, h1, h6.2, by omega, .inr ⟨by omega, by omega⟩, by rw [Nat.pow_succ]; omega⟩
theorem Inv.zero (h : Inv l F i (-1) p v) (hi : i < l.length) (hc : rd l (i : Int) = 48) : Inv l F (i + 1) (-1) p v := by
  obtain ⟨h1, h2, h3, h4, h5⟩ := h
  rw [drop_rd hi, hc] at h1 h2
  rw [fin_zero] at h1
  exact ⟨h1, h2.tail, .inl rfl, by omega, by rw [Nat.pow_succ]; omega⟩
theorem Inv.first (h : Inv l F i (-1) p v) (hi : i < l.length) {m : Nat} (hm : m < 10) (h0 : 0 < m) (hc : rd l (i : Int) = (48 : Int) + m) : Inv l F (i + 1) i p m := by
  obtain ⟨h1, h2, h3, h4, h5⟩ := h
  rw [drop_rd hi, hc] at h1 h2
  rw [fin_first hm h0] at h1
  exact ⟨h1, h2.tail, .inr ⟨by omega, by omega⟩, by omega, by rw [Nat.pow_succ]; have := Nat.pow_pos (a := 10) (n := i) (by decide); omega⟩
theorem Inv.next (h : Inv l F i s p v) (hi : i < l.length) {m : Nat} (hm : m < 10) (hs : s ≠ -1) (hc : rd l (i : Int) = (48 : Int) + m) : Inv l F (i + 1) s p (v * 10 + m) := by
  obtain ⟨h1, h2, h3, h4, h5⟩ := h
  rw [drop_rd hi, hc] at h1 h2
  rw [fin_digit hm hs] at h1
  exact ⟨h1, h2.tail, by omega, by omega, by rw [Nat.pow_succ]; omega⟩
theorem Inv.done (h : Inv l F l.length s p v) : F = (s, p, v) := by
  have h1 := h.1
  rw [List.drop_length] at h1
  exact h1.symm
theorem Inv.small (h : Inv l F i s p v) (hi : i < 18) : v < 1000000000000000000 := by
  have h5 := h.2.2.2.2
  have := Nat.pow_le_pow_right (n := 10) (by decide) (show i ≤ 18 by omega)
  have e : (10 : Nat) ^ 18 = 1000000000000000000 := by decide
  omega
end
theorem text_short (n d : Nat) (hn : 0 < n ∧ n < 9007199254740992) (hd : d < 10) : 0 < (text n d).length ∧ (text n d).length ≤ 17 := by
  have h := text_len n d hn.1
  obtain ⟨a, b, c⟩ := digs_len n
  have c' := c hn.1
  have hL : (digs n).length ≤ 16 := by
    rcases Nat.lt_or_ge 16 (digs n).length with hlt | hge
    · exfalso
      have h1 := Nat.pow_le_pow_right (n := 10) (by decide) (show 16 ≤ (digs n).length - 1 by omega)
      have h2 : (10 : Nat) ^ 16 = 10000000000000000 := by decide
      omega
    · exact hge
  rw [h]
  by_cases h0 : d = 0
  · rw [if_pos h0]; omega
  · rw [if_neg h0]
    by_cases h10 : n < 10 ^ d
    · rw [if_pos h10]
      have h11 : (digs n).length ≤ d := by
        rcases Nat.lt_or_ge d (digs n).length with hlt | hge
        · have h1 := Nat.pow_le_pow_right (n := 10) (by decide) (show d ≤ (digs n).length - 1 by omega)
          omega
        · exact hge
      split <;> omega
    · rw [if_neg h10]
      split <;> omega
set_option maxHeartbeats 4000000 in
set_option maxRecDepth 100000 in
/-- ParseDecimal over a number's text. -/
theorem parse_calls (w : World) (A : Option Addr) (c n d : Nat) (l : List Int) (hl : l = text n d) (hn : 0 < n ∧ n < 9007199254740992) (hd : d < 10) (hr : Kd.C (Kd.int .u8) w A l.length l) (hc : l.length ≤ c) (ht : ∀ i < 23, w.cell? ⟨0, i, none⟩ = some (.float .f64 (Tab.tab0.getD i 0))) :
    Calls Tryd.prog 20 #[.slice A l.length c] w fun e w' => ∃ r, e = .returned (.tuple #[.float .f64 r, .int .i64 (l.length : Int)]) ∧ Real.ReadsAs r n d ∧ Drawn0 w w' := by
  obtain ⟨S, p, hf, hS0, hS1, hp, hE⟩ := fin_text n d hn.1
  have htame := tame_text n d
  have hlen := text_short n d hn hd
  rw [← hl] at hf hS1 hp hE htame hlen
  have HI0 := Aside0.mk (show Inv l (S, p, n) 0 (-1) (-1) 0 from ⟨hf, htame, .inl rfl, .inl rfl, by decide⟩)
  have hc45 : rd l 0 ≠ 45 := by
    have h := HI0.out.mark hlen.1
    intro h45
    rw [show ((0 : Nat) : Int) = 0 from rfl, h45] at h
    rcases h with h | h <;> omega
  clear hf htame hl
  have HR := Aside0.mk hr
  have HT := Aside0.mk ht
  have HC45 := Aside0.mk hc45
  have HB := Aside0.mk (And.intro hn (And.intro hd (And.intro hc (And.intro hS0 (And.intro hS1 (And.intro hp (And.intro hE hlen)))))))
  clear hn hd hr hc ht hS0 hS1 hp hE hlen hc45
  go_enter Tryd.func20, Tryd.ntmps20
  go_upto_region 3 with (fail)
  go_cut [20] (fun v20 wc => v20 = .bool false ∧ Drawn0 w wc)
  case first => as_aux_lemma =>
    have hp := HB.out.2.2.2.2.2.2.2
    obtain ⟨ad, rfl, hx⟩ := Kd.at_int HR.out 0 (by omega) (by omega)
    rw [show ((0 : Int)).toNat = 0 from rfl, Addr.add_zero'] at hx
    have q := eq_true (show (0 : Int) < (l.length : Int) by omega)
    have q' : decide ((0 : Int) < (l.length : Int)) = true := decide_eq_true (by omega)
    have q2 : (0 < l.length) = True := eq_true hp.1
    have b' : (rd l 0 == 45) = false := beq_eq_false_iff_ne.mpr HC45.out
    have b2 := eq_false HC45.out
    clear hp
    go_wp2
    go_meet
    case rel => exact ⟨by simp, by repeat (first | exact Drawn0.refl _ | apply Drawn0.step)⟩
  case rest => as_aux_lemma =>
    obtain ⟨rfl, ⟨m1, rfl⟩⟩ := hcut
    go_upto_block 0 with (fail)
    go_cut [4, 6, 7, 8] (fun v4 v6 v7 v8 wc => v4 = .int .i64 (l.length : Int) ∧ v6 = .int .i64 S ∧ v7 = .int .i64 p ∧ v8 = .int .u64 (n : Int) ∧ Drawn0 w wc)
    case first => as_aux_lemma =>
      go_wp2
      go_loopg [4, 6, 7, 8] l.length (fun kq v4 v6 v7 v8 w' => ∃ (i : Nat) (s q : Int) (v : Nat), v4 = .int .i64 i ∧ v6 = .int .i64 s ∧ v7 = .int .i64 q ∧ v8 = .int .u64 (v : Int) ∧ Aside0 (i + kq = l.length ∧ Inv l (S, p, n) i s q v) ∧ Drawn0 w w')
      case atStart => exact ⟨0, -1, -1, 0, rfl, rfl, rfl, rfl, ⟨by omega, HI0.out⟩, by repeat (first | exact Drawn0.refl _ | apply Drawn0.step)⟩
      case round => as_aux_lemma =>
        obtain ⟨i, s, q, v, rfl, rfl, rfl, rfl, HI, ⟨m3, rfl⟩⟩ := hrel
        have hb := HB.out.2.2.2.2.2.2.2
        by_cases hk : gk = 0
        · have hi : i = l.length := by have := HI.out.1; omega
          subst hi
          have q' : decide ((l.length : Int) < (l.length : Int)) = false := decide_eq_false (by omega)
          clear hb
          go_wp2
          go_meet
          case rel =>
            have h := HI.out.2.done
            simp only [Prod.mk.injEq] at h
            obtain ⟨rfl, rfl, rfl⟩ := h
            exact ⟨rfl, rfl, rfl, rfl, by repeat (first | exact Drawn0.refl _ | apply Drawn0.step)⟩
        · obtain ⟨k1, rfl⟩ : ∃ k1, gk = k1 + 1 := ⟨gk - 1, by omega⟩
          have hi : i < l.length := by have := HI.out.1; omega
          obtain ⟨ad, rfl, hx⟩ := Kd.at_int HR.out (i : Int) (by omega) (by omega)
          have q0 := eq_true (show ((i : Int)) < l.length by omega)
          have q1 := eq_true (show (0 : Int) ≤ (i : Int) by omega)
          have q2 : decide ((i : Int) < (l.length : Int)) = true := decide_eq_true (by omega)
          have q3 : (i < l.length) = True := eq_true (by omega)
          have hw : wrap64 ((i : Int) + 1) = ((i + 1 : Nat) : Int) := by simp only [wrap64]; omega
          rw [Int.toNat_natCast] at hx
          by_cases h46 : rd l (i : Int) = 46
          · obtain ⟨rfl, hI2⟩ := HI.out.2.dot hi h46
            rw [h46] at hx
            have HI2 := Aside0.mk hI2
            clear hI2 hb hi hk h46
            go_wp2
            go_roundg k1
            case measure => omega
            case rel => exact ⟨i + 1, s, i, v, by simp [hw], rfl, rfl, rfl, ⟨by have := HI.out.1; omega, HI2.out⟩, by repeat (first | exact Drawn0.refl _ | apply Drawn0.step)⟩
          · have hmk := HI.out.2.mark hi
            obtain ⟨m, hm⟩ : ∃ m : Nat, rd l (i : Int) = (48 : Int) + m := ⟨(rd l (i : Int) - 48).toNat, by rcases hmk with h | h <;> omega⟩
            have hm9 : m < 10 := by rcases hmk with h | h <;> omega
            by_cases hs : s = -1
            · subst hs
              by_cases hm0 : m = 0
              · have hz : rd l (i : Int) = 48 := by omega
                rw [hz] at hx
                have HI2 := Aside0.mk (HI.out.2.zero hi hz)
                clear hb hi hk h46 hmk hm hz
                go_wp2
                go_roundg k1
                case measure => omega
                case rel => exact ⟨i + 1, -1, q, v, by simp [hw], rfl, rfl, rfl, ⟨by have := HI.out.1; omega, HI2.out⟩, by repeat (first | exact Drawn0.refl _ | apply Drawn0.step)⟩
              · have HI2 := Aside0.mk (HI.out.2.first hi hm9 (by omega) hm)
                rw [hm] at hx
                obtain ⟨x, hxx⟩ : ∃ x, x = (48 : Int) + m := ⟨_, rfl⟩
                rw [← hxx] at hx
                have a1 : decide (48 ≤ x) = true := decide_eq_true (by omega)
                have a2 : decide (x ≤ 57) = true := decide_eq_true (by omega)
                have a3 : decide (49 ≤ x) = true := decide_eq_true (by omega)
                have b1 := eq_true (show 48 ≤ x by omega)
                have b2 := eq_true (show x ≤ 57 by omega)
                have b3 := eq_true (show 49 ≤ x by omega)
                have HX := Aside0.mk (And.intro hxx hm9)
                clear hb hi hk h46 hmk hm hm0 hxx hm9
                go_wp2
                go_roundg k1
                case measure => omega
                case rel => exact ⟨i + 1, i, q, m, by simp [hw], rfl, rfl, by have := HX.out; congr 1; (try simp only [IntKind.wrap_u8, IntKind.wrap_u64]); omega, ⟨by have := HI.out.1; omega, HI2.out⟩, by repeat (first | exact Drawn0.refl _ | apply Drawn0.step)⟩
            · have HI2 := Aside0.mk (HI.out.2.next hi hm9 hs hm)
              have hv := HI.out.2.small (by omega)
              have hsi := HI.out.2.2.2.1
              rw [hm] at hx
              obtain ⟨x, hxx⟩ : ∃ x, x = (48 : Int) + m := ⟨_, rfl⟩
              rw [← hxx] at hx
              obtain ⟨y, hy⟩ : ∃ y, y = (i : Int) - s := ⟨_, rfl⟩
              have w1 : wrap64 ((i : Int) - s) = y := by rw [hy]; simp only [wrap64]; omega
              have a1 : decide (48 ≤ x) = true := decide_eq_true (by omega)
              have a2 : decide (x ≤ 57) = true := decide_eq_true (by omega)
              have a3 : (s == -1) = false := beq_eq_false_iff_ne.mpr hs
              have a4 : decide (y < 18) = true := decide_eq_true (by omega)
              have b1 := eq_true (show 48 ≤ x by omega)
              have b2 := eq_true (show x ≤ 57 by omega)
              have b3 := eq_false hs
              have b4 := eq_true (show y < 18 by omega)
              have HX := Aside0.mk (And.intro hxx (And.intro hm9 hv))
              clear hb hi hk h46 hmk hm hxx hm9 hv hsi hs hy
              go_wp2
              go_roundg k1
              case measure => omega
              case rel => exact ⟨i + 1, s, q, v * 10 + m, by simp [hw], rfl, rfl, by have := HX.out; congr 1; (try simp only [IntKind.wrap_u8, IntKind.wrap_u64]); omega, ⟨by have := HI.out.1; omega, HI2.out⟩, by repeat (first | exact Drawn0.refl _ | apply Drawn0.step)⟩
    case rest => as_aux_lemma =>
      obtain ⟨rfl, rfl, rfl, rfl, ⟨m4, rfl⟩⟩ := hcut
      go_upto_region 23 with (fail)
      go_cut [72] (fun v72 wc => v72 = .bool false ∧ Drawn0 w wc)
      case first => as_aux_lemma =>
        have b1 : (p == 0) = false := beq_eq_false_iff_ne.mpr (by have := HB.out.2.2.2.2.2.1; omega)
        have b2 := eq_false (show ¬ p = 0 by have := HB.out.2.2.2.2.2.1; omega)
        rcases Bool.eq_false_or_eq_true ((l.length : Int) == 1) with c1 | c1
        · go_wp2_with (fail)
          go_meet
          case rel => exact ⟨by simp, by repeat (first | exact Drawn0.refl _ | apply Drawn0.step)⟩
        · go_wp2_with (fail)
          go_meet
          case rel => exact ⟨by simp, by repeat (first | exact Drawn0.refl _ | apply Drawn0.step)⟩
      case rest => as_aux_lemma =>
        obtain ⟨rfl, ⟨m5, rfl⟩⟩ := hcut
        go_upto_if 72 with (fail)
        go_cut [7] (fun v7 wc => v7 = .int .i64 (if p = -1 then (l.length : Int) else p) ∧ Aside0 (Drawn0 w wc))
        case first => as_aux_lemma =>
          have b1 : (S == -1) = false := beq_eq_false_iff_ne.mpr (by have := HB.out.2.2.2.1; omega)
          have b2 := eq_false (show ¬ S = -1 by have := HB.out.2.2.2.1; omega)
          by_cases hp : p = -1
          · have b3 : (p == -1) = true := beq_iff_eq.mpr hp
            have HP := Aside0.mk hp
            clear hp
            go_wp2_with (fail)
            go_meet
            case rel => exact ⟨by rw [if_pos HP.out], ⟨by repeat (first | exact Drawn0.refl _ | apply Drawn0.step)⟩⟩
          · have b3 : (p == -1) = false := beq_eq_false_iff_ne.mpr hp
            have HP := Aside0.mk hp
            clear hp
            go_wp2_with (fail)
            go_meet
            case rel => exact ⟨by rw [if_neg HP.out], ⟨by repeat (first | exact Drawn0.refl _ | apply Drawn0.step)⟩⟩
        case rest => as_aux_lemma =>
          obtain ⟨rfl, hw⟩ := hcut
          obtain ⟨hn, hd, hc, hS0, hS1, hp, hE, hlen⟩ := HB.out
          refine use_k (by assumption) ?_
          exact part9 w _ hw.out HT.out (by omega) ⟨hS0, hS1⟩ (by split <;> omega) hd hn hE
end Go.Proofs.YtmpgbakkpbmpiaaDoor.PD
/- ParseDecimal over a single nought; ReadDecimal, WriteDecimal. -/
namespace Go.Proofs.YtmpgbakkpbmpiaaDoor.PD
open Go.RowKit Go.Proofs.YtmpgbakkpbmpiaaDoorW.PrintWords Go.Proofs.YtmpgbakkpbmpiaaDoorW.PrintLast Go.Proofs.YtmpgbakkpbmpiaaDoorW.PrintMore
open PFl Brow Dig AD
set_option linter.unusedVariables false
set_option linter.unusedSimpArgs false

set_option maxHeartbeats 4000000 in
set_option maxRecDepth 100000 in
theorem parse_zero (w : World) (A : Option Addr) (c : Nat) (hr : Kd.C (Kd.int .u8) w A 1 [48]) (hc : 1 ≤ c) :
    Calls Tryd.prog 20 #[.slice A 1 c] w fun e w' => e = .returned (.tuple #[.float .f64 0, .int .i64 1]) ∧ Drawn0 w w' := by
  obtain ⟨ad, rfl, hx⟩ := Kd.at_int hr 0 (by omega) (by omega)
  rw [show ((0 : Int)).toNat = 0 from rfl, Addr.add_zero', show rd [48] 0 = 48 from rfl] at hx
  have hx2 : ∀ m, (w.drewN m).cell? ad = some (.int .u8 48) := fun m => hx
  clear hr hc
  go_enter Tryd.func20, Tryd.ntmps20
  go_upto_block 0 with (fail)
  go_cut [4, 6, 7, 8] (fun v4 v6 v7 v8 wc => v4 = .int .i64 1 ∧ v6 = .int .i64 (-1) ∧ v7 = .int .i64 (-1) ∧ v8 = .int .u64 0 ∧ Drawn0 w wc)
  case first =>
    go_wp2
    go_loopg [4, 6, 7, 8] 1 (fun kq v4 v6 v7 v8 w' => (kq = 1 ∧ v4 = .int .i64 0 ∨ kq = 0 ∧ v4 = .int .i64 1) ∧ v6 = .int .i64 (-1) ∧ v7 = .int .i64 (-1) ∧ v8 = .int .u64 0 ∧ Drawn0 w w')
    case atStart => exact ⟨.inl ⟨rfl, rfl⟩, rfl, rfl, rfl, by repeat (first | exact Drawn0.refl _ | apply Drawn0.step)⟩
    case round =>
      obtain ⟨⟨rfl, rfl⟩ | ⟨rfl, rfl⟩, rfl, rfl, rfl, ⟨m3, rfl⟩⟩ := hrel
      · go_wp2
        go_roundg 0
        case measure => omega
        case rel => exact ⟨.inr ⟨rfl, rfl⟩, rfl, rfl, rfl, by repeat (first | exact Drawn0.refl _ | apply Drawn0.step)⟩
      · go_wp2
        go_meet
        case rel => exact ⟨rfl, rfl, rfl, rfl, by repeat (first | exact Drawn0.refl _ | apply Drawn0.step)⟩
  case rest =>
    obtain ⟨rfl, rfl, rfl, rfl, ⟨m4, rfl⟩⟩ := hcut
    go_wp2
    go_ret2
    exact ⟨rfl, by repeat (first | exact Drawn0.refl _ | apply Drawn0.step)⟩

/-- ReadDecimal over a number's text. -/
theorem read_calls (w : World) (A : Option Addr) (c n d : Nat) (l : List Int) (hl : l = text n d) (hn : 0 < n ∧ n < 9007199254740992) (hd : d < 10) (hr : Kd.C (Kd.int .u8) w A l.length l) (hg0 : 0 < w.heap.size) (ht : ∀ i < 23, w.cell? ⟨0, i, none⟩ = some (.float .f64 (Tab.tab0.getD i 0))) :
    Calls Tryd.prog 10 #[.slice A l.length c] w fun e w' => ∃ r, e = .returned (.tuple #[.float .f64 r, .int .i64 (l.length : Int)]) ∧ Real.ReadsAs r n d ∧ Below w.heap.size w w' := by
  have hlen := text_short n d hn hd
  rw [← hl] at hlen
  have HOwn := Aside0.mk (fun W : World => fun h : Kd.C (Kd.int .u8) W A l.length l => own_calls A c l W h (by omega))
  have HPar := Aside0.mk (fun (W : World) (A' : Option Addr) (c' : Nat) h1 h2 h3 => parse_calls W A' c' n d l hl hn hd h1 h2 h3)
  have HR := Aside0.mk hr
  have HT := Aside0.mk ht
  have HG := Aside0.mk hg0
  clear hlen hl hn hd hr ht hg0
  go_enter Tryd.func10, Tryd.ntmps10
  go_wp2_with (first | (go_at_call 19; refine (HOwn.out _ HR.out).mono ?_; rintro e w' ⟨v, rfl, hv, hb⟩; obtain ⟨A2, c2, rfl, hc2, hC2⟩ := hv.reads; have HB := Aside0.mk hb; clear hb hv; have HC2 := Aside0.mk (And.intro hc2 hC2); clear hc2 hC2) | (go_at_call 20; refine (HPar.out _ A2 c2 HC2.out.2 HC2.out.1 (fun i hi => (HB.out.cell HG.out).trans (HT.out i hi))).mono ?_; rintro e w' ⟨r, rfl, hra, ⟨nd, rfl⟩⟩; have HRA := Aside0.mk hra; clear hra))
  go_ret2
  exact ⟨_, rfl, HRA.out, pw_below_drewN HB.out nd⟩
theorem read_zero (w : World) (A : Option Addr) (c : Nat) (hr : Kd.C (Kd.int .u8) w A 1 [48]) :
    Calls Tryd.prog 10 #[.slice A 1 c] w fun e w' => e = .returned (.tuple #[.float .f64 0, .int .i64 1]) ∧ Below w.heap.size w w' := by
  have HOwn := Aside0.mk (fun W : World => fun h : Kd.C (Kd.int .u8) W A 1 [48] => own_calls A c [48] W h (by decide))
  have HR := Aside0.mk hr
  clear hr
  go_enter Tryd.func10, Tryd.ntmps10
  go_wp2_with (first | (go_at_call 19; refine (HOwn.out _ HR.out).mono ?_; rintro e w' ⟨v, rfl, hv, hb⟩; obtain ⟨A2, c2, rfl, hc2, hC2⟩ := hv.reads; have HB := Aside0.mk hb; clear hb hv; have HC2 := Aside0.mk (And.intro hc2 hC2); clear hc2 hC2) | (go_at_call 20; refine (parse_zero _ A2 c2 HC2.out.2 HC2.out.1).mono ?_; rintro e w' ⟨rfl, ⟨nd, rfl⟩⟩))
  go_ret2
  exact ⟨rfl, pw_below_drewN HB.out nd⟩
end Go.Proofs.YtmpgbakkpbmpiaaDoor.PD
/- WriteDecimal. -/
namespace Go.Proofs.YtmpgbakkpbmpiaaDoor.PD
open Go.RowKit Go.Proofs.YtmpgbakkpbmpiaaDoorW.PrintWords Go.Proofs.YtmpgbakkpbmpiaaDoorW.PrintLast Go.Proofs.YtmpgbakkpbmpiaaDoorW.PrintMore
open PFl Brow Dig AD
set_option linter.unusedVariables false
set_option linter.unusedSimpArgs false

/-- The tables that the code reads. -/
structure Laid (w : World) : Prop where
  size : 6 ≤ w.heap.size
  t0 : ∀ i < 23, w.cell? ⟨0, i, none⟩ = some (.float .f64 (Tab.tab0.getD i 0))
  t1 : ∀ i < 19, w.cell? ⟨1, i, none⟩ = some (.int .i64 ((10 ^ i : Nat) : Int))
  tabs : Tab.Tabs w
theorem Laid.below {w w' : World} {B : Nat} (h : Laid w) (hb : Below B w w') (hB : 6 ≤ B) (hs : B ≤ w'.heap.size) : Laid w' :=
  ⟨by omega, fun i hi => (hb.cell (show 0 < B by omega)).trans (h.t0 i hi), fun i hi => (hb.cell (show 1 < B by omega)).trans (h.t1 i hi),
    ⟨fun i hi => (hb.cell (show 3 < B by omega)).trans (h.tabs.t3 i hi), fun i hi => (hb.cell (show 4 < B by omega)).trans (h.tabs.t4 i hi), fun i hi => (hb.cell (show 5 < B by omega)).trans (h.tabs.t5 i hi)⟩⟩

set_option maxHeartbeats 1000000
theorem write_calls (w : World) (A : Option Addr) (c : Nat) (l : List Int) (N d f : Nat) (hr : Kd.C (Kd.int .u8) w A l.length l) (hln : l.length ≤ 100000000000)
    (hN : 0 < N) (hN2 : N ≤ 1024001023) (hd3 : 3 ≤ d) (hd : d < 10) (hf : Real.Val f (N * 2 ^ 190)) (hf64 : f < 18446744073709551616) (hlaid : Laid w) :
    Calls Tryd.prog 11 #[.slice A l.length c, .float .f64 f, .int .i64 d] w fun e w' =>
      ∃ v' num n d' k, e = .returned v' ∧ num = n * 10 ^ k ∧ d = d' + k ∧ 0 < n ∧ num * 1024 ≤ N * 10 ^ d + 770 ∧ N * 10 ^ d ≤ num * 1024 + 770 ∧ Bs 5 w' w.heap.size v' (l ++ text n d') ∧ Below w.heap.size w w' := by
  have HOwn := Aside0.mk (fun W : World => fun h : Kd.C (Kd.int .u8) W A l.length l => own_calls A c l W h (by omega))
  have HApp := Aside0.mk (fun (W : World) (g : Nat) (full : List Int) base h1 h2 h3 h4 h5 h6 h7 h8 => append_calls W g full l base N d f h1 h2 h3 h4 h5 h6 hln hN hN2 hd3 hd hf hf64 h7 h8)
  have HR := Aside0.mk hr
  have HL := Aside0.mk hlaid
  clear hN hN2 hd3 hd hf hf64 hr hln hlaid
  go_enter Tryd.func11, Tryd.ntmps11
  go_wp2_with (first | (go_at_call 19; refine (HOwn.out _ HR.out).mono ?_; rintro e w1 ⟨v, rfl, hv, hb⟩; have hsz := (hv.lt); obtain ⟨g, full, rfl, hg, hrow, hle, hmx, htk⟩ := hv; have hsz2 : w.heap.size ≤ w1.heap.size := (by have := hrow.lt; omega); have HB := Aside0.mk (And.intro hb (And.intro hg (And.intro hrow (And.intro hle (And.intro hmx (And.intro htk hsz2)))))); clear hsz hsz2 hb hg hrow hle hmx htk) | (go_at_call 21; refine (HApp.out w1 g full w.heap.size HB.out.2.2.1 HB.out.2.2.2.1 HB.out.2.2.2.2.2.1 HB.out.2.2.2.2.1 HB.out.2.1 HB.out.2.2.2.2.2.2 (HL.out.below HB.out.1 HL.out.size HB.out.2.2.2.2.2.2).tabs (HL.out.below HB.out.1 HL.out.size HB.out.2.2.2.2.2.2).t1).mono ?_; rintro e w2 ⟨v', num, n, d', k, rfl, hx⟩; have HX := Aside0.mk hx; clear hx))
  go_ret
  obtain ⟨h1, h2, h3, h4, h5, h6, h7⟩ := HX.out
  exact ⟨v', num, n, d', k, rfl, h1, h2, h3, h4, h5, h6, HB.out.1.trans h7⟩
theorem write_zero (w : World) (A : Option Addr) (c : Nat) (l : List Int) (d f gg h : Nat) (hr : Kd.C (Kd.int .u8) w A l.length l) (hln : l.length ≤ 100000000000)
    (hd : d < 10) (hlaid : Laid w)
    (hnan : ∀ W : World, Calls Tryd.prog 28 #[.float .f64 f] W fun e w' => e = .returned (.bool false) ∧ Drawn0 W w')
    (hinf : ∀ W : World, Calls Tryd.prog 25 #[.float .f64 f, .int .i64 0] W fun e w' => e = .returned (.bool false) ∧ Drawn0 W w')
    (e1 : FloatKind.f64.format.mul f (Real.pw d) = some gg)
    (e2 : (FloatKind.f64.format.order 0 gg = some .lt ∨ FloatKind.f64.format.order 0 gg = some .eq) ∧ FloatKind.f64.format.add gg 4602678819172646912 = some h ∨ FloatKind.f64.format.order 0 gg = some .gt ∧ FloatKind.f64.format.sub gg 4602678819172646912 = some h)
    (hcv : ∀ W : World, (convert 25 2 (.float .f64 h)).run Tryd.prog W = .ok (.int .i64 0) W) :
    Calls Tryd.prog 11 #[.slice A l.length c, .float .f64 f, .int .i64 d] w fun e w' =>
      ∃ v', e = .returned v' ∧ Bs 5 w' w.heap.size v' (l ++ [48]) ∧ Below w.heap.size w w' := by
  have HOwn := Aside0.mk (fun W : World => fun h : Kd.C (Kd.int .u8) W A l.length l => own_calls A c l W h (by omega))
  have HApp := Aside0.mk (fun (W : World) (g : Nat) (full : List Int) base h1 h2 h3 h4 h5 h6 h7 => append_zero W g full l base d f gg h h1 h2 h3 h4 h5 h6 hln hd h7 hnan hinf e1 e2 hcv)
  have HR := Aside0.mk hr
  have HL := Aside0.mk hlaid
  clear hd hr hln hlaid hnan hinf e1 e2 hcv
  go_enter Tryd.func11, Tryd.ntmps11
  go_wp2_with (first | (go_at_call 19; refine (HOwn.out _ HR.out).mono ?_; rintro e w1 ⟨v, rfl, hv, hb⟩; have hsz := (hv.lt); obtain ⟨g, full, rfl, hg, hrow, hle, hmx, htk⟩ := hv; have hsz2 : w.heap.size ≤ w1.heap.size := (by have := hrow.lt; omega); have HB := Aside0.mk (And.intro hb (And.intro hg (And.intro hrow (And.intro hle (And.intro hmx (And.intro htk hsz2)))))); clear hsz hsz2 hb hg hrow hle hmx htk) | (go_at_call 21; refine (HApp.out w1 g full w.heap.size HB.out.2.2.1 HB.out.2.2.2.1 HB.out.2.2.2.2.2.1 HB.out.2.2.2.2.1 HB.out.2.1 HB.out.2.2.2.2.2.2 (HL.out.below HB.out.1 HL.out.size HB.out.2.2.2.2.2.2).tabs).mono ?_; rintro e w2 ⟨v', rfl, hx⟩; have HX := Aside0.mk hx; clear hx))
  go_ret
  obtain ⟨h1, h2⟩ := HX.out
  exact ⟨v', rfl, h1, HB.out.1.trans h2⟩
end Go.Proofs.YtmpgbakkpbmpiaaDoor.PD
/- laws.mixed, walked; '+' and '-' on floats where the value doesn't matter. -/
namespace Go.Proofs.YtmpgbakkpbmpiaaDoor.Mix
open Go.RowKit Go.Proofs.YtmpgbakkpbmpiaaDoorW.PrintWords Go.Proofs.YtmpgbakkpbmpiaaDoorW.PrintLast Go.Proofs.YtmpgbakkpbmpiaaDoorW.PrintMore
set_option linter.unusedVariables false
set_option linter.unusedSimpArgs false
section
variable {P : Program} (w : World)
theorem run_add_any (t : TypeId) (k : FloatKind) (x y : Nat) : ∃ r m, (binOp .add t (.float k x) (.float k y)).run P w = .ok (.float k r) (w.drewN m) := by
  cases h : k.format.add x y with
  | some r => exact ⟨r, 0, run_float_arith w .add t k x y r h⟩
  | none =>
    by_cases hf : (Question.nanBits k x y).forced = true
    · exact ⟨0, 0, by simp [binOp, Op.floatArith, h, hf]; rfl⟩
    · exact ⟨_, 1, by simp [binOp, Op.floatArith, h, hf]; exact ⟨rfl, rfl⟩⟩
theorem wp_add_any {o : Oper} {a : Act} {K : Act → World → Prop} {Q : Exit → Act → World → Prop} (x y : Operand) (t t' : TypeId) (k : FloatKind) (p q : Nat)
    (ho : o.op = .binOp .add t x y t') (hx : a.eval x = .float k p) (hy : a.eval y = .float k q) (h : ∀ r m, K (a.put o.dst (.float k r)) (w.drewN m)) : o.wp P a w K Q := by
  obtain ⟨r, m, hr⟩ := run_add_any (P := P) w t k p q
  unfold Oper.wp execOp
  simp only [ho, hx, hy, Sem.run_bind, eqGuard]
  simp [hr]
  exact h r m
theorem wpList_add_any {ops : Array Oper} {rest : List Oper} {o : Oper} {a : Act} {Q : Exit → Act → World → Prop} (hgd : o.guard = none) (x y : Operand) (t t' : TypeId) (k : FloatKind) (p q : Nat)
    (ho : o.op = .binOp .add t x y t') (hx : a.eval x = .float k p) (hy : a.eval y = .float k q) (h : ∀ r m, wpList P ops Q rest (a.put o.dst (.float k r)) (w.drewN m)) : wpList P ops Q (o :: rest) a w :=
  wpList_plain hgd fun _ hK => wp_add_any w x y t t' k p q ho hx hy fun r m => hK _ _ (h r m)
end
section
variable (w : World)
set_option maxHeartbeats 400000
theorem mixed_ok (a p q f : Nat) (ha : a ≤ 1000000000) (hp : p < 1024) (hq : Ieee.double.div (floatOfInt .f64 (p : Int)) 4652218415073722368 = some q) (hf : Ieee.double.add (floatOfInt .f64 (a : Int)) q = some f) :
    Calls Tryd.prog 9 #[.int .i64 a, .int .i64 p] w fun e w' => e = .returned (.tuple #[.float .f64 f, .bool true]) ∧ Drawn0 w w' := by
  have h1 : ∀ W : World, (binOp .quo 25 (.float .f64 (floatOfInt .f64 (p : Int))) (.float .f64 4652218415073722368)).run Tryd.prog W = .ok (.float .f64 q) W := fun W => run_float_arith W .quo 25 .f64 _ _ q hq
  have h2 : ∀ W : World, (binOp .add 25 (.float .f64 (floatOfInt .f64 (a : Int))) (.float .f64 q)).run Tryd.prog W = .ok (.float .f64 f) W := fun W => run_float_arith W .add 25 .f64 _ _ f hf
  have c1 : decide (-1000000000 ≤ (a : Int)) = true := decide_eq_true (by omega)
  have c2 : decide ((a : Int) ≤ 1000000000) = true := decide_eq_true (by omega)
  have c3 : decide ((0 : Int) ≤ (p : Int)) = true := decide_eq_true (by omega)
  have c4 : decide ((p : Int) < 1024) = true := decide_eq_true (by omega)
  have d1 := eq_true (show -1000000000 ≤ (a : Int) by omega)
  have d2 := eq_true (show (a : Int) ≤ 1000000000 by omega)
  have d3 := eq_true (show (0 : Int) ≤ (p : Int) by omega)
  have d4 := eq_true (show (p : Int) < 1024 by omega)
  have d5 := eq_true ha
  have d6 := eq_true hp
  clear hq hf ha hp
  go_enter Tryd.func9, Tryd.ntmps9
  go_wp2
  go_ret2
  exact ⟨rfl, by repeat (first | exact Drawn0.refl _ | apply Drawn0.step)⟩
theorem mixed_any (a p : Int) (hn : ¬ (-1000000000 ≤ a ∧ a ≤ 1000000000 ∧ 0 ≤ p ∧ p < 1024)) :
    Calls Tryd.prog 9 #[.int .i64 a, .int .i64 p] w fun e w' => (∃ f, e = .returned (.tuple #[.float .f64 f, .bool false])) ∧ Drawn0 w w' := by
  have HN := Aside0.mk hn
  clear hn
  rcases Bool.eq_false_or_eq_true (decide (-1000000000 ≤ a)) with c1 | c1
  · rcases Bool.eq_false_or_eq_true (decide (a ≤ 1000000000)) with c2 | c2
    · rcases Bool.eq_false_or_eq_true (decide (0 ≤ p)) with c3 | c3
      · have c4 : decide (p < 1024) = false := decide_eq_false (fun h => HN.out ⟨of_decide_eq_true c1, of_decide_eq_true c2, of_decide_eq_true c3, h⟩)
        go_enter Tryd.func9, Tryd.ntmps9
        go_wp2_with (first | (refine Flt.wpList_quo_any _ rfl _ _ _ _ _ _ _ rfl rfl rfl ?_; intro rm mm) | (refine wpList_add_any _ rfl _ _ _ _ _ _ _ rfl rfl rfl ?_; intro rn mn))
        go_ret2
        exact ⟨⟨_, rfl⟩, by repeat (first | exact Drawn0.refl _ | apply Drawn0.step)⟩
      · go_enter Tryd.func9, Tryd.ntmps9
        go_wp2_with (first | (refine Flt.wpList_quo_any _ rfl _ _ _ _ _ _ _ rfl rfl rfl ?_; intro rm mm) | (refine wpList_add_any _ rfl _ _ _ _ _ _ _ rfl rfl rfl ?_; intro rn mn))
        go_ret2
        exact ⟨⟨_, rfl⟩, by repeat (first | exact Drawn0.refl _ | apply Drawn0.step)⟩
    · go_enter Tryd.func9, Tryd.ntmps9
      go_wp2_with (first | (refine Flt.wpList_quo_any _ rfl _ _ _ _ _ _ _ rfl rfl rfl ?_; intro rm mm) | (refine wpList_add_any _ rfl _ _ _ _ _ _ _ rfl rfl rfl ?_; intro rn mn))
      go_ret2
      exact ⟨⟨_, rfl⟩, by repeat (first | exact Drawn0.refl _ | apply Drawn0.step)⟩
  · go_enter Tryd.func9, Tryd.ntmps9
    go_wp2_with (first | (refine Flt.wpList_quo_any _ rfl _ _ _ _ _ _ _ rfl rfl rfl ?_; intro rm mm) | (refine wpList_add_any _ rfl _ _ _ _ _ _ _ rfl rfl rfl ?_; intro rn mn))
    go_ret2
    exact ⟨⟨_, rfl⟩, by repeat (first | exact Drawn0.refl _ | apply Drawn0.step)⟩
end
end Go.Proofs.YtmpgbakkpbmpiaaDoor.Mix
/- FnNumberDecimalNear, the law walked. -/
namespace Go.Proofs.YtmpgbakkpbmpiaaDoor.NearW
open Go.RowKit Go.Proofs.YtmpgbakkpbmpiaaDoorW.PrintWords Go.Proofs.YtmpgbakkpbmpiaaDoorW.PrintLast Go.Proofs.YtmpgbakkpbmpiaaDoorW.PrintMore
open PFl Brow Dig AD PD Mix
set_option linter.unusedVariables false
set_option linter.unusedSimpArgs false

section
variable (w : World)
set_option maxHeartbeats 400000
theorem mixed_free (a p : Int) :
    Calls Tryd.prog 9 #[.int .i64 a, .int .i64 p] w fun e w' => (∃ f b, e = .returned (.tuple #[.float .f64 f, .bool b])) ∧ Drawn0 w w' := by
  by_cases hn : ¬ (-1000000000 ≤ a ∧ a ≤ 1000000000 ∧ 0 ≤ p ∧ p < 1024)
  · exact (mixed_any w a p hn).mono fun e w' h => ⟨⟨h.1.choose, false, h.1.choose_spec⟩, h.2⟩
  · have hn := Decidable.not_not.1 hn
    have c1 : decide (-1000000000 ≤ a) = true := decide_eq_true (by omega)
    have c2 : decide (a ≤ 1000000000) = true := decide_eq_true (by omega)
    have c3 : decide (0 ≤ p) = true := decide_eq_true (by omega)
    have c4 : decide (p < 1024) = true := decide_eq_true (by omega)
    clear hn
    go_enter Tryd.func9, Tryd.ntmps9
    go_wp2_with (first | (refine Flt.wpList_quo_any _ rfl _ _ _ _ _ _ _ rfl rfl rfl ?_; intro rm mm) | (refine wpList_add_any _ rfl _ _ _ _ _ _ _ rfl rfl rfl ?_; intro rn mn))
    go_ret2
    exact ⟨⟨_, _, rfl⟩, by repeat (first | exact Drawn0.refl _ | apply Drawn0.step)⟩

theorem law_off1 (a p d : Int) (hn : ¬ (-1000000000 ≤ a ∧ a ≤ 1000000000 ∧ 0 ≤ p ∧ p < 1024)) :
    Calls Tryd.prog 4 #[.int .i64 a, .int .i64 p, .int .i64 d] w fun e w' => e = .returned (.bool true) ∧ Below w.heap.size w w' := by
  have HM := Aside0.mk (fun W : World => mixed_any W a p hn)
  clear hn
  go_enter Tryd.func4, Tryd.ntmps4
  go_wp2_with (go_at_call 9; refine (HM.out _).mono ?_; rintro e w' ⟨⟨f, rfl⟩, ⟨nd, rfl⟩⟩)
  go_ret
  exact ⟨rfl, pw_below_drewN (Below.refl _ _) _⟩
theorem law_off2 (a p d : Int) (hn : ¬ (0 ≤ a ∧ a ≤ 1000000 ∧ 3 ≤ d ∧ d ≤ 9)) :
    Calls Tryd.prog 4 #[.int .i64 a, .int .i64 p, .int .i64 d] w fun e w' => e = .returned (.bool true) ∧ Below w.heap.size w w' := by
  have HM := Aside0.mk (fun W : World => mixed_free W a p)
  have HN := Aside0.mk hn
  clear hn
  go_enter Tryd.func4, Tryd.ntmps4
  go_upto_region 2 with (go_at_call 9; refine (HM.out _).mono ?_; rintro e w' ⟨⟨f, b, rfl⟩, ⟨nd, rfl⟩⟩)
  go_cut [34] (fun v34 wc => v34 = .bool true ∧ Aside0 (Below w.heap.size w wc))
  case first =>
    cases b with
    | false =>
      go_wp2_with (fail)
      go_meet
      case rel => exact ⟨by simp, ⟨pw_below_drewN (Below.refl _ _) _⟩⟩
    | true =>
      rcases Bool.eq_false_or_eq_true (decide (a < 0)) with c1 | c1
      · go_wp2_with (fail)
        go_meet
        case rel => exact ⟨by simp, ⟨pw_below_drewN (Below.refl _ _) _⟩⟩
      · rcases Bool.eq_false_or_eq_true (decide (1000000 < a)) with c2 | c2
        · go_wp2_with (fail)
          go_meet
          case rel => exact ⟨by simp, ⟨pw_below_drewN (Below.refl _ _) _⟩⟩
        · rcases Bool.eq_false_or_eq_true (decide (d < 3)) with c3 | c3
          · go_wp2_with (fail)
            go_meet
            case rel => exact ⟨by simp, ⟨pw_below_drewN (Below.refl _ _) _⟩⟩
          · have c4 : decide (9 < d) = true := decide_eq_true (by have := HN.out; have := of_decide_eq_false c1; have := of_decide_eq_false c2; have := of_decide_eq_false c3; omega)
            go_wp2_with (fail)
            go_meet
            case rel => exact ⟨by simp, ⟨pw_below_drewN (Below.refl _ _) _⟩⟩
  case rest =>
    obtain ⟨rfl, HB⟩ := hcut
    go_wp2_with (fail)
    go_ret
    exact ⟨rfl, HB.out⟩
end
end Go.Proofs.YtmpgbakkpbmpiaaDoor.NearW
/- FnNumberDecimalNear, the law within its guards. -/
namespace Go.Proofs.YtmpgbakkpbmpiaaDoor.NearW
open Go.RowKit Go.Proofs.YtmpgbakkpbmpiaaDoorW.PrintWords Go.Proofs.YtmpgbakkpbmpiaaDoorW.PrintLast Go.Proofs.YtmpgbakkpbmpiaaDoorW.PrintMore
open PFl Brow Dig AD PD Mix
set_option linter.unusedVariables false
set_option linter.unusedSimpArgs false
section
variable (w : World)
theorem isNaN_zero : Calls Tryd.prog 28 #[.float .f64 0] w fun e w' => e = .returned (.bool false) ∧ Drawn0 w w' := by
  have h : FloatKind.f64.format.order 0 0 = some .eq := by decide
  go_enter Tryd.func28, Tryd.ntmps28
  go_wp2
  go_ret
  exact ⟨by simp [h], by repeat (first | exact Drawn0.refl _ | apply Drawn0.step)⟩
theorem isInf_zero : Calls Tryd.prog 25 #[.float .f64 0, .int .i64 0] w fun e w' => e = .returned (.bool false) ∧ Drawn0 w w' := by
  have ho : FloatKind.f64.format.order 0 9218868437227405311 = some .lt := by decide
  go_enter Tryd.func25, Tryd.ntmps25
  go_wp2_with (go_at_call 31; refine (Fin.abs_val _ _ (by decide)).mono ?_; rintro e w' ⟨rfl, hdr⟩)
  go_ret
  exact ⟨by simp [ho], hdr⟩
def mulZ : Bool := (List.range 10).all fun d => Ieee.double.mul 0 (Real.pw d) == some 0
theorem mulZ_ok : mulZ = true := by kernel_rfl
theorem mul_zero_pw (d : Nat) (hd : d < 10) : Ieee.double.mul 0 (Real.pw d) = some 0 := by
  have h := mulZ_ok
  simp only [mulZ, List.all_eq_true, List.mem_range, beq_iff_eq] at h
  exact h d hd
theorem small_n {N d num n k : Nat} (hN2 : N ≤ 1024001023) (hd : d < 10) (h1 : num = n * 10 ^ k) (h4 : num * 1024 ≤ N * 10 ^ d + 770) : n < 9007199254740992 := by
  have h2 : n ≤ num := by rw [h1]; exact Nat.le_mul_of_pos_right _ (Nat.pow_pos (by decide))
  have h3 := Nat.mul_le_mul hN2 (Real.ten_le hd)
  omega
set_option maxHeartbeats 1000000
theorem law_main (a p d : Nat) (ha : a ≤ 1000000) (hp : p < 1024) (hd3 : 3 ≤ d) (hd : d < 10) (h0 : 0 < 1024 * a + p) (hlaid : Laid w) :
    Calls Tryd.prog 4 #[.int .i64 a, .int .i64 p, .int .i64 d] w fun e w' => e = .returned (.bool true) ∧ Below w.heap.size w w' := by
  obtain ⟨q, f, hq, hf, hv⟩ := Real.mixed_val a p (by omega) hp h0
  have hf64 : f < 18446744073709551616 := by
    have h := Ieee.Format.add_lt Ieee.double hf
    rw [show 2 ^ Ieee.double.width = 18446744073709551616 by decide] at h
    exact h
  obtain ⟨N, hN⟩ : ∃ N, N = 1024 * a + p := ⟨_, rfl⟩
  rw [← hN] at hv h0
  have hN2 : N ≤ 1024001023 := by omega
  have HM := Aside0.mk (fun W : World => mixed_ok W a p q f (by omega) hp hq hf)
  have HW := Aside0.mk (fun (W : World) h1 h2 h3 => write_calls W none 0 [] N d f h1 h2 h0 hN2 hd3 hd hv hf64 h3)
  have HL := Aside0.mk hlaid
  have HW2 := Aside0.mk (fun nd : Nat => HW.out (World.drewN w nd) (Kd.C_nil _ _) (by decide) ⟨HL.out.size, HL.out.t0, HL.out.t1, HL.out.tabs.of_heap rfl⟩)
  have b1 : decide ((a : Int) < 0) = false := decide_eq_false (by omega)
  have b2 : decide (1000000 < (a : Int)) = false := decide_eq_false (by omega)
  have b3 : decide ((d : Int) < 3) = false := decide_eq_false (by omega)
  have b4 : decide (9 < (d : Int)) = false := decide_eq_false (by omega)
  have c1 := eq_false (show ¬ (a : Int) < 0 by omega)
  have c2 := eq_false (show ¬ 1000000 < (a : Int) by omega)
  have c3 := eq_false (show ¬ (d : Int) < 3 by omega)
  have c4 := eq_false (show ¬ 9 < (d : Int) by omega)
  have c5 := eq_false (show ¬ 1000000 < a by omega)
  have c6 := eq_false (show ¬ d < 3 by omega)
  have c7 := eq_false (show ¬ 9 < d by omega)
  have HF := Aside0.mk (And.intro h0 (And.intro hN2 (And.intro hd3 (And.intro hd hv))))
  clear hq hf hf64 hN ha hp hd3 hd h0 hlaid hN2 hv
  go_enter Tryd.func4, Tryd.ntmps4
  go_upto_region 4 with (go_at_call 9; refine (HM.out _).mono ?_; rintro e w' ⟨rfl, ⟨nd, rfl⟩⟩)
  go_cut [9, 10] (fun v9 v10 wc => ∃ (got L : Nat), v9 = .float .f64 got ∧ v10 = .int .i64 (L : Int) ∧ Aside0 (0 < L ∧ (∃ r, Ieee.double.sub got f = some r ∧ (Ieee.double.order r 4562254508917369340 = some .lt ∨ Ieee.double.order r 4562254508917369340 = some .eq)) ∧ (∃ r, Ieee.double.sub f got = some r ∧ (Ieee.double.order r 4562254508917369340 = some .lt ∨ Ieee.double.order r 4562254508917369340 = some .eq)) ∧ Below w.heap.size w wc))
  case first =>
    go_wp2_with (first
      | (go_at_call 11; refine (HW2.out _).mono ?_; rintro e w2 ⟨v', num, n, d', k, rfl, h1, h2, h3, h4, h5, h6, h7⟩; obtain ⟨A2, c2', rfl, hc2, hC2⟩ := h6.reads; rw [List.nil_append] at hC2; have HX := Aside0.mk (And.intro h1 (And.intro h2 (And.intro h3 (And.intro h4 (And.intro h5 (And.intro h7 hC2)))))); clear h1 h2 h3 h4 h5 h6 h7 hC2)
      | (go_at_call 10; refine (read_calls w2 A2 _ n d' (text n d') rfl ⟨HX.out.2.2.1, ?n1⟩ ?n2 HX.out.2.2.2.2.2.2 ?n3 ?n4).mono ?_; (case n1 => exact small_n HF.out.2.1 HF.out.2.2.2.1 HX.out.1 HX.out.2.2.2.1); (case n2 => have := HX.out.2.1; have := HF.out.2.2.2.1; omega); (case n3 => have := HX.out.2.2.2.2.2.1.size; have := HL.out.size; simp only [World.heap_drewN] at *; omega); (case n4 => exact fun i hi => (HX.out.2.2.2.2.2.1.cell (show 0 < w.heap.size by have := HL.out.size; omega)).trans (HL.out.t0 i hi)); rintro e w3 ⟨r, rfl, hra, hb3⟩; have HY := Aside0.mk (And.intro hra hb3); clear hra hb3))
    go_meet
    case rel =>
      obtain ⟨hra, hb3⟩ := HY.out
      obtain ⟨h1, h2, h3, h4, h5, h7, hC2⟩ := HX.out
      obtain ⟨h0, hN2, hd3, hd, hv⟩ := HF.out
      have hn := small_n hN2 hd h1 h4
      obtain ⟨z1, z2⟩ := Real.near_final h0 hN2 hd3 hd hv hra h1 h2 h4 h5
      have hsz : w.heap.size ≤ w2.heap.size := h7.size
      exact ⟨r, (text n d').length, rfl, rfl, ⟨(text_short n d' ⟨h3, hn⟩ (by omega)).1, z1, z2, ((pw_below_drewN (Below.refl _ _) _).trans h7).trans (hb3.mono hsz)⟩⟩
  case rest =>
    obtain ⟨got, L, rfl, rfl, HZ⟩ := hcut
    obtain ⟨hL, ⟨r1, hs1, ho1⟩, ⟨r2, hs2, ho2⟩, hb⟩ := HZ.out
    have g1 : decide ((0 : Int) < (L : Int)) = true := decide_eq_true (by omega)
    have g2 := eq_true (show (0 : Int) < (L : Int) by omega)
    have g3 := eq_true hL
    have k1 : ∀ W : World, (binOp .sub 25 (.float .f64 got) (.float .f64 f)).run Tryd.prog W = .ok (.float .f64 r1) W := fun W => run_float_arith W .sub 25 .f64 _ _ r1 hs1
    have k2 : ∀ W : World, (binOp .sub 25 (.float .f64 f) (.float .f64 got)).run Tryd.prog W = .ok (.float .f64 r2) W := fun W => run_float_arith W .sub 25 .f64 _ _ r2 hs2
    have o1 : FloatKind.f64.format.order r1 4562254508917369340 = some .lt ∨ FloatKind.f64.format.order r1 4562254508917369340 = some .eq := ho1
    have o2 : FloatKind.f64.format.order r2 4562254508917369340 = some .lt ∨ FloatKind.f64.format.order r2 4562254508917369340 = some .eq := ho2
    clear hs1 hs2 ho1 ho2 hL hb
    rcases o1 with o1 | o1 <;> rcases o2 with o2 | o2
    all_goals
      go_wp2_with (fail)
      go_ret
      exact ⟨by simp, HZ.out.2.2.2⟩
/-- Where the number is nought. -/
theorem law_zero (d : Nat) (hd3 : 3 ≤ d) (hd : d < 10) (hlaid : Laid w) :
    Calls Tryd.prog 4 #[.int .i64 0, .int .i64 0, .int .i64 d] w fun e w' => e = .returned (.bool true) ∧ Below w.heap.size w w' := by
  have HM := Aside0.mk (fun W : World => mixed_ok W 0 0 0 0 (by decide) (by decide) (by decide) (by decide))
  have hmz : FloatKind.f64.format.mul 0 (Real.pw d) = some 0 := mul_zero_pw d hd
  have hcv : ∀ W : World, (convert 25 2 (.float .f64 4602678819172646912)).run Tryd.prog W = .ok (.int .i64 0) W := fun W => run_convert_float_int W 25 2 .f64 .i64 4602678819172646912 0 (by rw [Tryd.underlying25]; rfl) Tryd.underlying2 (by kernel_rfl)
  have HW := Aside0.mk (fun (W : World) h1 h2 h3 => write_zero W none 0 [] d 0 0 4602678819172646912 h1 h2 hd h3 (fun W => isNaN_zero W) (fun W => isInf_zero W) hmz (.inl ⟨.inr (by decide), by kernel_rfl⟩) hcv)
  have HL := Aside0.mk hlaid
  have HW2 := Aside0.mk (fun nd : Nat => HW.out (World.drewN w nd) (Kd.C_nil _ _) (by decide) ⟨HL.out.size, HL.out.t0, HL.out.t1, HL.out.tabs.of_heap rfl⟩)
  have b3 : decide ((d : Int) < 3) = false := decide_eq_false (by omega)
  have b4 : decide (9 < (d : Int)) = false := decide_eq_false (by omega)
  have c3 := eq_false (show ¬ (d : Int) < 3 by omega)
  have c4 := eq_false (show ¬ 9 < (d : Int) by omega)
  have c6 := eq_false (show ¬ d < 3 by omega)
  have c7 := eq_false (show ¬ 9 < d by omega)
  clear hd3 hd hlaid hmz hcv
  go_enter Tryd.func4, Tryd.ntmps4
  go_upto_region 4 with (go_at_call 9; refine (HM.out _).mono ?_; rintro e w' ⟨rfl, ⟨nd, rfl⟩⟩)
  go_cut [7, 9, 10] (fun v7 v9 v10 wc => v7 = .float .f64 0 ∧ v9 = .float .f64 0 ∧ v10 = .int .i64 1 ∧ Aside0 (Below w.heap.size w wc))
  case first =>
    go_wp2_with (first
      | (go_at_call 11; refine (HW2.out _).mono ?_; rintro e w2 ⟨v', rfl, h6, h7⟩; obtain ⟨A2, c2', rfl, hc2, hC2⟩ := h6.reads; rw [List.nil_append] at hC2; have HX := Aside0.mk (And.intro h7 hC2); clear h6 h7 hC2)
      | (go_at_call 10; refine (read_zero w2 A2 _ HX.out.2).mono ?_; rintro e w3 ⟨rfl, hb3⟩; have HY := Aside0.mk hb3; clear hb3))
    go_meet
    case rel =>
      have hsz : w.heap.size ≤ w2.heap.size := HX.out.1.size
      exact ⟨rfl, rfl, rfl, ⟨((pw_below_drewN (Below.refl _ _) _).trans HX.out.1).trans (HY.out.mono hsz)⟩⟩
  case rest =>
    obtain ⟨rfl, rfl, rfl, HB⟩ := hcut
    have k1 : ∀ W : World, (binOp .sub 25 (.float .f64 0) (.float .f64 0)).run Tryd.prog W = .ok (.float .f64 0) W := fun W => run_float_arith W .sub 25 .f64 _ _ 0 (by decide)
    have o1 : FloatKind.f64.format.order 0 4562254508917369340 = some .lt := by decide
    go_wp2_with (fail)
    go_ret
    exact ⟨by simp, HB.out⟩
/-- THE LAW. -/
theorem law (a p d : Int) (hlaid : Laid w) : Calls Tryd.prog 4 #[.int .i64 a, .int .i64 p, .int .i64 d] w fun e w' => e = .returned (.bool true) ∧ Below w.heap.size w w' := by
  by_cases h1 : -1000000000 ≤ a ∧ a ≤ 1000000000 ∧ 0 ≤ p ∧ p < 1024
  · by_cases h2 : 0 ≤ a ∧ a ≤ 1000000 ∧ 3 ≤ d ∧ d ≤ 9
    · obtain ⟨a', rfl⟩ := Int.eq_ofNat_of_zero_le h2.1
      obtain ⟨p', rfl⟩ := Int.eq_ofNat_of_zero_le h1.2.2.1
      obtain ⟨d', rfl⟩ := Int.eq_ofNat_of_zero_le (show 0 ≤ d by omega)
      by_cases h0 : 0 < 1024 * a' + p'
      · exact law_main w a' p' d' (by omega) (by omega) (by omega) (by omega) h0 hlaid
      · obtain rfl : a' = 0 := by omega
        obtain rfl : p' = 0 := by omega
        exact law_zero w d' (by omega) (by omega) hlaid
    · exact law_off2 w a p d h2
  · exact law_off1 w a p d h1
end
end Go.Proofs.YtmpgbakkpbmpiaaDoor.NearW
