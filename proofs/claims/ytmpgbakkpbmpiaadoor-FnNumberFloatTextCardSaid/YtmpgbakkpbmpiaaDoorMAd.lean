/- AppendDecimal, walked. -/
import Derived.Test.YtmpgbakkpbmpiaaDoorPow
import Derived.Test.YtmpgbakkpbmpiaaDoorMRea
import Derived.Laws.BitsAllLaws
import Derived.Test.YtmpgbakkpbmpiaaDoorPFnNumberDecimalNearx1
import Derived.Test.YtmpgbakkpbmpiaaDoorBrow
import Derived.Test.YtmpgbakkpbmpiaaDoorPfA
import Derived.Test.YtmpgbakkpbmpiaaDoorOwn
/- math.IsNaN, math.IsInf at a finite number that is not below nought: no. -/
namespace Go.Proofs.YtmpgbakkpbmpiaaDoor.Fin
open Go.RowKit Go.Proofs.YtmpgbakkpbmpiaaDoorW.PrintWords Go.Proofs.YtmpgbakkpbmpiaaDoorW.PrintLast Go.Proofs.YtmpgbakkpbmpiaaDoorW.PrintMore
set_option linter.unusedVariables false
set_option linter.unusedSimpArgs false
section
variable (w : World)
theorem isNaN_val (x v : Nat) (hx : Real.Val x v) : Calls Tryd.prog 28 #[.float .f64 x] w fun e w' => e = .returned (.bool false) ∧ Drawn0 w w' := by
  have h : FloatKind.f64.format.order x x = some .eq := by
    show Ieee.double.order x x = _
    rw [Real.order_val hx hx]; simp
  have HX := Aside0.mk hx
  clear hx
  go_enter Tryd.func28, Tryd.ntmps28
  go_wp2
  go_ret
  exact ⟨by simp [h], by repeat (first | exact Drawn0.refl _ | apply Drawn0.step)⟩
theorem abs_val (x : Nat) (hx : x < 9223372036854775808) : Calls Tryd.prog 31 #[.float .f64 x] w fun e w' => e = .returned (.float .f64 x) ∧ Drawn0 w w' := by
  have hb := fun W n => Pow.frombits W n
  have hc := fun W n => Pow.tobits W n
  have hn : bits .andNot .u64 (x : Int) 9223372036854775808 = (x : Int) := by
    have h := u64_andNot_nat x 9223372036854775808 (by omega) (by omega)
    rw [show (18446744073709551615 - 9223372036854775808 : Nat) = 2 ^ 63 - 1 by decide, Nat.and_two_pow_sub_one_eq_mod, Nat.mod_eq_of_lt (by simpa using hx)] at h
    exact h
  clear hx
  go_enter Tryd.func31, Tryd.ntmps31
  go_wp2
  go_ret
  exact ⟨by simp [hn], by repeat (first | exact Drawn0.refl _ | apply Drawn0.step)⟩
theorem val_lt {x v : Nat} (hx : Real.Val x v) (h : x < 18446744073709551616) : x < 9223372036854775808 := by
  obtain ⟨m, j, hr, -, -⟩ := hx
  have e3 : Ieee.double.signWeight = 9223372036854775808 := by decide
  rcases Nat.lt_or_ge x 9223372036854775808 with h1 | h1
  · exact h1
  · exfalso
    have hneg : (x / Ieee.double.signWeight % 2 == 1) = true := by rw [e3]; exact beq_iff_eq.mpr (by omega)
    unfold Ieee.Format.read at hr
    simp only [hneg] at hr
    split at hr
    · simp at hr
    · split at hr
      · simp at hr
      · split at hr <;> simp at hr
theorem isInf_val (x v : Nat) (hx : Real.Val x v) (h : x < 18446744073709551616) (hv : v < 2 ^ 255) : Calls Tryd.prog 25 #[.float .f64 x, .int .i64 0] w fun e w' => e = .returned (.bool false) ∧ Drawn0 w w' := by
  have hlt := val_lt hx h
  have ho : FloatKind.f64.format.order x 9218868437227405311 = some .lt := by
    obtain ⟨c, hc⟩ : ∃ c, c = 1171 := ⟨_, rfl⟩
    have hm : Real.Val 9218868437227405311 (9007199254740991 * 2 ^ c) := ⟨9007199254740991, c, by rw [hc]; decide, rfl, by decide⟩
    show Ieee.double.order x _ = _
    rw [Real.order_val hx hm]
    congr 1
    refine Nat.compare_eq_lt.mpr ?_
    have h1 : (2 : Nat) ^ 255 ≤ 2 ^ c := Nat.pow_le_pow_right (by decide) (by omega)
    have h2 : 1 * 2 ^ c ≤ 9007199254740991 * 2 ^ c := Nat.mul_le_mul_right _ (by decide)
    omega
  clear hx h hv
  go_enter Tryd.func25, Tryd.ntmps25
  go_wp2_with (go_at_call 31; refine (abs_val _ _ hlt).mono ?_; rintro e w' ⟨rfl, hdr⟩)
  go_ret
  exact ⟨by simp [ho], hdr⟩
end
end Go.Proofs.YtmpgbakkpbmpiaaDoor.Fin
/- The decimal digits of a number, plain; LenUint, LenInt. -/
namespace Go.Proofs.YtmpgbakkpbmpiaaDoor.Dig
open Go.RowKit Go.Proofs.YtmpgbakkpbmpiaaDoorW.PrintWords Go.Proofs.YtmpgbakkpbmpiaaDoorW.PrintLast Go.Proofs.YtmpgbakkpbmpiaaDoorW.PrintMore
set_option linter.unusedVariables false

/-- The digits of a number, the first one first. -/
def digs (n : Nat) : List Int := if n < 10 then [(48 : Int) + n] else digs (n / 10) ++ [(48 : Int) + (n % 10 : Nat)]
termination_by n
decreasing_by omega
/-- The last d digits of a number. -/
def frac : Nat → Nat → List Int
  | 0, _ => []
  | d + 1, m => frac d (m / 10) ++ [(48 : Int) + (m % 10 : Nat)]
theorem frac_len : ∀ d m, (frac d m).length = d
  | 0, _ => rfl
  | d + 1, m => by rw [frac, List.length_append, frac_len d]; rfl
theorem digs_small {n : Nat} (h : n < 10) : digs n = [(48 : Int) + n] := by rw [digs, if_pos h]
theorem digs_big {n : Nat} (h : 10 ≤ n) : digs n = digs (n / 10) ++ [(48 : Int) + (n % 10 : Nat)] := by rw [digs, if_neg (by omega)]
theorem digs_len (n : Nat) : 1 ≤ (digs n).length ∧ n < 10 ^ (digs n).length ∧ (1 ≤ n → 10 ^ ((digs n).length - 1) ≤ n) := by
  induction n using Nat.strongRecOn with
  | ind n ih =>
    by_cases h : n < 10
    · rw [digs_small h]
      simp
      omega
    · have hb := digs_big (n := n) (by omega)
      obtain ⟨h1, h2, h3⟩ := ih (n / 10) (by omega)
      have h4 := h3 (by omega)
      rw [hb, List.length_append, List.length_singleton]
      obtain ⟨L, hL⟩ : ∃ L, (digs (n / 10)).length = L + 1 := ⟨(digs (n / 10)).length - 1, by omega⟩
      rw [hL] at h2 h4 ⊢
      simp only [Nat.add_sub_cancel] at h4 ⊢
      refine ⟨by omega, ?_, fun _ => ?_⟩
      · rw [Nat.pow_succ]; omega
      · rw [Nat.pow_succ]; omega
theorem digs_len_eq {n k : Nat} (h1 : n < 10 ^ (k + 1)) (h2 : k = 0 ∨ 10 ^ k ≤ n) : (digs n).length = k + 1 := by
  obtain ⟨a, b, c⟩ := digs_len n
  rcases Nat.lt_trichotomy (digs n).length (k + 1) with h | h | h
  · exfalso
    rcases h2 with rfl | h2
    · omega
    · have := Nat.pow_le_pow_right (n := 10) (by decide) (show (digs n).length ≤ k by omega)
      omega
  · exact h
  · exfalso
    have hn : 1 ≤ n := by
      rcases Nat.eq_zero_or_pos n with h0 | h0
      · rw [h0, digs_small (by decide)] at h
        simp at h
      · exact h0
    have h4 := c hn
    have := Nat.pow_le_pow_right (n := 10) (by decide) (show k + 1 ≤ (digs n).length - 1 by omega)
    omega
theorem lenUint_eq (n : Nat) (h : n < 10000000000000000000) : PFnNumberDecimalNear.tdstrconv_LenUint.f (n : Int) = some ((digs n).length : Int) := by
  unfold PFnNumberDecimalNear.tdstrconv_LenUint.f
  by_cases c0 : (n : Int) < 10
  · have e1 : 10 ^ (0 + 1) = 10 := by decide
    rw [if_pos c0, digs_len_eq (k := 0) (by omega) (.inl rfl)]
    rfl
  rw [if_neg c0]
  by_cases c1 : (n : Int) < 100
  · have e1 : 10 ^ (1 + 1) = 100 := by decide
    have e2 : 10 ^ 1 = 10 := by decide
    rw [if_pos c1, digs_len_eq (k := 1) (by omega) (.inr (by omega))]
    rfl
  rw [if_neg c1]
  by_cases c2 : (n : Int) < 1000
  · have e1 : 10 ^ (2 + 1) = 1000 := by decide
    have e2 : 10 ^ 2 = 100 := by decide
    rw [if_pos c2, digs_len_eq (k := 2) (by omega) (.inr (by omega))]
    rfl
  rw [if_neg c2]
  by_cases c3 : (n : Int) < 10000
  · have e1 : 10 ^ (3 + 1) = 10000 := by decide
    have e2 : 10 ^ 3 = 1000 := by decide
    rw [if_pos c3, digs_len_eq (k := 3) (by omega) (.inr (by omega))]
    rfl
  rw [if_neg c3]
  by_cases c4 : (n : Int) < 100000
  · have e1 : 10 ^ (4 + 1) = 100000 := by decide
    have e2 : 10 ^ 4 = 10000 := by decide
    rw [if_pos c4, digs_len_eq (k := 4) (by omega) (.inr (by omega))]
    rfl
  rw [if_neg c4]
  by_cases c5 : (n : Int) < 1000000
  · have e1 : 10 ^ (5 + 1) = 1000000 := by decide
    have e2 : 10 ^ 5 = 100000 := by decide
    rw [if_pos c5, digs_len_eq (k := 5) (by omega) (.inr (by omega))]
    rfl
  rw [if_neg c5]
  by_cases c6 : (n : Int) < 10000000
  · have e1 : 10 ^ (6 + 1) = 10000000 := by decide
    have e2 : 10 ^ 6 = 1000000 := by decide
    rw [if_pos c6, digs_len_eq (k := 6) (by omega) (.inr (by omega))]
    rfl
  rw [if_neg c6]
  by_cases c7 : (n : Int) < 100000000
  · have e1 : 10 ^ (7 + 1) = 100000000 := by decide
    have e2 : 10 ^ 7 = 10000000 := by decide
    rw [if_pos c7, digs_len_eq (k := 7) (by omega) (.inr (by omega))]
    rfl
  rw [if_neg c7]
  by_cases c8 : (n : Int) < 1000000000
  · have e1 : 10 ^ (8 + 1) = 1000000000 := by decide
    have e2 : 10 ^ 8 = 100000000 := by decide
    rw [if_pos c8, digs_len_eq (k := 8) (by omega) (.inr (by omega))]
    rfl
  rw [if_neg c8]
  by_cases c9 : (n : Int) < 10000000000
  · have e1 : 10 ^ (9 + 1) = 10000000000 := by decide
    have e2 : 10 ^ 9 = 1000000000 := by decide
    rw [if_pos c9, digs_len_eq (k := 9) (by omega) (.inr (by omega))]
    rfl
  rw [if_neg c9]
  by_cases c10 : (n : Int) < 100000000000
  · have e1 : 10 ^ (10 + 1) = 100000000000 := by decide
    have e2 : 10 ^ 10 = 10000000000 := by decide
    rw [if_pos c10, digs_len_eq (k := 10) (by omega) (.inr (by omega))]
    rfl
  rw [if_neg c10]
  by_cases c11 : (n : Int) < 1000000000000
  · have e1 : 10 ^ (11 + 1) = 1000000000000 := by decide
    have e2 : 10 ^ 11 = 100000000000 := by decide
    rw [if_pos c11, digs_len_eq (k := 11) (by omega) (.inr (by omega))]
    rfl
  rw [if_neg c11]
  by_cases c12 : (n : Int) < 10000000000000
  · have e1 : 10 ^ (12 + 1) = 10000000000000 := by decide
    have e2 : 10 ^ 12 = 1000000000000 := by decide
    rw [if_pos c12, digs_len_eq (k := 12) (by omega) (.inr (by omega))]
    rfl
  rw [if_neg c12]
  by_cases c13 : (n : Int) < 100000000000000
  · have e1 : 10 ^ (13 + 1) = 100000000000000 := by decide
    have e2 : 10 ^ 13 = 10000000000000 := by decide
    rw [if_pos c13, digs_len_eq (k := 13) (by omega) (.inr (by omega))]
    rfl
  rw [if_neg c13]
  by_cases c14 : (n : Int) < 1000000000000000
  · have e1 : 10 ^ (14 + 1) = 1000000000000000 := by decide
    have e2 : 10 ^ 14 = 100000000000000 := by decide
    rw [if_pos c14, digs_len_eq (k := 14) (by omega) (.inr (by omega))]
    rfl
  rw [if_neg c14]
  by_cases c15 : (n : Int) < 10000000000000000
  · have e1 : 10 ^ (15 + 1) = 10000000000000000 := by decide
    have e2 : 10 ^ 15 = 1000000000000000 := by decide
    rw [if_pos c15, digs_len_eq (k := 15) (by omega) (.inr (by omega))]
    rfl
  rw [if_neg c15]
  by_cases c16 : (n : Int) < 100000000000000000
  · have e1 : 10 ^ (16 + 1) = 100000000000000000 := by decide
    have e2 : 10 ^ 16 = 10000000000000000 := by decide
    rw [if_pos c16, digs_len_eq (k := 16) (by omega) (.inr (by omega))]
    rfl
  rw [if_neg c16]
  by_cases c17 : (n : Int) < 1000000000000000000
  · have e1 : 10 ^ (17 + 1) = 1000000000000000000 := by decide
    have e2 : 10 ^ 17 = 100000000000000000 := by decide
    rw [if_pos c17, digs_len_eq (k := 17) (by omega) (.inr (by omega))]
    rfl
  rw [if_neg c17]
  by_cases c18 : (n : Int) < 10000000000000000000
  · have e1 : 10 ^ (18 + 1) = 10000000000000000000 := by decide
    have e2 : 10 ^ 18 = 1000000000000000000 := by decide
    rw [if_pos c18, digs_len_eq (k := 18) (by omega) (.inr (by omega))]
    rfl
  rw [if_neg c18]
  omega
theorem lenInt_eq (n : Nat) (h : n < 9223372036854775808) : PFnNumberDecimalNear.tdstrconv_LenInt.f (n : Int) = some ((digs n).length : Int) := by
  unfold PFnNumberDecimalNear.tdstrconv_LenInt.f
  have e : IntKind.u64.wrap (n : Int) = n := by simp only [IntKind.wrap_u64]; omega
  rw [if_neg (by omega), e, lenUint_eq n (by omega)]
  rfl
/-- What is written of n with d decimals. -/
def text (n d : Nat) : List Int := digs (n / 10 ^ d) ++ (if d = 0 then [] else (46 : Int) :: frac d (n % 10 ^ d))
theorem frac_mod : ∀ (d n : Nat), frac d (n % 10 ^ d) = frac d n
  | 0, _ => rfl
  | d + 1, n => by
    rw [frac, frac]
    have e1 : n % 10 ^ (d + 1) / 10 = n / 10 % 10 ^ d := by
      rw [Nat.pow_succ, Nat.mul_comm, Nat.mod_mul_right_div_self]
    have e2 : n % 10 ^ (d + 1) % 10 = n % 10 := by
      rw [Nat.pow_succ, Nat.mod_mod_of_dvd _ (Nat.dvd_mul_left 10 (10 ^ d))]
    rw [e1, e2, frac_mod d (n / 10)]
theorem text_zero (n : Nat) : text n 0 = digs n := by simp [text]
theorem text_pos (n d : Nat) (hd : 0 < d) : text n d = digs (n / 10 ^ d) ++ (46 : Int) :: frac d n := by
  rw [text, if_neg (by omega), frac_mod]
/-- The last digit apart. -/
theorem text_succ (n d : Nat) : text n (d + 1) = (digs (n / 10 / 10 ^ d) ++ (46 : Int) :: frac d (n / 10)) ++ [(48 : Int) + (n % 10 : Nat)] := by
  rw [text_pos n (d + 1) (by omega), frac, Nat.pow_succ, Nat.mul_comm, Nat.div_div_eq_div_mul]
  simp
end Go.Proofs.YtmpgbakkpbmpiaaDoor.Dig
/- append(b, make([]byte, n)...) onto a row known whole, where there is no room: new memory, known whole. -/
namespace Go.Proofs.YtmpgbakkpbmpiaaDoor.Brow
open Go.RowKit Go.Proofs.YtmpgbakkpbmpiaaDoorW.PrintWords Go.Proofs.YtmpgbakkpbmpiaaDoorW.PrintLast Go.Proofs.YtmpgbakkpbmpiaaDoorW.PrintMore
set_option linter.unusedVariables false
section
variable {P : Program} (w : World)
theorem run_zeros (E : TypeId) (base : Nat) (t ti ty : TypeId) (ht : P.underlying t = some (.slice E)) {k : IntKind} (hti : P.underlying ti = some (.int k)) (hinfo : (P.info? E).map (fun i => (i.zero, i.size, i.bytes)) = some (some (.int .u8 0), 1, 1))
    (g : Nat) (full l : List Int) (hr : Row E w g full) (hl : l.length ≤ full.length) (htk : full.take l.length = l) (kx : IntKind) (m : Nat) (hm : 0 < m) (hno : full.length < l.length + m)
    (hb : l.length + m ≤ 140737488355328) (hbase : base ≤ w.heap.size) :
    ∃ full' w', (Builtin.append_ #[t, ti] ty #[.slice (some ⟨g, 0, none⟩) l.length full.length, .int kx m]).run P w = .ok (.slice (some ⟨w.heap.size, 0, none⟩) (l.length + m) full'.length) w' ∧
      Row E w' w.heap.size full' ∧ l.length + m ≤ full'.length ∧ full'.length ≤ maxLen ∧ full'.take l.length = l ∧ Below w.heap.size w w' := by
  obtain ⟨i0, hi, hzz⟩ := Option.map_eq_some_iff.1 hinfo
  simp only [Prod.mk.injEq] at hzz
  obtain ⟨hz0, hz1, hz2⟩ := hzz
  have holds : ∀ j u, (nums .u8 l)[j]? = some u → w.cell? ((⟨g, 0, none⟩ : Addr).add j) = some u := by
    intro j u hu
    have hj : j < l.length := by
      have := (List.getElem?_eq_some_iff.1 hu).1
      rwa [nums_length] at this
    rw [add_plain, hr.cell j (by omega), ← hu]
    simp only [nums, List.getElem?_map, List.getElem?_eq_getElem hj, Option.map_some, rd, Int.toNat_natCast, List.getD_eq_getElem?_getD, List.getElem?_eq_getElem (show j < full.length by omega), Option.getD_some]
    congr 2
    have : (full.take l.length)[j]? = l[j]? := by rw [htk]
    rw [List.getElem?_take, if_pos hj, List.getElem?_eq_getElem (by omega), List.getElem?_eq_getElem hj] at this
    exact Option.some.inj this
  have hfo := run_firstCells_some (P := P) w.drew i0.size l.length ⟨g, 0, none⟩ l.length full.length (nums .u8 l) (by rw [nums_length, hz1, Nat.mul_one]) (by simpa using holds)
  have hn : ¬ (l.length + m ≤ full.length) := by omega
  have h63' : ¬ (9223372036854775807 < ((l.length : Int) + (m : Int))) := by omega
  have hfit := growslice_fits hno (show (l.length + m) * i0.bytes ≤ 140737488355328 by rw [hz2]; omega)
  have h48' : ¬ (281474976710656 < Builtin.nextslicecap (l.length + m) full.length * i0.bytes) := by omega
  have hw : IntKind.i64.wrap (m : Int) = m := by rw [IntKind.wrap_i64]; omega
  have hneg : ¬ ((m : Int) < 0) := by omega
  have hbig : ¬ (281474976710656 < (m : Int) * (i0.bytes : Int)) := by rw [hz2]; omega
  have hmz : ¬ (m * i0.size = 0) := by rw [hz1]; omega
  have hge := grownCap_ge w (l.length + m) full.length E
  have hcm := grownCap_le_maxLen w (l.length + m) full.length E (by simp only [maxLen]; omega)
  refine ⟨l ++ List.replicate m 0 ++ List.replicate (grownCap w (l.length + m) full.length E - (l.length + m)) 0, w.drew.alloc (.cells ((nums .u8 l).toArray ++ Builtin.zeroCells (Value.int .u8 0).cells m ++ Builtin.zeroCells (Value.int .u8 0).cells (grownCap w (l.length + m) full.length E - (l.length + m))) E), ?_, ?_, ?_, ?_, ?_, ?_⟩
  · have hlen : (l ++ List.replicate m 0 ++ List.replicate (grownCap w (l.length + m) full.length E - (l.length + m)) (0 : Int)).length = grownCap w (l.length + m) full.length E := by
      simp only [List.length_append, List.length_replicate]; omega
    rw [hlen]
    simp [Builtin.append_, run_underlying ht, run_underlying hti, sizeOf, typeInfo, zeroValue, hi, hz0, asInt, asIntOf, hw, hneg, hbig, hn, h63', h48', Question.forced, hfo, newRow, grownCap, hmz]
  · have h2 := heap_alloc_new w.drew (.cells ((nums .u8 l).toArray ++ Builtin.zeroCells (Value.int .u8 0).cells m ++ Builtin.zeroCells (Value.int .u8 0).cells (grownCap w (l.length + m) full.length E - (l.length + m))) E)
    unfold Row
    rw [zero_nums, zero_nums, nums_toArray_append, nums_toArray_append] at h2
    rw [zero_nums, zero_nums, nums_toArray_append, nums_toArray_append]
    exact h2
  · simp only [List.length_append, List.length_replicate]; omega
  · simp only [List.length_append, List.length_replicate]; omega
  · rw [List.append_assoc, List.take_append_of_le_length (by simp), List.take_of_length_le (by simp)]
  · exact below_alloc (below_drew1 (Below.refl _ _)) _
theorem wp_zeros {o : Oper} {a : Act} {K : Act → World → Prop} {Q : Exit → Act → World → Prop} (s x : Operand) (t ti E : TypeId) (base : Nat)
    (ho : o.op = .call { callee := .builtin .append, args := #[s, x], argTypes := #[t, ti] })
    (ht : P.underlying t = some (.slice E)) {k : IntKind} (hti : P.underlying ti = some (.int k)) (hinfo : (P.info? E).map (fun i => (i.zero, i.size, i.bytes)) = some (some (.int .u8 0), 1, 1))
    (g : Nat) (full l : List Int) (hs : a.eval s = .slice (some ⟨g, 0, none⟩) l.length full.length) (hr : Row E w g full) (hl : l.length ≤ full.length) (htk : full.take l.length = l) (kx : IntKind) (m : Nat) (hx : a.eval x = .int kx m) (hm : 0 < m) (hno : full.length < l.length + m)
    (hb : l.length + m ≤ 140737488355328) (hbase : base ≤ w.heap.size)
    (h : ∀ full' w', Row E w' w.heap.size full' → l.length + m ≤ full'.length → full'.length ≤ maxLen → full'.take l.length = l → Below w.heap.size w w' → K (a.put o.dst (.slice (some ⟨w.heap.size, 0, none⟩) (l.length + m) full'.length)) w') : o.wp P a w K Q := by
  obtain ⟨full', w', hrun, h2, h3, h4, h5, h6⟩ := run_zeros (P := P) w E base t ti o.type ht hti hinfo g full l hr hl htk kx m hm hno hb hbase
  unfold Oper.wp execOp
  simp only [ho, resolve, invoke, builtin, Sem.run_bind, Sem.run_pure, Result.andThen_ok, List.map_toArray, List.map_cons, List.map_nil, hs, hx, hrun]
  exact h full' w' h2 h3 h4 h5 h6
theorem wpList_zeros {ops : Array Oper} {rest : List Oper} {o : Oper} {a : Act} {Q : Exit → Act → World → Prop} (hgd : o.guard = none) (s x : Operand) (t ti E : TypeId) (base : Nat)
    (ho : o.op = .call { callee := .builtin .append, args := #[s, x], argTypes := #[t, ti] })
    (ht : P.underlying t = some (.slice E)) {k : IntKind} (hti : P.underlying ti = some (.int k)) (hinfo : (P.info? E).map (fun i => (i.zero, i.size, i.bytes)) = some (some (.int .u8 0), 1, 1))
    (g : Nat) (full l : List Int) (hs : a.eval s = .slice (some ⟨g, 0, none⟩) l.length full.length) (hr : Row E w g full) (hl : l.length ≤ full.length) (htk : full.take l.length = l) (kx : IntKind) (m : Nat) (hx : a.eval x = .int kx m) (hm : 0 < m) (hno : full.length < l.length + m)
    (hb : l.length + m ≤ 140737488355328) (hbase : base ≤ w.heap.size)
    (h : ∀ full' w', Row E w' w.heap.size full' → l.length + m ≤ full'.length → full'.length ≤ maxLen → full'.take l.length = l → Below w.heap.size w w' → wpList P ops Q rest (a.put o.dst (.slice (some ⟨w.heap.size, 0, none⟩) (l.length + m) full'.length)) w') : wpList P ops Q (o :: rest) a w :=
  wpList_plain hgd fun _ hK => wp_zeros w s x t ti E base ho ht hti hinfo g full l hs hr hl htk kx m hx hm hno hb hbase fun full' w' h1 h2 h3 h4 h5 => hK _ _ (h full' w' h1 h2 h3 h4 h5)
end
end Go.Proofs.YtmpgbakkpbmpiaaDoor.Brow
/- AppendDecimal in parts: the words. -/
namespace Go.Proofs.YtmpgbakkpbmpiaaDoor.AD
open Go.RowKit Go.Proofs.YtmpgbakkpbmpiaaDoorW.PrintWords Go.Proofs.YtmpgbakkpbmpiaaDoorW.PrintLast Go.Proofs.YtmpgbakkpbmpiaaDoorW.PrintMore
open PFl Brow Dig
set_option linter.unusedVariables false
set_option linter.unusedSimpArgs false

noncomputable def body21 : Code := (Tryd.f21.body).getD .skip
theorem use_k {P : Program} {c : Code} {Q : Exit → Act → World → Prop} {K : Act → World → Prop} {a : Act} {w : World} (h : ∀ a w, Code.wp P c Q a w → K a w) (h2 : Code.wp P c Q a w) : K a w := h a w h2
/-- The row's first N bytes: pre, something, and from j on suf. -/
structure Fill (full pre suf : List Int) (j N : Nat) : Prop where
  fst : full.take pre.length = pre
  lst : (full.take N).drop j = suf
  len : N ≤ full.length
  le : pre.length ≤ j
  sum : j + suf.length = N
theorem Fill.step {full pre suf : List Int} {j N : Nat} (h : Fill full pre suf (j + 1) N) (hp : pre.length ≤ j) (x : Int) : Fill (full.set j x) pre (x :: suf) j N := by
  have h1 := h.len
  have h2 := h.sum
  refine ⟨?_, ?_, by simpa using h1, hp, by simp only [List.length_cons]; omega⟩
  · rw [List.take_set_of_le hp]; exact h.fst
  · have hl : j < ((full.set j x).take N).length := by simp only [List.length_take, List.length_set]; omega
    rw [List.drop_eq_getElem_cons hl]
    congr 1
    · simp
    · rw [List.take_set, List.drop_set_of_lt (by omega)]; exact h.lst
theorem Fill.done {full pre suf : List Int} {N : Nat} (h : Fill full pre suf pre.length N) : full.take N = pre ++ suf := by
  have h1 := h.len
  have h2 := h.sum
  rw [← List.take_append_drop pre.length (full.take N), h.lst, List.take_take, Nat.min_eq_left (by omega), h.fst]
/-- The digits of a number; none of nought. -/
def D (q : Nat) : List Int := if q = 0 then [] else digs q
theorem D_zero : D 0 = [] := rfl
theorem D_pos {q : Nat} (h : q ≠ 0) : D q = D (q / 10) ++ [(48 : Int) + (q % 10 : Nat)] := by
  unfold D
  rw [if_neg h]
  by_cases h2 : q < 10
  · rw [digs_small h2, if_pos (by omega), show q % 10 = q by omega]; rfl
  · rw [digs_big (by omega), if_neg (by omega)]
end Go.Proofs.YtmpgbakkpbmpiaaDoor.AD
/- AppendDecimal: the whole part. -/
namespace Go.Proofs.YtmpgbakkpbmpiaaDoor.AD
open Go.RowKit Go.Proofs.YtmpgbakkpbmpiaaDoorW.PrintWords Go.Proofs.YtmpgbakkpbmpiaaDoorW.PrintLast Go.Proofs.YtmpgbakkpbmpiaaDoorW.PrintMore
open PFl Brow Dig
set_option linter.unusedVariables false
set_option linter.unusedSimpArgs false

set_option maxHeartbeats 2000000 in
set_option maxRecDepth 100000 in
theorem part14 {g N c q j base : Nat} {full pre suf out : List Int} {w0 : World} {u1 u2 u3 u4 u5 u6 u9 u10 u11 u12 u13 u14 u15 u16 u17 u18 u19 u20 u21 u22 u23 u24 u25 u26 u27 u28 u29 u30 u31 u32 u33 u34 u35 u36 u37 u38 u39 u40 u41 u42 u43 u44 u45 u46 u47 u48 u49 u50 u51 u52 u53 u54 u55 u56 u57 u58 u59 u60 u61 u62 u63 u64 u65 u66 u67 u68 u69 u70 u71 u72 u73 u74 u75 u76 u77 u78 u79 u80 u81 u82 u83 u84 u85 u86 u87 u88 u89 u90 u91 u92 u93 u94 u95 u96 u97 u98 u99 u100 u101 u102 u103 u104 u105 u106 u107 u108 u109 u110 u111 u112 u113 u114 u115 u116 u117 u118 u119 u120 u121 u122 u123 u124 u125 u126 u127 u128 u129 u130 u131 u132 u133 u134 u135 u136 u137 u138 u139 u140 u141 u142 u143 u144 u145 u146 u147 u148 u149 u150 u151 u152 u153 u154 u155 u156 u157 u158 u159 u160 u161 u162 u163 u164 : Value} (W : World) (hr : Row 5 W g full) (hc : full.length = c) (hw0 : Below base w0 W) (hF : Fill full pre suf j N) (hb : base ≤ g) (hj : pre.length + (if q = 0 then 1 else (digs q).length) = j) (ho : out = pre ++ digs q ++ suf) (hm : N ≤ 140737488355328) (hq : q < 9223372036854775808) :
    Code.wp Tryd.prog (rest 14 body21) (bodyPost Tryd.prog Tryd.f21 fun e w' => ∃ full', e = .returned (.slice (some ⟨g, 0, none⟩) N c) ∧ full'.length = c ∧ Row 5 w' g full' ∧ full'.take N = out ∧ Below base w0 w') ⟨#[.slice (some ⟨g, 0, none⟩) N c, u1, u2, u3, u4, u5, u6, .int .i64 (q : Int), .int .i64 ((j : Int) - 1), u9, u10, u11, u12, u13, u14, u15, u16, u17, u18, u19, u20, u21, u22, u23, u24, u25, u26, u27, u28, u29, u30, u31, u32, u33, u34, u35, u36, u37, u38, u39, u40, u41, u42, u43, u44, u45, u46, u47, u48, u49, u50, u51, u52, u53, u54, u55, u56, u57, u58, u59, u60, u61, u62, u63, u64, u65, u66, u67, u68, u69, u70, u71, u72, u73, u74, u75, u76, u77, u78, u79, u80, u81, u82, u83, u84, u85, u86, u87, u88, u89, u90, u91, u92, u93, u94, u95, u96, u97, u98, u99, u100, u101, u102, u103, u104, u105, u106, u107, u108, u109, u110, u111, u112, u113, u114, u115, u116, u117, u118, u119, u120, u121, u122, u123, u124, u125, u126, u127, u128, u129, u130, u131, u132, u133, u134, u135, u136, u137, u138, u139, u140, u141, u142, u143, u144, u145, u146, u147, u148, u149, u150, u151, u152, u153, u154, u155, u156, u157, u158, u159, u160, u161, u162, u163, u164], []⟩ W := by
  conv => arg 2; whnf
  have HR := Aside0.mk hr
  have HC := Aside0.mk hc
  have HW0 := Aside0.mk hw0
  have HF := Aside0.mk hF
  have HB := Aside0.mk hb
  have HJ := Aside0.mk hj
  have HO := Aside0.mk ho
  have HM := Aside0.mk hm
  have HQ := Aside0.mk hq
  clear hr hc hw0 hF hb hj ho hm hq
  go_upto_if 147 with (fail)
  go_cut [7, 8] (fun v7 v8 wc => ∃ full', Aside0 (full'.length = c ∧ Row 5 wc g full' ∧ full'.take N = out ∧ Below base w0 wc))
  case first =>
    by_cases h0 : q = 0
    · subst h0
      have hj1 := HJ.out
      rw [if_pos rfl] at hj1
      obtain ⟨j', rfl⟩ : ∃ j', j = j' + 1 := ⟨j - 1, by omega⟩
      have hF2 := HF.out.step (by omega) 48
      have e0 : ((j' + 1 : Nat) : Int) - 1 = (j' : Int) := by omega
      have l1 := HF.out.sum
      have b1 : decide ((j' : Int) < (N : Int)) = true := decide_eq_true (by omega)
      have b2 := eq_true (show (j' : Int) < (N : Int) by omega)
      have b3 := eq_true (show (0 : Int) ≤ (j' : Int) by omega)
      have b4 := eq_true (show j' < N by omega)
      have b5 := HR.out.cell j' (by have := HF.out.len; omega)
      have b6 := HR.out.frozen j'
      obtain rfl : pre.length = j' := by omega
      have HF2 := Aside0.mk hF2
      rw [e0]
      clear hj1 hF2 e0 l1
      go_wp2_with (fail)
      go_meet
      case rel => exact ⟨full.set pre.length 48, ⟨by rw [List.length_set]; exact HC.out, HR.out.store _ _, by rw [HF2.out.done, HO.out, digs_small (by decide)]; simp, HW0.out.setCell HB.out _⟩⟩
    · have c0 : ((q : Int) == 0) = false := beq_eq_false_iff_ne.mpr (by omega)
      have c1 := eq_false (show ¬ (q : Int) = 0 by omega)
      have hj1 := HJ.out
      rw [if_neg h0] at hj1
      have hD : D q = digs q := by unfold D; rw [if_neg h0]
      have HSt := Aside0.mk (And.intro hj1 hD)
      clear hj1 hD h0
      go_wp2_with (fail)
      go_loopg [7, 8] q (fun kq v7 v8 w' => ∃ (full1 suf1 : List Int) (j1 : Nat), v7 = .int .i64 (kq : Int) ∧ v8 = .int .i64 ((j1 : Int) - 1) ∧ Aside0 (Row 5 w' g full1 ∧ full1.length = c ∧ Fill full1 pre suf1 j1 N ∧ pre.length + (D kq).length = j1 ∧ D kq ++ suf1 = digs q ++ suf ∧ kq ≤ q ∧ Below base w0 w'))
      case atStart => exact ⟨full, suf, j, rfl, rfl, ⟨HR.out, HC.out, HF.out, by rw [HSt.out.2]; exact HSt.out.1, by rw [HSt.out.2], Nat.le_refl _, HW0.out⟩⟩
      case round =>
        clear c0 c1
        obtain ⟨full1, suf1, j1, rfl, rfl, HI⟩ := hrel
        by_cases hk : gk = 0
        · subst hk
          go_wp2_with (fail)
          go_meet
          case rel =>
            obtain ⟨h1, h2, h3, h4, h5, h6, h7⟩ := HI.out
            rw [D_zero] at h4 h5
            have h8 : pre.length = j1 := by simpa using h4
            subst h8
            exact ⟨full1, ⟨h2, h1, by rw [h3.done, HO.out]; simp at h5; rw [h5]; simp, h7⟩⟩
        · have c2 : ((gk : Int) != 0) = true := bne_iff_ne.mpr (by omega)
          have c3 := eq_false (show ¬ (gk : Int) = 0 by omega)
          obtain ⟨h1, h2, h3, h4, h5, h6, h7⟩ := HI.out
          rw [D_pos hk, List.length_append, List.length_singleton] at h4
          rw [D_pos hk, List.append_assoc] at h5
          obtain ⟨j', rfl⟩ : ∃ j', j1 = j' + 1 := ⟨j1 - 1, by omega⟩
          have hF2 := h3.step (by omega) ((48 : Int) + (gk % 10 : Nat))
          have e0 : ((j' + 1 : Nat) : Int) - 1 = (j' : Int) := by omega
          have l1 := h3.sum
          have b1 : decide ((j' : Int) < (N : Int)) = true := decide_eq_true (by omega)
          have b2 := eq_true (show (j' : Int) < (N : Int) by omega)
          have b3 := eq_true (show (0 : Int) ≤ (j' : Int) by omega)
          have b4 := eq_true (show j' < N by omega)
          have b5 := h1.cell j' (by have := h3.len; omega)
          have b6 := h1.frozen j'
          have HN := Aside0.mk (show Row 5 (wr.setCell ⟨g, j', none⟩ (.int .u8 ((48 : Int) + (gk % 10 : Nat)))) g (full1.set j' ((48 : Int) + (gk % 10 : Nat))) ∧ (full1.set j' ((48 : Int) + (gk % 10 : Nat))).length = c ∧ Fill (full1.set j' ((48 : Int) + (gk % 10 : Nat))) pre (((48 : Int) + (gk % 10 : Nat)) :: suf1) j' N ∧ pre.length + (D (gk / 10)).length = j' ∧ D (gk / 10) ++ (((48 : Int) + (gk % 10 : Nat)) :: suf1) = digs q ++ suf ∧ gk / 10 ≤ q ∧ Below base w0 (wr.setCell ⟨g, j', none⟩ (.int .u8 ((48 : Int) + (gk % 10 : Nat)))) from
            ⟨h1.store _ _, by rw [List.length_set]; exact h2, hF2, by omega, h5, by omega, h7.setCell HB.out _⟩)
          have HQ2 := Aside0.mk h6
          rw [e0]
          clear h1 h2 h3 h4 h5 h6 h7 hF2 e0 l1
          go_wp2_with (fail)
          rw [show (gk : Int) % 10 + 48 = (48 : Int) + (gk % 10 : Nat) by omega]
          go_roundg (gk / 10)
          case measure => omega
          case rel =>
            have h8 := HN.out.2.2.1.sum
            have h9 := HM.out
            have h10 := HQ.out
            have h11 := HQ2.out
            exact ⟨full1.set j' ((48 : Int) + (gk % 10 : Nat)), ((48 : Int) + (gk % 10 : Nat)) :: suf1, j', by rw [show wrap64 ((gk : Int) / 10) = ((gk / 10 : Nat) : Int) by simp only [wrap64]; omega], by rw [show wrap64 ((j' : Int) - 1) = (j' : Int) - 1 by simp only [wrap64]; omega], HN⟩
  case rest =>
    obtain ⟨full', H⟩ := hcut
    go_wp2_with (fail)
    go_ret
    exact ⟨full', rfl, H.out.1, H.out.2.1, H.out.2.2.1, H.out.2.2.2⟩
end Go.Proofs.YtmpgbakkpbmpiaaDoor.AD
/- AppendDecimal: the decimals. -/
namespace Go.Proofs.YtmpgbakkpbmpiaaDoor.AD
open Go.RowKit Go.Proofs.YtmpgbakkpbmpiaaDoorW.PrintWords Go.Proofs.YtmpgbakkpbmpiaaDoorW.PrintLast Go.Proofs.YtmpgbakkpbmpiaaDoorW.PrintMore
open PFl Brow Dig
set_option linter.unusedVariables false
set_option linter.unusedSimpArgs false

set_option maxHeartbeats 2000000 in
set_option maxRecDepth 100000 in
theorem part13 {g N c d v j base : Nat} {full pre suf out : List Int} {w0 : World} {u1 u3 u4 u5 u6 u9 u10 u11 u12 u13 u14 u15 u16 u17 u18 u19 u20 u21 u22 u23 u24 u25 u26 u27 u28 u29 u30 u31 u32 u33 u34 u35 u36 u37 u38 u39 u40 u41 u42 u43 u44 u45 u46 u47 u48 u49 u50 u51 u52 u53 u54 u55 u56 u57 u58 u59 u60 u61 u62 u63 u64 u65 u66 u67 u68 u69 u70 u71 u72 u73 u74 u75 u76 u77 u78 u79 u80 u81 u82 u83 u84 u85 u86 u87 u88 u89 u90 u91 u92 u93 u94 u95 u96 u97 u98 u99 u100 u101 u102 u103 u104 u105 u106 u107 u108 u109 u110 u111 u112 u113 u114 u115 u116 u117 u118 u119 u120 u121 u122 u123 u124 u125 u126 u127 u128 u129 u130 u131 u132 u133 u134 u135 u136 u137 u138 u139 u140 u141 u142 u143 u144 u145 u146 u147 u148 u149 u150 u151 u152 u153 u154 u155 u156 u157 u158 u159 u160 u161 u162 u163 u164 : Value} (W : World) (hr : Row 5 W g full) (hc : full.length = c) (hw0 : Below base w0 W) (hF : Fill full pre suf j N) (hb : base ≤ g) (hj : pre.length + (digs (v / 10 ^ d)).length + (if d = 0 then 0 else d + 1) = j) (ho : out = pre ++ text v d ++ suf) (hm : N ≤ 140737488355328) (hq : v < 9223372036854775808) (hd : d < 20) :
    Code.wp Tryd.prog (rest 13 body21) (bodyPost Tryd.prog Tryd.f21 fun e w' => ∃ full', e = .returned (.slice (some ⟨g, 0, none⟩) N c) ∧ full'.length = c ∧ Row 5 w' g full' ∧ full'.take N = out ∧ Below base w0 w') ⟨#[.slice (some ⟨g, 0, none⟩) N c, u1, .int .i64 (d : Int), u3, u4, u5, u6, .int .i64 (v : Int), .int .i64 ((j : Int) - 1), u9, u10, u11, u12, u13, u14, u15, u16, u17, u18, u19, u20, u21, u22, u23, u24, u25, u26, u27, u28, u29, u30, u31, u32, u33, u34, u35, u36, u37, u38, u39, u40, u41, u42, u43, u44, u45, u46, u47, u48, u49, u50, u51, u52, u53, u54, u55, u56, u57, u58, u59, u60, u61, u62, u63, u64, u65, u66, u67, u68, u69, u70, u71, u72, u73, u74, u75, u76, u77, u78, u79, u80, u81, u82, u83, u84, u85, u86, u87, u88, u89, u90, u91, u92, u93, u94, u95, u96, u97, u98, u99, u100, u101, u102, u103, u104, u105, u106, u107, u108, u109, u110, u111, u112, u113, u114, u115, u116, u117, u118, u119, u120, u121, u122, u123, u124, u125, u126, u127, u128, u129, u130, u131, u132, u133, u134, u135, u136, u137, u138, u139, u140, u141, u142, u143, u144, u145, u146, u147, u148, u149, u150, u151, u152, u153, u154, u155, u156, u157, u158, u159, u160, u161, u162, u163, u164], []⟩ W := by
  conv => arg 2; whnf
  have HR := Aside0.mk hr
  have HC := Aside0.mk hc
  have HW0 := Aside0.mk hw0
  have HF := Aside0.mk hF
  have HB := Aside0.mk hb
  have HJ := Aside0.mk hj
  have HO := Aside0.mk ho
  have HM := Aside0.mk hm
  have HQ := Aside0.mk hq
  have HD := Aside0.mk hd
  clear hr hc hw0 hF hb hj ho hm hq hd
  go_upto_if 112 with (fail)
  go_cut [2, 7, 8] (fun v2 v7 v8 wc => ∃ (full2 suf2 : List Int) (j2 : Nat), v7 = .int .i64 ((v / 10 ^ d : Nat) : Int) ∧ v8 = .int .i64 ((j2 : Int) - 1) ∧ Aside0 (Row 5 wc g full2 ∧ full2.length = c ∧ Fill full2 pre suf2 j2 N ∧ pre.length + (digs (v / 10 ^ d)).length = j2 ∧ out = pre ++ digs (v / 10 ^ d) ++ suf2 ∧ Below base w0 wc))
  case first =>
    by_cases h0 : d = 0
    · subst h0
      go_wp2_with (fail)
      go_meet
      case rel => exact ⟨full, suf, j, by simp, rfl, ⟨HR.out, HC.out, HF.out, by have := HJ.out; simpa using this, by rw [HO.out, text_zero]; simp, HW0.out⟩⟩
    · have c0 : decide ((0 : Int) < (d : Int)) = true := decide_eq_true (by omega)
      have c1 := eq_true (show (0 : Int) < (d : Int) by omega)
      have c2 := eq_true (show 0 < d by omega)
      obtain ⟨e, rfl⟩ : ∃ e, d = e + 1 := ⟨d - 1, by omega⟩
      have hj1 := HJ.out
      rw [if_neg h0] at hj1
      obtain ⟨j', rfl⟩ : ∃ j', j = j' + 1 := ⟨j - 1, by omega⟩
      have hF2 := HF.out.step (by omega) ((48 : Int) + (v % 10 : Nat))
      have e0 : ((j' + 1 : Nat) : Int) - 1 = (j' : Int) := by omega
      have l1 := HF.out.sum
      have b1 : decide ((j' : Int) < (N : Int)) = true := decide_eq_true (by omega)
      have b2 := eq_true (show (j' : Int) < (N : Int) by omega)
      have b3 := eq_true (show (0 : Int) ≤ (j' : Int) by omega)
      have b4 := eq_true (show j' < N by omega)
      have b5 := HR.out.cell j' (by have := HF.out.len; omega)
      have b6 := HR.out.frozen j'
      have HF2 := Aside0.mk hF2
      have HJ1 := Aside0.mk hj1
      have w1 : wrap64 ((v : Int) / 10) = ((v / 10 : Nat) : Int) := by have := HQ.out; simp only [wrap64]; omega
      have w2 : wrap64 (((e + 1 : Nat) : Int) - 1) = (e : Int) := by have := HD.out; simp only [wrap64]; omega
      have w3 : wrap64 ((j' : Int) - 1) = (j' : Int) - 1 := by have := HM.out; simp only [wrap64]; omega
      have w4 : wrap64 ((e : Int) + 1 - 1) = (e : Int) := by have := HD.out; simp only [wrap64]; omega
      rw [e0]
      clear hj1 hF2 e0 l1 h0
      go_upto_block 2 with (fail)
      rw [show (v : Int) % 10 + 48 = (48 : Int) + (v % 10 : Nat) by omega]
      have hw1 : wrap64 (e : Int) = (e : Int) := by have := HD.out; simp only [wrap64]; omega
      rw [hw1, w1, w3]
      have HS := Aside0.mk (show Row 5 (W.setCell ⟨g, j', none⟩ (.int .u8 ((48 : Int) + (v % 10 : Nat)))) g (full.set j' ((48 : Int) + (v % 10 : Nat))) ∧ (full.set j' ((48 : Int) + (v % 10 : Nat))).length = c ∧ Below base w0 (W.setCell ⟨g, j', none⟩ (.int .u8 ((48 : Int) + (v % 10 : Nat)))) from ⟨HR.out.store _ _, by rw [List.length_set]; exact HC.out, HW0.out.setCell HB.out _⟩)
      clear b1 b2 b3 b4 b5 b6 w1 w2 w3 w4 hw1 c0 c1 c2
      generalize hWq : W.setCell ⟨g, j', none⟩ (.int .u8 ((48 : Int) + (v % 10 : Nat))) = Wq at HS ⊢
      clear hWq
      go_cut [2, 7, 8] (fun v2 v7 v8 wc => ∃ (full2 : List Int) (j2 : Nat), v7 = .int .i64 ((v / 10 ^ (e + 1) : Nat) : Int) ∧ v8 = .int .i64 ((j2 : Int) - 1) ∧ Aside0 (Row 5 wc g full2 ∧ full2.length = c ∧ Fill full2 pre (frac (e + 1) v ++ suf) j2 N ∧ pre.length + (digs (v / 10 ^ (e + 1))).length + 1 = j2 ∧ Below base w0 wc))
      case first =>
        go_wp2_with (fail)
        go_loopg [2, 7, 8] e (fun kq v2 v7 v8 w' => ∃ (full1 suf1 : List Int) (j1 v1 : Nat), v2 = .int .i64 (kq : Int) ∧ v7 = .int .i64 (v1 : Int) ∧ v8 = .int .i64 ((j1 : Int) - 1) ∧ Aside0 (Row 5 w' g full1 ∧ full1.length = c ∧ Fill full1 pre suf1 j1 N ∧ pre.length + (digs (v / 10 ^ (e + 1))).length + 1 + kq = j1 ∧ frac kq v1 ++ suf1 = frac (e + 1) v ++ suf ∧ v1 / 10 ^ kq = v / 10 ^ (e + 1) ∧ v1 < 9223372036854775808 ∧ kq ≤ e ∧ Below base w0 w'))
        case atStart => exact ⟨full.set j' ((48 : Int) + (v % 10 : Nat)), ((48 : Int) + (v % 10 : Nat)) :: suf, j', v / 10, rfl, rfl, rfl, ⟨HS.out.1, HS.out.2.1, HF2.out, by have := HJ1.out; omega, by rw [frac]; simp, by rw [Nat.div_div_eq_div_mul, Nat.pow_succ, Nat.mul_comm], by have := HQ.out; omega, Nat.le_refl _, HS.out.2.2⟩⟩
        case round =>
          obtain ⟨full1, suf1, j1, v1, rfl, rfl, rfl, HI⟩ := hrel
          cases gk with
          | zero =>
            go_wp2_with (fail)
            go_meet
            case rel =>
              obtain ⟨h1, h2, h3, h4, h5, h6, h7, h8, h9⟩ := HI.out
              have h6' : v1 = v / 10 ^ (e + 1) := by simpa using h6
              have h5' : suf1 = frac (e + 1) v ++ suf := by simpa [frac] using h5
              exact ⟨full1, j1, by rw [h6'], rfl, ⟨h1, h2, h5' ▸ h3, by omega, h9⟩⟩
          | succ k1 =>
            have a1 : decide ((0 : Int) < ((k1 + 1 : Nat) : Int)) = true := decide_eq_true (by omega)
            have a2 := eq_true (show (0 : Int) < ((k1 + 1 : Nat) : Int) by omega)
            obtain ⟨h1, h2, h3, h4, h5, h6, h7, h8, h9⟩ := HI.out
            obtain ⟨j', rfl⟩ : ∃ j', j1 = j' + 1 := ⟨j1 - 1, by omega⟩
            have hF3 := h3.step (by omega) ((48 : Int) + (v1 % 10 : Nat))
            have e0 : ((j' + 1 : Nat) : Int) - 1 = (j' : Int) := by omega
            have l1 := h3.sum
            have b1 : decide ((j' : Int) < (N : Int)) = true := decide_eq_true (by omega)
            have b2 := eq_true (show (j' : Int) < (N : Int) by omega)
            have b3 := eq_true (show (0 : Int) ≤ (j' : Int) by omega)
            have b4 := eq_true (show j' < N by omega)
            have b5 := h1.cell j' (by have := h3.len; omega)
            have b6 := h1.frozen j'
            have HN := Aside0.mk (show Row 5 (wr.setCell ⟨g, j', none⟩ (.int .u8 ((48 : Int) + (v1 % 10 : Nat)))) g (full1.set j' ((48 : Int) + (v1 % 10 : Nat))) ∧ (full1.set j' ((48 : Int) + (v1 % 10 : Nat))).length = c ∧ Fill (full1.set j' ((48 : Int) + (v1 % 10 : Nat))) pre (((48 : Int) + (v1 % 10 : Nat)) :: suf1) j' N ∧ pre.length + (digs (v / 10 ^ (e + 1))).length + 1 + k1 = j' ∧ frac k1 (v1 / 10) ++ (((48 : Int) + (v1 % 10 : Nat)) :: suf1) = frac (e + 1) v ++ suf ∧ v1 / 10 / 10 ^ k1 = v / 10 ^ (e + 1) ∧ v1 / 10 < 9223372036854775808 ∧ k1 ≤ e ∧ Below base w0 (wr.setCell ⟨g, j', none⟩ (.int .u8 ((48 : Int) + (v1 % 10 : Nat)))) from
              ⟨h1.store _ _, by rw [List.length_set]; exact h2, hF3, by omega, by rw [← h5, frac]; simp, by rw [← h6, Nat.div_div_eq_div_mul, Nat.pow_succ, Nat.mul_comm], by omega, by omega, h9.setCell HB.out _⟩)
            have H7 := Aside0.mk h7
            have H8 := Aside0.mk h8
            have HJ2 := Aside0.mk l1
            rw [e0]
            clear h1 h2 h3 h4 h5 h6 h7 h8 h9 hF3 e0 l1
            go_wp2_with (fail)
            rw [show (v1 : Int) % 10 + 48 = (48 : Int) + (v1 % 10 : Nat) by omega]
            go_roundg k1
            case measure => omega
            case rel =>
              have g1 := H7.out
              have g2 := H8.out
              have g3 := HJ2.out
              have g4 := HD.out
              have g5 := HM.out
              exact ⟨full1.set j' ((48 : Int) + (v1 % 10 : Nat)), ((48 : Int) + (v1 % 10 : Nat)) :: suf1, j', v1 / 10, by congr 1; simp only [wrap64]; omega, by rw [show wrap64 ((v1 : Int) / 10) = ((v1 / 10 : Nat) : Int) by simp only [wrap64]; omega], by rw [show wrap64 ((j' : Int) - 1) = (j' : Int) - 1 by simp only [wrap64]; omega], HN⟩
      case rest =>
        obtain ⟨full2, j2, rfl, rfl, HI⟩ := hcut
        obtain ⟨h1, h2, h3, h4, h5⟩ := HI.out
        obtain ⟨jj, rfl⟩ : ∃ jj, j2 = jj + 1 := ⟨j2 - 1, by omega⟩
        have hF3 := h3.step (by omega) 46
        have e0 : ((jj + 1 : Nat) : Int) - 1 = (jj : Int) := by omega
        have l1 := h3.sum
        have b1 : decide ((jj : Int) < (N : Int)) = true := decide_eq_true (by omega)
        have b2 := eq_true (show (jj : Int) < (N : Int) by omega)
        have b3 := eq_true (show (0 : Int) ≤ (jj : Int) by omega)
        have b4 := eq_true (show jj < N by omega)
        have b5 := h1.cell jj (by have := h3.len; omega)
        have b6 := h1.frozen jj
        have HN := Aside0.mk (show Row 5 (wc.setCell ⟨g, jj, none⟩ (.int .u8 46)) g (full2.set jj 46) ∧ (full2.set jj 46).length = c ∧ Fill (full2.set jj 46) pre (46 :: (frac (e + 1) v ++ suf)) jj N ∧ pre.length + (digs (v / 10 ^ (e + 1))).length = jj ∧ out = pre ++ digs (v / 10 ^ (e + 1)) ++ (46 :: (frac (e + 1) v ++ suf)) ∧ Below base w0 (wc.setCell ⟨g, jj, none⟩ (.int .u8 46)) from
          ⟨h1.store _ _, by rw [List.length_set]; exact h2, hF3, by omega, by rw [HO.out, text_pos v (e + 1) (by omega)]; simp, h5.setCell HB.out _⟩)
        have HJ2 := Aside0.mk l1
        rw [e0]
        clear h1 h2 h3 h4 h5 hF3 e0 l1
        go_wp2_with (fail)
        go_meet
        case rel =>
          have g3 := HJ2.out
          have g5 := HM.out
          exact ⟨full2.set jj 46, 46 :: (frac (e + 1) v ++ suf), jj, rfl, by rw [show wrap64 ((jj : Int) - 1) = (jj : Int) - 1 by simp only [wrap64]; omega], HN⟩
  case rest =>
    obtain ⟨full2, suf2, j2, rfl, rfl, HH⟩ := hcut
    obtain ⟨h1, h2, h3, h4, h5, h6⟩ := HH.out
    refine use_k (by assumption) ?_
    have hq2 : v / 10 ^ d < 9223372036854775808 := Nat.lt_of_le_of_lt (Nat.div_le_self _ _) HQ.out
    exact part14 wc h1 h2 h6 h3 HB.out (by
      by_cases hz : v / 10 ^ d = 0
      · rw [if_pos hz]; rw [hz, digs_small (by decide)] at h4; exact h4
      · rw [if_neg hz]; exact h4) h5 HM.out hq2
end Go.Proofs.YtmpgbakkpbmpiaaDoor.AD
/- AppendDecimal: room, and the last steps. -/
namespace Go.Proofs.YtmpgbakkpbmpiaaDoor.AD
open Go.RowKit Go.Proofs.YtmpgbakkpbmpiaaDoorW.PrintWords Go.Proofs.YtmpgbakkpbmpiaaDoorW.PrintLast Go.Proofs.YtmpgbakkpbmpiaaDoorW.PrintMore
open PFl Brow Dig
set_option linter.unusedVariables false
set_option linter.unusedSimpArgs false

theorem bodyPost_mono {P : Program} {fn : Func} {R R' : Ending → World → Prop} (h : ∀ e w, R e w → R' e w) (e : Exit) (a : Act) (w : World) (hb : bodyPost P fn R e a w) : bodyPost P fn R' e a w := by
  cases e with
  | normal => obtain ⟨h1, v, h2, h3⟩ := hb; exact ⟨h1, v, h2, h _ _ h3⟩
  | ret => obtain ⟨h1, v, h2, h3⟩ := hb; exact ⟨h1, v, h2, h _ _ h3⟩
  | panic chain => obtain ⟨h1, h2⟩ := hb; exact ⟨h1, h _ _ h2⟩
  | outgrown => exact h _ _ hb
  | _ => exact hb.elim
set_option maxHeartbeats 2000000 in
set_option maxRecDepth 100000 in
theorem part10 {g d v n base : Nat} {full l : List Int} {w0 : World} {u1 u3 u4 u5 u6 u10 u11 u12 u13 u14 u15 u16 u17 u18 u19 u20 u21 u22 u23 u24 u25 u26 u27 u28 u29 u30 u31 u32 u33 u34 u35 u36 u37 u38 u39 u40 u41 u42 u43 u44 u45 u46 u47 u48 u49 u50 u51 u52 u53 u54 u55 u56 u57 u58 u59 u60 u61 u62 u63 u64 u65 u66 u67 u68 u69 u70 u71 u72 u73 u74 u75 u76 u77 u78 u79 u80 u81 u82 u83 u84 u85 u86 u87 u88 u89 u90 u91 u92 u93 u94 u95 u96 u97 u98 u99 u100 u101 u102 u103 u104 u105 u106 u107 u108 u109 u110 u111 u112 u113 u114 u115 u116 u117 u118 u119 u120 u121 u122 u123 u124 u125 u126 u127 u128 u129 u130 u131 u132 u133 u134 u135 u136 u137 u138 u139 u140 u141 u142 u143 u144 u145 u146 u147 u148 u149 u150 u151 u152 u153 u154 u155 u156 u157 u158 u159 u160 u161 u162 u163 u164 : Value} (W : World) (hr : Row 5 W g full) (hl : l.length ≤ full.length) (htk : full.take l.length = l) (hmx : full.length ≤ maxLen) (hb : base ≤ g) (hbs : base ≤ W.heap.size) (hw0 : Below base w0 W) (hn : n = (text v d).length) (hv : 0 < v ∧ v < 9223372036854775808) (hd : d < 20) (hln : l.length + n ≤ 1000000000000) :
    Code.wp Tryd.prog (rest 10 body21) (bodyPost Tryd.prog Tryd.f21 fun e w' => ∃ v', e = .returned v' ∧ Bs 5 w' base v' (l ++ text v d) ∧ Below base w0 w') ⟨#[.slice (some ⟨g, 0, none⟩) l.length full.length, u1, .int .i64 (d : Int), u3, u4, u5, u6, .int .i64 (v : Int), .int .i64 (l.length : Int), .int .i64 (n : Int), u10, u11, u12, u13, u14, u15, u16, u17, u18, u19, u20, u21, u22, u23, u24, u25, u26, u27, u28, u29, u30, u31, u32, u33, u34, u35, u36, u37, u38, u39, u40, u41, u42, u43, u44, u45, u46, u47, u48, u49, u50, u51, u52, u53, u54, u55, u56, u57, u58, u59, u60, u61, u62, u63, u64, u65, u66, u67, u68, u69, u70, u71, u72, u73, u74, u75, u76, u77, u78, u79, u80, u81, u82, u83, u84, u85, u86, u87, u88, u89, u90, u91, u92, u93, u94, u95, u96, u97, u98, u99, u100, u101, u102, u103, u104, u105, u106, u107, u108, u109, u110, u111, u112, u113, u114, u115, u116, u117, u118, u119, u120, u121, u122, u123, u124, u125, u126, u127, u128, u129, u130, u131, u132, u133, u134, u135, u136, u137, u138, u139, u140, u141, u142, u143, u144, u145, u146, u147, u148, u149, u150, u151, u152, u153, u154, u155, u156, u157, u158, u159, u160, u161, u162, u163, u164], []⟩ W := by
  conv => arg 2; whnf
  have HR := Aside0.mk hr
  have HLe := Aside0.mk hl
  have HTk := Aside0.mk htk
  have HMx := Aside0.mk hmx
  have HB := Aside0.mk hb
  have HBs := Aside0.mk hbs
  have HW0 := Aside0.mk hw0
  have HN := Aside0.mk hn
  have HV := Aside0.mk hv
  have HD := Aside0.mk hd
  have HLn := Aside0.mk hln
  have hn0 : 0 < n := by rw [hn]; have := digs_len (v / 10 ^ d); simp only [text, List.length_append]; omega
  clear hr hl htk hmx hb hbs hw0 hn hv hd hln
  go_upto_if 91 with (fail)
  go_cut [0] (fun v0 wc => ∃ (g2 : Nat) (full2 : List Int), v0 = .slice (some ⟨g2, 0, none⟩) (l.length + n) full2.length ∧ Aside0 (Row 5 wc g2 full2 ∧ base ≤ g2 ∧ l.length + n ≤ full2.length ∧ full2.length ≤ maxLen ∧ full2.take l.length = l ∧ Below base w0 wc))
  case first =>
    have hln := HLn.out
    have hw : wrap64 ((l.length : Int) + (n : Int)) = ((l.length + n : Nat) : Int) := by simp only [wrap64]; omega
    by_cases hroom : full.length < l.length + n
    · have c1 : decide ((full.length : Int) < ((l.length + n : Nat) : Int)) = true := decide_eq_true (by omega)
      have c2 := eq_true hroom
      have c3 := eq_true (show (full.length : Int) < (l.length : Int) + (n : Int) by omega)
      go_wp2_with (at_builtin; refine wpList_zeros _ rfl (.tmp 92) (.tmp 93) 22 3 5 base rfl Tryd.underlying22 Tryd.underlying3 PFnNumberFloatLength.info5 g full l rfl HR.out HLe.out HTk.out .i64 n rfl hn0 hroom (by omega) HBs.out ?_; intro full' w' h1 h2 h3 h4 h5; have HZ := Aside0.mk (And.intro h1 (And.intro h2 (And.intro h3 (And.intro h4 h5)))); clear h1 h2 h3 h4 h5)
      go_meet
      case rel => exact ⟨_, full', rfl, ⟨HZ.out.1, HBs.out, HZ.out.2.1, HZ.out.2.2.1, HZ.out.2.2.2.1, HW0.out.trans (HZ.out.2.2.2.2.mono HBs.out)⟩⟩
    · have c1 : decide ((full.length : Int) < ((l.length + n : Nat) : Int)) = false := decide_eq_false (by omega)
      have c2 := eq_false hroom
      have c3 := eq_false (show ¬ (full.length : Int) < (l.length : Int) + (n : Int) by omega)
      have c4 := eq_true (show l.length + n ≤ full.length by omega)
      have c5 := eq_true (show (l.length : Int) + (n : Int) ≤ (full.length : Int) by omega)
      have c6 := eq_true (show (0 : Int) ≤ (l.length : Int) + (n : Int) by omega)
      have HRm := Aside0.mk hroom
      go_wp2_with (fail)
      go_meet
      case rel => exact ⟨g, full, rfl, ⟨HR.out, HB.out, by have := HRm.out; omega, HMx.out, HTk.out, HW0.out⟩⟩
  case rest =>
    obtain ⟨g2, full2, rfl, HH⟩ := hcut
    clear HR HLe HTk HMx HB HW0
    have c1 : decide ((v : Int) < 0) = false := decide_eq_false (by omega)
    have c2 := eq_false (show ¬ (v : Int) < 0 by omega)
    go_upto_region 29 with (fail)
    go_cut [8] (fun v8 wc => v8 = .int .i64 (((l.length + n : Nat) : Int) - 1) ∧ Aside0 (Row 5 wc g2 full2 ∧ Below base w0 wc))
    case first =>
      have hln := HLn.out
      have hw : wrap64 ((n : Int) - 1) = (n : Int) - 1 := by simp only [wrap64]; omega
      have hw2 : wrap64 ((l.length : Int) + ((n : Int) - 1)) = ((l.length + n : Nat) : Int) - 1 := by simp only [wrap64]; omega
      go_wp2_with (fail)
      go_meet
      case rel => exact ⟨by congr 1; first | exact hw2 | omega | (simp; omega), ⟨HH.out.1, HH.out.2.2.2.2.2⟩⟩
    case rest =>
      obtain ⟨rfl, HX⟩ := hcut
      obtain ⟨h1, h2, h3, h4, h5, h6⟩ := HH.out
      refine use_k (by assumption) ?_
      have hlen : (full2.take (l.length + n)).length = l.length + n := by simp only [List.length_take]; omega
      have hdl : (text v d).length = (digs (v / 10 ^ d)).length + (if d = 0 then 0 else d + 1) := by
        unfold text
        by_cases h0 : d = 0
        · simp [h0]
        · simp [h0, frac_len]
      refine Code.wp_mono (bodyPost_mono ?_) (part13 _ HX.out.1 rfl HX.out.2 (pre := l) (suf := []) (out := l ++ text v d) (j := l.length + n) ⟨h5, by rw [List.drop_of_length_le (by omega)], h3, by omega, by simp⟩ h2 (by have := HN.out; omega) (by simp) (by have := HLn.out; omega) HV.out.2 HD.out)
      rintro e w' ⟨full', rfl, k1, k2, k3, k4⟩
      have hnl : (l ++ text v d).length = l.length + n := by rw [List.length_append, HN.out]
      exact ⟨_, rfl, ⟨g2, full', by rw [hnl, k1], h2, k2, by rw [hnl, k1]; exact h3, by rw [k1]; exact h4, by rw [hnl]; exact k3⟩, k4⟩
end Go.Proofs.YtmpgbakkpbmpiaaDoor.AD
/- AppendDecimal: how many bytes. -/
namespace Go.Proofs.YtmpgbakkpbmpiaaDoor.AD
open Go.RowKit Go.Proofs.YtmpgbakkpbmpiaaDoorW.PrintWords Go.Proofs.YtmpgbakkpbmpiaaDoorW.PrintLast Go.Proofs.YtmpgbakkpbmpiaaDoorW.PrintMore
open PFl Brow Dig
set_option linter.unusedVariables false
set_option linter.unusedSimpArgs false

theorem digs_div {v d : Nat} (h : 10 ^ d ≤ v) : (digs v).length = (digs (v / 10 ^ d)).length + d := by
  have hp : 0 < 10 ^ d := Nat.pow_pos (by decide)
  have hq : 1 ≤ v / 10 ^ d := (Nat.le_div_iff_mul_le hp).2 (by omega)
  obtain ⟨a, b, c⟩ := digs_len (v / 10 ^ d)
  have c' := c hq
  obtain ⟨k, hk⟩ : ∃ k, (digs (v / 10 ^ d)).length = k + 1 := ⟨(digs (v / 10 ^ d)).length - 1, by omega⟩
  rw [hk] at b c' ⊢
  simp only [Nat.add_sub_cancel] at c'
  rw [show k + 1 + d = (k + d) + 1 by omega]
  refine digs_len_eq ?_ (.inr ?_)
  · have := (Nat.div_lt_iff_lt_mul hp).1 b
    rw [show k + d + 1 = (k + 1) + d by omega, Nat.pow_add]
    exact this
  · have := (Nat.le_div_iff_mul_le hp).1 c'
    rw [Nat.pow_add]
    exact this
/-- How many bytes there are. -/
theorem text_len (v d : Nat) (hv : 0 < v) : (text v d).length = if d = 0 then (digs v).length else (if (digs v).length < d then d else (digs v).length) + 1 + (if v < 10 ^ d then 1 else 0) := by
  by_cases h0 : d = 0
  · subst h0; rw [text_zero, if_pos rfl]
  · rw [if_neg h0, text_pos v d (by omega), List.length_append, List.length_cons, frac_len]
    by_cases h : v < 10 ^ d
    · rw [if_pos h, Nat.div_eq_of_lt h, digs_small (by decide), List.length_singleton]
      have hL : (digs v).length ≤ d := by
        obtain ⟨a, b, c⟩ := digs_len v
        have c' := c (by omega)
        rcases Nat.lt_or_ge d (digs v).length with hlt | hge
        · exfalso
          have := Nat.pow_le_pow_right (n := 10) (by decide) (show d ≤ (digs v).length - 1 by omega)
          omega
        · exact hge
      split <;> omega
    · have hdv := digs_div (v := v) (d := d) (by omega)
      obtain ⟨a, -, -⟩ := digs_len (v / 10 ^ d)
      rw [if_neg h, if_neg (show ¬ (digs v).length < d by omega)]
      omega
end Go.Proofs.YtmpgbakkpbmpiaaDoor.AD
/- AppendDecimal: lengths. -/
namespace Go.Proofs.YtmpgbakkpbmpiaaDoor.AD
open Go.RowKit Go.Proofs.YtmpgbakkpbmpiaaDoorW.PrintWords Go.Proofs.YtmpgbakkpbmpiaaDoorW.PrintLast Go.Proofs.YtmpgbakkpbmpiaaDoorW.PrintMore
open PFl Brow Dig
set_option linter.unusedVariables false
set_option linter.unusedSimpArgs false

set_option maxHeartbeats 2000000 in
set_option maxRecDepth 100000 in
theorem part8 {g d v base : Nat} {full l : List Int} {w0 : World} {u1 u3 u4 u5 u6 u8 u9 u10 u11 u12 u13 u14 u15 u16 u17 u18 u19 u20 u21 u22 u23 u24 u25 u26 u27 u28 u29 u30 u31 u32 u33 u34 u35 u36 u37 u38 u39 u40 u41 u42 u43 u44 u45 u46 u47 u48 u49 u50 u51 u52 u53 u54 u55 u56 u57 u58 u59 u60 u61 u62 u63 u64 u65 u66 u67 u68 u69 u70 u71 u72 u73 u74 u75 u76 u77 u78 u79 u80 u81 u82 u83 u84 u85 u86 u87 u88 u89 u90 u91 u92 u93 u94 u95 u96 u97 u98 u99 u100 u101 u102 u103 u104 u105 u106 u107 u108 u109 u110 u111 u112 u113 u114 u115 u116 u117 u118 u119 u120 u121 u122 u123 u124 u125 u126 u127 u128 u129 u130 u131 u132 u133 u134 u135 u136 u137 u138 u139 u140 u141 u142 u143 u144 u145 u146 u147 u148 u149 u150 u151 u152 u153 u154 u155 u156 u157 u158 u159 u160 u161 u162 u163 u164 : Value} (W : World) (hr : Row 5 W g full) (hl : l.length ≤ full.length) (htk : full.take l.length = l) (hmx : full.length ≤ maxLen) (hb : base ≤ g) (hbs : base ≤ W.heap.size) (hw0 : Below base w0 W) (hv : 0 < v ∧ v < 9223372036854775808) (hd : d < 19) (hln : l.length + (text v d).length ≤ 1000000000000) (ht : W.cell? ⟨1, d, none⟩ = some (.int .i64 ((10 ^ d : Nat) : Int))) :
    Code.wp Tryd.prog (rest 8 body21) (bodyPost Tryd.prog Tryd.f21 fun e w' => ∃ v', e = .returned v' ∧ Bs 5 w' base v' (l ++ text v d) ∧ Below base w0 w') ⟨#[.slice (some ⟨g, 0, none⟩) l.length full.length, u1, .int .i64 (d : Int), u3, u4, u5, u6, .int .i64 (v : Int), u8, u9, u10, u11, u12, u13, u14, u15, u16, u17, u18, u19, u20, u21, u22, u23, u24, u25, u26, u27, u28, u29, u30, u31, u32, u33, u34, u35, u36, u37, u38, u39, u40, u41, u42, u43, u44, u45, u46, u47, u48, u49, u50, u51, u52, u53, u54, u55, u56, u57, u58, u59, u60, u61, u62, u63, u64, u65, u66, u67, u68, u69, u70, u71, u72, u73, u74, u75, u76, u77, u78, u79, u80, u81, u82, u83, u84, u85, u86, u87, u88, u89, u90, u91, u92, u93, u94, u95, u96, u97, u98, u99, u100, u101, u102, u103, u104, u105, u106, u107, u108, u109, u110, u111, u112, u113, u114, u115, u116, u117, u118, u119, u120, u121, u122, u123, u124, u125, u126, u127, u128, u129, u130, u131, u132, u133, u134, u135, u136, u137, u138, u139, u140, u141, u142, u143, u144, u145, u146, u147, u148, u149, u150, u151, u152, u153, u154, u155, u156, u157, u158, u159, u160, u161, u162, u163, u164], []⟩ W := by
  conv => arg 2; whnf
  have HR := Aside0.mk hr
  have HLe := Aside0.mk hl
  have HTk := Aside0.mk htk
  have HMx := Aside0.mk hmx
  have HB := Aside0.mk hb
  have HBs := Aside0.mk hbs
  have HW0 := Aside0.mk hw0
  have HV := Aside0.mk hv
  have HD := Aside0.mk hd
  have HLn := Aside0.mk hln
  have HT := Aside0.mk ht
  clear hr hl htk hmx hb hbs hw0 hv hd hln ht
  have HLI := Aside0.mk (fun W : World => PFnNumberDecimalNear.tdstrconv_LenInt.calls (v : Int) ((digs v).length : Int) W (lenInt_eq v HV.out.2))
  go_upto_if 57 with (go_at_call 29; refine (HLI.out _).mono ?_; rintro e w' ⟨rfl, ⟨nd, rfl⟩⟩)
  go_cut [9, 10] (fun v9 v10 wc => v9 = .int .i64 ((text v d).length : Int) ∧ Aside0 (∃ nd, wc = W.drewN nd))
  case first =>
    have htl := text_len v d HV.out.1
    have hln := HLn.out
    have hx := HT.out
    by_cases h0 : d = 0
    · subst h0
      rw [if_pos rfl] at htl
      go_wp2_with (fail)
      go_meet
      case rel => exact ⟨by rw [htl], ⟨nd, rfl⟩⟩
    · rw [if_neg h0] at htl
      generalize (digs v).length = L at *
      have hd19 := HD.out
      have d1 := eq_true (show (0 : Int) < (d : Int) by omega)
      have d2 : decide ((0 : Int) < (d : Int)) = true := decide_eq_true (by omega)
      have d3 := eq_true (show 0 < d by omega)
      have d4 := eq_true (show (d : Int) < 19 by omega)
      have d5 := eq_true (show (0 : Int) ≤ (d : Int) by omega)
      have d6 := eq_true (show d < 19 by omega)
      have v1 := eq_true (show (0 : Int) < (v : Int) by have := HV.out.1; omega)
      have v2 : decide ((0 : Int) < (v : Int)) = true := decide_eq_true (by have := HV.out.1; omega)
      have v3 := eq_true HV.out.1
      have v4 : decide ((v : Int) < 0) = false := decide_eq_false (by omega)
      have v5 := eq_false (show ¬ (v : Int) < 0 by omega)
      generalize 10 ^ d = T at *
      by_cases a : L < d
      · rw [if_pos a] at htl
        have a1 := eq_true a
        have a2 : decide ((L : Int) < (d : Int)) = true := decide_eq_true (by omega)
        have a3 := eq_true (show (L : Int) < (d : Int) by omega)
        by_cases b : v < T
        · rw [if_pos b] at htl
          have b1 := eq_true b
          have b2 : decide ((v : Int) < (T : Int)) = true := decide_eq_true (by omega)
          have b3 := eq_true (show (v : Int) < (T : Int) by omega)
          go_wp2_with (fail)
          go_meet
          case rel => exact ⟨by rw [htl]; first | rfl | (congr 1; done) | (congr 1; simp only [wrap64]; omega), ⟨nd, rfl⟩⟩
        · rw [if_neg b] at htl
          have b1 := eq_false b
          have b2 : decide ((v : Int) < (T : Int)) = false := decide_eq_false (by omega)
          have b3 := eq_false (show ¬ (v : Int) < (T : Int) by omega)
          go_wp2_with (fail)
          go_meet
          case rel => exact ⟨by rw [htl]; first | rfl | (congr 1; done) | (congr 1; simp only [wrap64]; omega), ⟨nd, rfl⟩⟩
      · rw [if_neg a] at htl
        have a1 := eq_false a
        have a2 : decide ((L : Int) < (d : Int)) = false := decide_eq_false (by omega)
        have a3 := eq_false (show ¬ (L : Int) < (d : Int) by omega)
        by_cases b : v < T
        · rw [if_pos b] at htl
          have b1 := eq_true b
          have b2 : decide ((v : Int) < (T : Int)) = true := decide_eq_true (by omega)
          have b3 := eq_true (show (v : Int) < (T : Int) by omega)
          go_wp2_with (fail)
          go_meet
          case rel => exact ⟨by rw [htl]; first | rfl | (congr 1; done) | (congr 1; simp only [wrap64]; omega), ⟨nd, rfl⟩⟩
        · rw [if_neg b] at htl
          have b1 := eq_false b
          have b2 : decide ((v : Int) < (T : Int)) = false := decide_eq_false (by omega)
          have b3 := eq_false (show ¬ (v : Int) < (T : Int) by omega)
          go_wp2_with (fail)
          go_meet
          case rel => exact ⟨by rw [htl]; first | rfl | (congr 1; done) | (congr 1; simp only [wrap64]; omega), ⟨nd, rfl⟩⟩
  case rest =>
    obtain ⟨rfl, HX⟩ := hcut
    obtain ⟨nd2, rfl⟩ := HX.out
    refine use_k (by assumption) ?_
    exact part10 _ (HR.out.drewN _) HLe.out HTk.out HMx.out HB.out HBs.out (pw_below_drewN HW0.out _) rfl HV.out (by have := HD.out; omega) HLn.out
end Go.Proofs.YtmpgbakkpbmpiaaDoor.AD
/- AppendDecimal: zeros at the end taken off. -/
namespace Go.Proofs.YtmpgbakkpbmpiaaDoor.AD
open Go.RowKit Go.Proofs.YtmpgbakkpbmpiaaDoorW.PrintWords Go.Proofs.YtmpgbakkpbmpiaaDoorW.PrintLast Go.Proofs.YtmpgbakkpbmpiaaDoorW.PrintMore
open PFl Brow Dig
set_option linter.unusedVariables false
set_option linter.unusedSimpArgs false

theorem text_short {v d : Nat} (hv : 0 < v ∧ v < 9223372036854775808) (hd : d < 19) : (text v d).length ≤ 40 := by
  have h := text_len v d hv.1
  obtain ⟨a, b, c⟩ := digs_len v
  have c' := c (by omega)
  have hL : (digs v).length ≤ 20 := by
    rcases Nat.lt_or_ge 20 (digs v).length with hlt | hge
    · exfalso
      have h1 := Nat.pow_le_pow_right (n := 10) (by decide) (show 20 ≤ (digs v).length - 1 by omega)
      have h2 : (10 : Nat) ^ 20 = 100000000000000000000 := by decide
      omega
    · exact hge
  rw [h]
  repeat' split
  all_goals omega
set_option maxHeartbeats 2000000 in
set_option maxRecDepth 100000 in
theorem part6 {g d v base : Nat} {full l : List Int} {w0 : World} {u1 u3 u4 u5 u6 u8 u9 u10 u11 u12 u13 u14 u15 u16 u17 u18 u19 u20 u21 u22 u23 u24 u25 u26 u27 u28 u29 u30 u31 u32 u33 u34 u35 u36 u37 u38 u39 u40 u41 u42 u43 u44 u45 u46 u47 u48 u49 u50 u51 u52 u53 u54 u55 u56 u57 u58 u59 u60 u61 u62 u63 u64 u65 u66 u67 u68 u69 u70 u71 u72 u73 u74 u75 u76 u77 u78 u79 u80 u81 u82 u83 u84 u85 u86 u87 u88 u89 u90 u91 u92 u93 u94 u95 u96 u97 u98 u99 u100 u101 u102 u103 u104 u105 u106 u107 u108 u109 u110 u111 u112 u113 u114 u115 u116 u117 u118 u119 u120 u121 u122 u123 u124 u125 u126 u127 u128 u129 u130 u131 u132 u133 u134 u135 u136 u137 u138 u139 u140 u141 u142 u143 u144 u145 u146 u147 u148 u149 u150 u151 u152 u153 u154 u155 u156 u157 u158 u159 u160 u161 u162 u163 u164 : Value} (W : World) (hr : Row 5 W g full) (hl : l.length ≤ full.length) (htk : full.take l.length = l) (hmx : full.length ≤ maxLen) (hb : base ≤ g) (hbs : base ≤ W.heap.size) (hw0 : Below base w0 W) (hv : 0 < v ∧ v < 9223372036854775808) (hd : d < 19) (hln : l.length ≤ 100000000000) (ht : ∀ i < 19, W.cell? ⟨1, i, none⟩ = some (.int .i64 ((10 ^ i : Nat) : Int))) :
    Code.wp Tryd.prog (rest 6 body21) (bodyPost Tryd.prog Tryd.f21 fun e w' => ∃ v' n d' k, e = .returned v' ∧ v = n * 10 ^ k ∧ d = d' + k ∧ 0 < n ∧ Bs 5 w' base v' (l ++ text n d') ∧ Below base w0 w') ⟨#[.slice (some ⟨g, 0, none⟩) l.length full.length, u1, .int .i64 (d : Int), u3, u4, u5, u6, .int .i64 (v : Int), u8, u9, u10, u11, u12, u13, u14, u15, u16, u17, u18, u19, u20, u21, u22, u23, u24, u25, u26, u27, u28, u29, u30, u31, u32, u33, u34, u35, u36, u37, u38, u39, u40, u41, u42, u43, u44, u45, u46, u47, u48, u49, u50, u51, u52, u53, u54, u55, u56, u57, u58, u59, u60, u61, u62, u63, u64, u65, u66, u67, u68, u69, u70, u71, u72, u73, u74, u75, u76, u77, u78, u79, u80, u81, u82, u83, u84, u85, u86, u87, u88, u89, u90, u91, u92, u93, u94, u95, u96, u97, u98, u99, u100, u101, u102, u103, u104, u105, u106, u107, u108, u109, u110, u111, u112, u113, u114, u115, u116, u117, u118, u119, u120, u121, u122, u123, u124, u125, u126, u127, u128, u129, u130, u131, u132, u133, u134, u135, u136, u137, u138, u139, u140, u141, u142, u143, u144, u145, u146, u147, u148, u149, u150, u151, u152, u153, u154, u155, u156, u157, u158, u159, u160, u161, u162, u163, u164], []⟩ W := by
  conv => arg 2; whnf
  have HR := Aside0.mk hr
  have HLe := Aside0.mk hl
  have HTk := Aside0.mk htk
  have HMx := Aside0.mk hmx
  have HB := Aside0.mk hb
  have HBs := Aside0.mk hbs
  have HW0 := Aside0.mk hw0
  have HV := Aside0.mk hv
  have HD := Aside0.mk hd
  have HLn := Aside0.mk hln
  have HT := Aside0.mk ht
  clear hr hl htk hmx hb hbs hw0 hv hd hln ht
  have z1 : ((v : Int) == 0) = false := beq_eq_false_iff_ne.mpr (by have := HV.out.1; omega)
  have z2 := eq_false (show ¬ (v : Int) = 0 by have := HV.out.1; omega)
  have z3 := eq_false (show ¬ v = 0 by have := HV.out.1; omega)
  go_upto_block 0 with (fail)
  clear z1 z2 z3
  go_cut [2, 7] (fun v2 v7 wc => ∃ n d' k : Nat, v2 = .int .i64 (d' : Int) ∧ v7 = .int .i64 (n : Int) ∧ Aside0 (v = n * 10 ^ k ∧ d = d' + k ∧ 0 < n ∧ wc = W))
  case first =>
    go_wp2_with (fail)
    go_loopg [2, 7] d (fun kq v2 v7 w' => ∃ n k : Nat, v2 = .int .i64 (kq : Int) ∧ v7 = .int .i64 (n : Int) ∧ Aside0 (v = n * 10 ^ k ∧ d = kq + k ∧ 0 < n) ∧ w' = W)
    case atStart => exact ⟨v, 0, rfl, rfl, ⟨by simp, by omega, HV.out.1⟩, rfl⟩
    case round =>
      obtain ⟨n, k, rfl, rfl, HI, rfl⟩ := hrel
      cases gk with
      | zero =>
        go_wp2_with (fail)
        go_meet
        case rel => exact ⟨n, 0, k, rfl, rfl, ⟨HI.out.1, HI.out.2.1, HI.out.2.2, rfl⟩⟩
      | succ k1 =>
        have a1 : decide ((0 : Int) < ((k1 + 1 : Nat) : Int)) = true := decide_eq_true (by omega)
        have a2 := eq_true (show (0 : Int) < ((k1 + 1 : Nat) : Int) by omega)
        by_cases hz : n % 10 = 0
        · have b1 : ((n : Int) % 10 == 0) = true := beq_iff_eq.mpr (by omega)
          have b2 := eq_true (show (n : Int) % 10 = 0 by omega)
          have HZ := Aside0.mk hz
          clear hz
          go_wp2_with (fail)
          go_roundg k1
          case measure => omega
          case rel =>
            obtain ⟨h1, h2, h3⟩ := HI.out
            have hz := HZ.out
            have hv := HV.out.2
            have hd := HD.out
            have hn : n = n / 10 * 10 := by omega
            have hnv : n ≤ v := by rw [h1]; exact Nat.le_mul_of_pos_right _ (Nat.pow_pos (by decide))
            exact ⟨n / 10, k + 1, by congr 1; simp only [wrap64]; omega, by rw [show wrap64 ((n : Int) / 10) = ((n / 10 : Nat) : Int) by simp only [wrap64]; omega], ⟨by rw [h1, Nat.pow_succ, Nat.mul_comm (10 ^ k), ← Nat.mul_assoc, ← hn], by omega, by omega⟩, rfl⟩
        · have b1 : ((n : Int) % 10 == 0) = false := beq_eq_false_iff_ne.mpr (by omega)
          have b2 := eq_false (show ¬ (n : Int) % 10 = 0 by omega)
          clear hz
          go_wp2_with (fail)
          go_meet
          case rel => exact ⟨n, k1 + 1, k, rfl, rfl, ⟨HI.out.1, HI.out.2.1, HI.out.2.2, rfl⟩⟩
  case rest =>
    obtain ⟨n, d', k, rfl, rfl, HH⟩ := hcut
    obtain ⟨h1, h2, h3, rfl⟩ := HH.out
    refine use_k (by assumption) ?_
    have hnv : n ≤ v := by rw [h1]; exact Nat.le_mul_of_pos_right _ (Nat.pow_pos (by decide))
    have hv' : 0 < n ∧ n < 9223372036854775808 := ⟨h3, by have := HV.out.2; omega⟩
    have hd' : d' < 19 := by have := HD.out; omega
    refine Code.wp_mono (bodyPost_mono ?_) (part8 _ HR.out HLe.out HTk.out HMx.out HB.out HBs.out HW0.out hv' hd' (by have := text_short hv' hd'; have := HLn.out; omega) (HT.out d' hd'))
    rintro e w' ⟨v', rfl, k1, k2⟩
    exact ⟨v', n, d', k, rfl, h1, h2, h3, k1, k2⟩
end Go.Proofs.YtmpgbakkpbmpiaaDoor.AD
/- AppendDecimal, the call. -/
namespace Go.Proofs.YtmpgbakkpbmpiaaDoor.AD
open Go.RowKit Go.Proofs.YtmpgbakkpbmpiaaDoorW.PrintWords Go.Proofs.YtmpgbakkpbmpiaaDoorW.PrintLast Go.Proofs.YtmpgbakkpbmpiaaDoorW.PrintMore
open PFl Brow Dig
set_option linter.unusedVariables false
set_option linter.unusedSimpArgs false

set_option maxHeartbeats 4000000 in
set_option maxRecDepth 100000 in
/-- AppendDecimal of N / 1024 with d decimals, N above nought. -/
theorem append_calls (w : World) (g : Nat) (full l : List Int) (base N d f : Nat) (hr : Row 5 w g full) (hl : l.length ≤ full.length) (htk : full.take l.length = l) (hmx : full.length ≤ maxLen) (hb : base ≤ g) (hbs : base ≤ w.heap.size) (hln : l.length ≤ 100000000000)
    (hN : 0 < N) (hN2 : N ≤ 1024001023) (hd3 : 3 ≤ d) (hd : d < 10) (hf : Real.Val f (N * 2 ^ 190)) (hf64 : f < 18446744073709551616) (htab : Tab.Tabs w) (ht : ∀ i < 19, w.cell? ⟨1, i, none⟩ = some (.int .i64 ((10 ^ i : Nat) : Int))) :
    Calls Tryd.prog 21 #[.slice (some ⟨g, 0, none⟩) l.length full.length, .float .f64 f, .int .i64 d] w fun e w' =>
      ∃ v' num n d' k, e = .returned v' ∧ num = n * 10 ^ k ∧ d = d' + k ∧ 0 < n ∧ num * 1024 ≤ N * 10 ^ d + 770 ∧ N * 10 ^ d ≤ num * 1024 + 770 ∧ Bs 5 w' base v' (l ++ text n d') ∧ Below base w w' := by
  obtain ⟨gg, h, num, e1, e2, e3, e4, e5, e6⟩ := Real.near_num N d f hN hN2 hd3 hd hf
  have hT3 : 1000 ≤ 10 ^ d := by
    have := Nat.pow_le_pow_right (n := 10) (by decide) hd3
    simpa using this
  have hT9 := Real.ten_le hd
  have hTD : N * 10 ^ d ≤ 1024001023 * 1000000000 := Nat.mul_le_mul hN2 hT9
  have hTD1 : 1 * 1000 ≤ N * 10 ^ d := Nat.mul_le_mul hN hT3
  have HNum := Aside0.mk (show (0 < num ∧ num < 9223372036854775808) ∧ num * 1024 ≤ N * 10 ^ d + 770 ∧ N * 10 ^ d ≤ num * 1024 + 770 from ⟨⟨by omega, by omega⟩, e5, e6⟩)
  have hfb : N * 2 ^ 190 < 2 ^ 255 := by
    have h1 : N * 2 ^ 190 < 2 ^ 65 * 2 ^ 190 := Nat.mul_lt_mul_of_pos_right (show N < 2 ^ 65 by have h2 : (2 : Nat) ^ 65 = 36893488147419103232 := by decide
                                                                                                omega) (Nat.two_pow_pos _)
    rw [← Nat.pow_add] at h1
    exact h1
  have HNan := Aside0.mk (fun W : World => Fin.isNaN_val W f _ hf)
  have HInf := Aside0.mk (fun W : World => Fin.isInf_val W f _ hf hf64 hfb)
  have HPow := Aside0.mk (fun (W : World) (hW : W.heap = w.heap) => Pow.pow_pos W _ _ _ d (by omega) ((htab.of_heap hW).t3 (d / 32) (by omega)) ((htab.of_heap hW).t4 (d % 32) (by omega)) (Real.pw_tab d hd).1)
  have hmul : ∀ W : World, (binOp .mul 25 (.float .f64 f) (.float .f64 (Real.pw d))).run Tryd.prog W = .ok (.float .f64 gg) W := fun W => run_float_arith W .mul 25 .f64 _ _ gg e1
  have hadd : ∀ W : World, (binOp .add 25 (.float .f64 gg) (.float .f64 4602678819172646912)).run Tryd.prog W = .ok (.float .f64 h) W := fun W => run_float_arith W .add 25 .f64 _ _ h e3
  have hord : FloatKind.f64.format.order 0 gg = some .lt := e2
  have hcv : ∀ W : World, (convert 25 2 (.float .f64 h)).run Tryd.prog W = .ok (.int .i64 (num : Int)) W := fun W => run_convert_float_int W 25 2 .f64 .i64 h num (by rw [Tryd.underlying25]; rfl) Tryd.underlying2 e4
  have d1 := eq_false (show ¬ (d : Int) < 0 by omega)
  have d2 := eq_false (show ¬ (17 : Int) < (d : Int) by omega)
  have d3 : decide ((d : Int) < 0) = false := decide_eq_false (by omega)
  have d4 : decide ((17 : Int) < (d : Int)) = false := decide_eq_false (by omega)
  have d5 := eq_false (show ¬ 17 < d by omega)
  have HArg := Aside0.mk (And.intro hr (And.intro hl (And.intro htk (And.intro hmx (And.intro hb (And.intro hbs (And.intro hln (And.intro ht hd))))))))
  clear e1 e2 e3 e4 e5 e6 hT3 hT9 hTD hTD1 hfb hr hl htk hmx hb hbs hln hN hN2 hd3 hd hf hf64 htab ht
  go_enter Tryd.func21, Tryd.ntmps21
  go_upto_region 9 with (first | (go_at_call 28; refine (HNan.out _).mono ?_; rintro e w' ⟨rfl, ⟨nd, rfl⟩⟩) | (go_at_call 25; refine (HInf.out _).mono ?_; rintro e w' ⟨rfl, ⟨nd2, rfl⟩⟩) | (go_at_call 24; refine (HPow.out (World.drewN w _) rfl).mono ?_; rintro e w' ⟨rfl, ⟨nd3, rfl⟩⟩))
  go_cut [7] (fun v7 wc => v7 = .int .i64 (num : Int) ∧ Aside0 (∃ m, wc = w.drewN m))
  case first =>
    go_wp2_with (fail)
    go_meet
    case rel => exact ⟨rfl, ⟨_, rfl⟩⟩
  case rest =>
    obtain ⟨rfl, HX⟩ := hcut
    obtain ⟨m, rfl⟩ := HX.out
    obtain ⟨hr, hl, htk, hmx, hb, hbs, hln, ht, hd⟩ := HArg.out
    refine use_k (by assumption) ?_
    refine Code.wp_mono (bodyPost_mono ?_) (part6 _ (hr.drewN m) hl htk hmx hb hbs (w0 := w) (pw_below_drewN (Below.refl _ _) m) HNum.out.1 (by omega) hln ht)
    rintro e w' ⟨v', n, d', k, rfl, k1, k2, k3, k4, k5⟩
    exact ⟨v', num, n, d', k, rfl, k1, k2, k3, HNum.out.2.1, HNum.out.2.2, k4, k5⟩
end Go.Proofs.YtmpgbakkpbmpiaaDoor.AD
/- AppendDecimal where the rounded number is nought: a single nought is appended. -/
namespace Go.Proofs.YtmpgbakkpbmpiaaDoor.AD
open Go.RowKit Go.Proofs.YtmpgbakkpbmpiaaDoorW.PrintWords Go.Proofs.YtmpgbakkpbmpiaaDoorW.PrintLast Go.Proofs.YtmpgbakkpbmpiaaDoorW.PrintMore
open PFl Brow Dig
set_option linter.unusedVariables false
set_option linter.unusedSimpArgs false

set_option maxHeartbeats 4000000 in
set_option maxRecDepth 100000 in
theorem append_zero (w : World) (g : Nat) (full l : List Int) (base d f gg h : Nat) (hr : Row 5 w g full) (hl : l.length ≤ full.length) (htk : full.take l.length = l) (hmx : full.length ≤ maxLen) (hb : base ≤ g) (hbs : base ≤ w.heap.size) (hln : l.length ≤ 100000000000)
    (hd : d < 10) (htab : Tab.Tabs w)
    (hnan : ∀ W : World, Calls Tryd.prog 28 #[.float .f64 f] W fun e w' => e = .returned (.bool false) ∧ Drawn0 W w')
    (hinf : ∀ W : World, Calls Tryd.prog 25 #[.float .f64 f, .int .i64 0] W fun e w' => e = .returned (.bool false) ∧ Drawn0 W w')
    (e1 : FloatKind.f64.format.mul f (Real.pw d) = some gg)
    (e2 : (FloatKind.f64.format.order 0 gg = some .lt ∨ FloatKind.f64.format.order 0 gg = some .eq) ∧ FloatKind.f64.format.add gg 4602678819172646912 = some h ∨ FloatKind.f64.format.order 0 gg = some .gt ∧ FloatKind.f64.format.sub gg 4602678819172646912 = some h)
    (hcv : ∀ W : World, (convert 25 2 (.float .f64 h)).run Tryd.prog W = .ok (.int .i64 0) W) :
    Calls Tryd.prog 21 #[.slice (some ⟨g, 0, none⟩) l.length full.length, .float .f64 f, .int .i64 d] w fun e w' =>
      ∃ v', e = .returned v' ∧ Bs 5 w' base v' (l ++ [48]) ∧ Below base w w' := by
  have HNan := Aside0.mk hnan
  have HInf := Aside0.mk hinf
  have HPow := Aside0.mk (fun (W : World) (hW : W.heap = w.heap) => Pow.pow_pos W _ _ _ d (by omega) ((htab.of_heap hW).t3 (d / 32) (by omega)) ((htab.of_heap hW).t4 (d % 32) (by omega)) (Real.pw_tab d hd).1)
  have hmul : ∀ W : World, (binOp .mul 25 (.float .f64 f) (.float .f64 (Real.pw d))).run Tryd.prog W = .ok (.float .f64 gg) W := fun W => run_float_arith W .mul 25 .f64 _ _ gg e1
  have d1 := eq_false (show ¬ (d : Int) < 0 by omega)
  have d2 := eq_false (show ¬ (17 : Int) < (d : Int) by omega)
  have d3 : decide ((d : Int) < 0) = false := decide_eq_false (by omega)
  have d4 : decide ((17 : Int) < (d : Int)) = false := decide_eq_false (by omega)
  have d5 := eq_false (show ¬ 17 < d by omega)
  have HArg := Aside0.mk (And.intro hr (And.intro hl (And.intro htk (And.intro hmx (And.intro hb (And.intro hbs hln))))))
  clear e1 hr hl htk hmx hb hbs hln hd htab hnan hinf
  go_enter Tryd.func21, Tryd.ntmps21
  go_upto_if 29 with (first | (go_at_call 28; refine (HNan.out _).mono ?_; rintro e w' ⟨rfl, ⟨nd, rfl⟩⟩) | (go_at_call 25; refine (HInf.out _).mono ?_; rintro e w' ⟨rfl, ⟨nd2, rfl⟩⟩) | (go_at_call 24; refine (HPow.out (World.drewN w _) rfl).mono ?_; rintro e w' ⟨rfl, ⟨nd3, rfl⟩⟩))
  go_cut [1] (fun v1 wc => v1 = .float .f64 h ∧ Aside0 (∃ m, wc = w.drewN m))
  case first =>
    rcases e2 with ⟨ho | ho, e3⟩ | ⟨ho, e3⟩
    · have hadd : ∀ W : World, (binOp .add 25 (.float .f64 gg) (.float .f64 4602678819172646912)).run Tryd.prog W = .ok (.float .f64 h) W := fun W => run_float_arith W .add 25 .f64 _ _ h e3
      rw [show (FloatKind.f64.format.order 0 gg == some Ordering.lt || FloatKind.f64.format.order 0 gg == some Ordering.eq) = true by rw [ho]; rfl]
      go_wp2_with (fail)
      go_meet
      case rel => exact ⟨rfl, ⟨_, rfl⟩⟩
    · have hadd : ∀ W : World, (binOp .add 25 (.float .f64 gg) (.float .f64 4602678819172646912)).run Tryd.prog W = .ok (.float .f64 h) W := fun W => run_float_arith W .add 25 .f64 _ _ h e3
      rw [show (FloatKind.f64.format.order 0 gg == some Ordering.lt || FloatKind.f64.format.order 0 gg == some Ordering.eq) = true by rw [ho]; rfl]
      go_wp2_with (fail)
      go_meet
      case rel => exact ⟨rfl, ⟨_, rfl⟩⟩
    · have hsub : ∀ W : World, (binOp .sub 25 (.float .f64 gg) (.float .f64 4602678819172646912)).run Tryd.prog W = .ok (.float .f64 h) W := fun W => run_float_arith W .sub 25 .f64 _ _ h e3
      rw [show (FloatKind.f64.format.order 0 gg == some Ordering.lt || FloatKind.f64.format.order 0 gg == some Ordering.eq) = false by rw [ho]; rfl]
      go_wp2_with (fail)
      go_meet
      case rel => exact ⟨rfl, ⟨_, rfl⟩⟩
  case rest =>
    clear e2
    obtain ⟨rfl, HX⟩ := hcut
    obtain ⟨m, rfl⟩ := HX.out
    obtain ⟨hr, hl, htk, hmx, hb, hbs, hln⟩ := HArg.out
    have HB := Aside0.mk (And.intro (show Bs 5 (w.drewN m) base (.slice (some ⟨g, 0, none⟩) l.length full.length) l from ⟨g, full, rfl, hb, hr.drewN m, hl, hmx, htk⟩) (And.intro hln (And.intro hbs hb)))
    clear hr hl htk hmx hb hbs hln
    go_wp2_with (at_builtin; refine wpList_append _ rfl (.tmp 38) (.tmp 39) 22 5 base rfl Tryd.underlying22 PFnNumberFloatLength.info5 _ l rfl ?c1 (some ⟨w.heap.size, 0, none⟩) 1 [48] rfl ?c2 ?c3 ?c4 ?_; (case c1 => exact HB.out.1.belowAll (below_alloc (Below.refl _ _) _)); (case c2 => exact (show Row 5 _ w.heap.size [48] from heap_alloc_new (w.drewN m) _).reads 1 (by decide) (by decide)); (case c3 => have := HB.out.2.1; simp only [List.length_singleton]; omega); (case c4 => have := HB.out.2.2.1; simp; omega); intro v' w' hv hg hat; have HV := Aside0.mk hv; have HG := Aside0.mk hg; clear hv hg hat)
    go_ret
    refine ⟨_, rfl, HV.out, ?_⟩
    exact (((pw_below_drewN (Below.refl _ _) m).alloc HB.out.2.2.1 _).grown HG.out (by have := HB.out.2.2.1; simp; omega) (fun k hk => by have hk2 : some g = some k := hk; injection hk2 with hk3; subst hk3; exact HB.out.2.2.2))
end Go.Proofs.YtmpgbakkpbmpiaaDoor.AD
