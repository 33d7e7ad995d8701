/- The law FnInput, walked: whatever the bytes and the steps, it answers true and leaves what was there. -/
import Derived.Test.YtojgpdphdhcjiaaDoorInpL
import Derived.Test.YtojgpdphdhcjiaaDoorPFnInputx2
namespace Go.Proofs.YtojgpdphdhcjiaaDoor.InpM
open Go.RowKit Go.Proofs.YtojgpdphdhcjiaaDoorW.PrintWords Go.Proofs.YtojgpdphdhcjiaaDoorW.PrintLast Go.Proofs.YtojgpdphdhcjiaaDoorW.PrintMore
open PFnInput Brow
set_option linter.unusedVariables false
set_option linter.unusedSimpArgs false

theorem F_bytes {W : World} {A : Option Addr} {n : Nat} {xs : List Int} (h : Kd.C (Kd.int .u8) W A n xs) : Kd.F (Kd.int .u8) W (fun _ => True) A n xs := by
  intro W' hW
  obtain ⟨h1, h2, h3⟩ := h
  refine ⟨h1, h2, fun hn => ?_⟩
  obtain ⟨ad, rfl, hc⟩ := h3 hn
  refine ⟨ad, rfl, fun j p hj => ?_⟩
  obtain ⟨c, hs, hr, hcell⟩ := hc j p hj
  refine ⟨c, hs, hr, fun i u hu => ?_⟩
  have h4 := hcell i u hu
  exact (World.cell?_of_block (hW _ trivial (World.block_lt_of_cell? W _ h4))).trans h4

theorem few_eval (l : List Int) (k : Nat) : laws_fewBytes.f (k + 2) [l] = some (decide (l.length ≤ 300)) := by
  unfold laws_fewBytes.f
  simp only [laws_fewBytes.l0]
  rw [if_pos (by simp), if_pos (by omega), if_pos (by simp)]
  have e : rd_L1 [l] 0 = l := rfl
  rw [e]
  by_cases h : (l.length : Int) > 300
  · rw [if_pos h, decide_eq_false (by omega)]
  · rw [if_neg h, w64 (0 + 1) (by omega) (by omega), if_neg (by simp), decide_eq_true (by omega)]
theorem steps_eval (l : List Int) (l1 : List S26) (k : Nat) : laws_stepsOk.f (k + 2) l l1 = some (decide (l.length ≤ 300) && decide (l1.length ≤ 100)) := by
  unfold laws_stepsOk.f
  rw [few_eval, Option.bind_some]
  by_cases h : l.length ≤ 300
  · rw [decide_eq_true h, if_pos rfl]
    congr 1
    rw [Bool.true_and]
    by_cases h2 : l1.length ≤ 100
    · rw [decide_eq_true h2, decide_eq_true (by omega)]
    · rw [decide_eq_false h2, decide_eq_false (by omega)]
  · rw [decide_eq_false h, if_neg (by simp), Bool.false_and]

theorem same_eval (r : List S46) (hr : r.length ≤ 9223372036854775807) (d : Nat) : ∀ (k : Nat) (i : Int), d + 1 ≤ k → 0 ≤ i → i + d = r.length → laws_sameAnswers.l0 k r r (r.length : Int) i = some true := by
  induction d with
  | zero =>
    intro k i hk h0 hi
    obtain ⟨k, rfl⟩ : ∃ m, k = m + 1 := ⟨k - 1, by omega⟩
    simp only [laws_sameAnswers.l0]
    rw [if_neg (by omega)]
  | succ d ih =>
    intro k i hk h0 hi
    obtain ⟨k, rfl⟩ : ∃ m, k = m + 1 := ⟨k - 1, by omega⟩
    simp only [laws_sameAnswers.l0]
    have e : wrap64 (i + 1) = i + 1 := by unfold wrap64; omega
    rw [if_pos (by omega), if_pos h0, if_pos (by omega), if_pos (by omega), if_neg (by simp), e]
    exact ih k (i + 1) (by omega) (by omega) (by omega)
theorem same_f (r : List S46) (hr : r.length ≤ 9223372036854775807) : laws_sameAnswers.f (r.length + 1) r r = some true := by
  unfold laws_sameAnswers.f
  rw [if_pos rfl]
  exact same_eval r hr r.length _ 0 (Nat.le_refl _) (by omega) (by omega)

section
variable (A0 : Option Addr) (c0 : Nat) (l0 : List Int) (A1 : Option Addr) (c1 : Nat) (l1 : List S26) (w : World)
/-- Too long for anything: true. -/
theorem law_long (hm0 : l0.length ≤ 9223372036854775807) (hm1 : l1.length ≤ 9223372036854775807) (h : l0.length > 2147483647 ∨ l1.length > 2147483647) :
    Calls Tryd.prog 3 #[.slice A0 l0.length c0, .slice A1 l1.length c1] w fun e w' => e = .returned (.bool true) ∧ Below w.heap.size w w' := by
  by_cases h0 : l0.length > 2147483647
  · have hd : decide (2147483647 < l0.length) = true := decide_eq_true h0
    have hd' : decide ((2147483647 : Int) < l0.length) = true := decide_eq_true (by omega)
    go_enter Tryd.func3, Tryd.ntmps3
    go_wp2_with (fail)
    go_ret
    exact ⟨rfl, by repeat (first | exact Below.refl _ _ | apply pw_below_drewN)⟩
  · have h1 : l1.length > 2147483647 := by omega
    have hd : decide (2147483647 < l0.length) = false := decide_eq_false h0
    have hd' : decide ((2147483647 : Int) < l0.length) = false := decide_eq_false (by omega)
    have hd1 : decide (2147483647 < l1.length) = true := decide_eq_true h1
    have hd1' : decide ((2147483647 : Int) < l1.length) = true := decide_eq_true (by omega)
    go_enter Tryd.func3, Tryd.ntmps3
    go_wp2_with (fail)
    go_ret
    exact ⟨rfl, by repeat (first | exact Below.refl _ _ | apply pw_below_drewN)⟩

/-- Too many bytes or steps: true. -/
theorem law_many (hr0 : Kd.C (Kd.int .u8) w A0 l0.length l0) (hc0 : l0.length ≤ c0) (hr1 : Kd.C k26 w A1 l1.length l1) (hc1 : l1.length ≤ c1)
    (hm0 : l0.length ≤ 2147483647) (hm1 : l1.length ≤ 2147483647) (h : ¬ (l0.length ≤ 300 ∧ l1.length ≤ 100)) :
    Calls Tryd.prog 3 #[.slice A0 l0.length c0, .slice A1 l1.length c1] w fun e w' => e = .returned (.bool true) ∧ Below w.heap.size w w' := by
  have HS := Aside0.mk (laws_stepsOk.calls 2 (fun _ => True) A0 c0 l0 A1 c1 l1 false w (Kd.V_mk hc0 (F_bytes hr0)) hr1 hc1 (by
    rw [steps_eval]
    congr 1
    by_cases h0 : l0.length ≤ 300
    · rw [decide_eq_true h0, decide_eq_false (fun h1 => h ⟨h0, h1⟩)]; rfl
    · rw [decide_eq_false h0]; rfl))
  clear hr0 hr1 hc0 hc1 h
  have hd : decide (2147483647 < l0.length) = false := decide_eq_false (by omega)
  have hd' : decide ((2147483647 : Int) < l0.length) = false := decide_eq_false (by omega)
  have hd1 : decide (2147483647 < l1.length) = false := decide_eq_false (by omega)
  have hd1' : decide ((2147483647 : Int) < l1.length) = false := decide_eq_false (by omega)
  go_enter Tryd.func3, Tryd.ntmps3
  go_wp2_with (go_at_call 5; refine HS.out.mono ?_; rintro e w' ⟨rfl, hb⟩)
  go_ret
  exact ⟨rfl, hb⟩

set_option maxHeartbeats 1000000 in
theorem law_main (pa : Addr) (hr0 : Kd.C (Kd.int .u8) w A0 l0.length l0) (hc0 : l0.length ≤ c0) (hr1 : Kd.C k26 w A1 l1.length l1) (hc1 : l1.length ≤ c1)
    (hm0 : l0.length ≤ 300) (hm1 : l1.length ≤ 100) (hb : ∀ j, 0 ≤ rd l0 j ∧ rd l0 j ≤ 255) (hg : w.cell? ⟨0, 0, none⟩ = some (.iface 99 (.pointer (some pa)))) :
    Calls Tryd.prog 3 #[.slice A0 l0.length c0, .slice A1 l1.length c1] w fun e w' => e = .returned (.bool true) ∧ Below w.heap.size w w' := by
  have HS := Aside0.mk (laws_stepsOk.calls 2 (fun _ => True) A0 c0 l0 A1 c1 l1 true w (Kd.V_mk hc0 (F_bytes hr0)) hr1 hc1 (by
    rw [steps_eval, decide_eq_true hm0, decide_eq_true hm1]; rfl))
  have HR0 := Aside0.mk hr0
  have HC0 := Aside0.mk hc0
  have HR1 := Aside0.mk hr1
  have HC1 := Aside0.mk hc1
  have HBy := Aside0.mk hb
  have HG := Aside0.mk hg
  clear hr0 hr1 hc0 hc1 hb hg
  have hd : decide (2147483647 < l0.length) = false := decide_eq_false (by omega)
  have hd' : decide ((2147483647 : Int) < l0.length) = false := decide_eq_false (by omega)
  have hd1 : decide (2147483647 < l1.length) = false := decide_eq_false (by omega)
  have hd1' : decide ((2147483647 : Int) < l1.length) = false := decide_eq_false (by omega)
  go_enter Tryd.func3, Tryd.ntmps3
  go_wp2_with (go_at_call 5; refine HS.out.mono ?_; rintro e w1 ⟨rfl, hb⟩; have HB1 := Aside0.mk hb; clear hb)
  clear HS hd hd' hd1 hd1'
  go_loopg [23] l1.length (fun kq v23 w' => ∃ (i : Int), v23 = .int .i64 i ∧ Aside0 (0 ≤ i ∧ i + kq = l1.length ∧ ∀ j : Int, 0 ≤ j → j < i → (rd_T26 l1 j).f0 = 9 → (rd_T26 l1 j).f1 = 0) ∧ Aside0 (Below w.heap.size w w'))
  case atStart => exact ⟨0, rfl, ⟨by omega, by omega, fun j h0 h1 => by omega⟩, HB1⟩
  case round =>
    clear HB1
    obtain ⟨i, rfl, HI, HB⟩ := hrel
    obtain ⟨hi0, hik, _⟩ := HI.out
    by_cases hi : i < l1.length
    · obtain ⟨ad, rfl, hx0, hx1⟩ := at_T26 (Kd.C_below HR1.out HB.out) i hi0 hi
      have HK := Aside0.mk hik
      generalize hkd : (rd_T26 l1 i).f0 = kd at hx0
      generalize hn : (rd_T26 l1 i).f1 = n at hx1
      have HKd := Aside0.mk hkd
      have HN := Aside0.mk hn
      clear hkd hn hik
      have p1 := eq_true hi0
      have q1 := eq_true hi
      by_cases h9 : kd = 9
      · by_cases hn0 : n = 0
        · have t1 : (kd == 9) = true := beq_iff_eq.2 h9
          have t2 : (n != 0) = false := by rw [hn0]; rfl
          have H9 := Aside0.mk h9
          have HN0 := Aside0.mk hn0
          clear h9 hn0
          go_wp2
          go_roundg (gk - 1)
          case measure => have := HK.out; omega
          case rel => exact ⟨i + 1, by go_num, ⟨by omega, by have := HK.out; omega, fun j h0 h1 hj => by
            rcases Int.lt_or_eq_of_le (show j ≤ i by omega) with h2 | h2
            · exact HI.out.2.2 j h0 h2 hj
            · rw [h2, HN.out, HN0.out]⟩, ⟨below_alloc HB.out _⟩⟩
        · have t1 : (kd == 9) = true := beq_iff_eq.2 h9
          have t2 : (n != 0) = true := bne_iff_ne.2 hn0
          clear h9 hn0
          go_wp2
          go_ret
          exact ⟨rfl, below_alloc HB.out _⟩
      · have t1 : (kd == 9) = false := beq_eq_false_iff_ne.2 h9
        have H9 := Aside0.mk h9
        clear h9
        go_wp2
        go_roundg (gk - 1)
        case measure => have := HK.out; omega
        case rel => exact ⟨i + 1, by go_num, ⟨by omega, by have := HK.out; omega, fun j h0 h1 hj => by
          rcases Int.lt_or_eq_of_le (show j ≤ i by omega) with h2 | h2
          · exact HI.out.2.2 j h0 h2 hj
          · rw [h2, HKd.out] at hj
            exact absurd hj H9.out⟩, ⟨below_alloc HB.out _⟩⟩
    · have hi' : decide (i < (l1.length : Int)) = false := decide_eq_false hi
      have h9 : ∀ j : Int, 0 ≤ j → j < l1.length → (rd_T26 l1 j).f0 = 9 → (rd_T26 l1 j).f1 = 0 := fun j h0 h1 => HI.out.2.2 j h0 (by omega)
      obtain ⟨⟨r1, r2⟩, hr⟩ := answers_eval l0 l1 (by omega) HBy.out (by omega) h9 l1.length (l1.length + 11) [] 0 0 0 (Nat.le_refl _) (by omega) (by omega) (by simp; omega) (by omega) (by omega) (by omega)
      have HA := Aside0.mk (show spec_Answers.f (l1.length + 11) l0 l1 = some (r1, r2) from hr)
      have H9 := Aside0.mk h9
      clear h9 hr hik hi0 hi
      go_wp2_with (go_at_call 6; refine (spec_Answers.calls (l1.length + 11) A0 c0 l0 A1 c1 l1 r1 r2 _ (Kd.C_below HR0.out HB.out) HC0.out (Kd.C_below HR1.out HB.out) HC1.out HA.out).mono ?_; rintro e w2 ⟨v2, rfl, hR2, hb2⟩; obtain ⟨A2, c2, rfl, hl2, hC2⟩ := Kd.R_reads hR2; have HB2 := Aside0.mk (below_step HB.out hb2); have HC2 := Aside0.mk hC2; have HL2 := Aside0.mk hl2; clear hR2 hb2 hC2 hl2; cases r2)
      · go_wp2
        go_ret
        exact ⟨rfl, HB2.out⟩
      · go_wp2_with (first
          | (go_at_call 8; refine (run_calls (l1.length + 11) A0 c0 l0 A1 c1 l1 r1 w2 pa (Kd.C_below HR0.out HB2.out) HC0.out (Kd.C_below HR1.out HB2.out) HC1.out hm0 HBy.out (by omega) H9.out ((HB2.out.cell (World.block_lt_of_cell? w _ HG.out)).trans HG.out) HA.out).mono ?_; rintro e w3 ⟨v3, rfl, hR3, hb3⟩; obtain ⟨A3, c3, rfl, hl3, hC3⟩ := Kd.R_reads hR3; have HB3 := Aside0.mk (below_step HB2.out hb3); have HC3 := Aside0.mk hC3; have HL3 := Aside0.mk hl3; have HC2' := Aside0.mk (Kd.C_below HC2.out hb3); clear hR3 hb3 hC3 hl3)
          | (go_at_call 7; refine (laws_sameAnswers.calls (r1.length + 1) A3 c3 r1 A2 c2 r1 true _ HC3.out HL3.out HC2'.out HL2.out (same_f r1 HC3.out.2.1)).mono ?_; rintro e w4 ⟨rfl, hb4⟩))
        go_ret
        exact ⟨rfl, below_step HB3.out hb4⟩
end
end Go.Proofs.YtojgpdphdhcjiaaDoor.InpM
