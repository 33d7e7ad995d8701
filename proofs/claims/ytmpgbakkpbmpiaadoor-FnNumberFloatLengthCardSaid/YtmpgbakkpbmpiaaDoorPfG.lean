/- ParseFloat, the call. -/
import Derived.Test.YtmpgbakkpbmpiaaDoorPfF
namespace Go.Proofs.YtmpgbakkpbmpiaaDoor.PFl
open Go.RowKit Go.Proofs.YtmpgbakkpbmpiaaDoorW.PrintWords Go.Proofs.YtmpgbakkpbmpiaaDoorW.PrintLast Go.Proofs.YtmpgbakkpbmpiaaDoorW.PrintMore
open NumL
set_option linter.unusedVariables false
set_option linter.unusedSimpArgs false

set_option maxHeartbeats 4000000 in
set_option maxRecDepth 100000 in
/-- ParseFloat over a whole number: some float, and all of the bytes. -/
theorem parse_calls (w : World) (A : Option Addr) (c : Nat) (l : List Int) (s d1 dl : Nat) (hr : Kd.C (Kd.int .u8) w A l.length l) (hc : l.length ≤ c) (hl : l.length ≤ 40) (hS : Shape l s d1 dl)
    (he : dl < l.length → ∃ k v, PFnNumberFloatLength.tdstrconv_ParseInt.f k (l.drop (dl + 1)) = some (v, (l.length : Int) - dl - 1) ∧ dl + 1 < l.length)
    (ht : Tab.Tabs w) (h0 : ∀ i < 23, ∃ y, w.cell? ⟨0, i, none⟩ = some (.float .f64 y)) :
    Calls Tryd.prog 18 #[.slice A l.length c] w fun e w' => ∃ y, e = .returned (.tuple #[.float .f64 y, .int .i64 l.length]) ∧ Drawn0 w w' := by
  have HR := Aside0.mk hr
  have HC := Aside0.mk hc
  have HL := Aside0.mk hl
  have HS := Aside0.mk hS
  have HE := Aside0.mk he
  have HT := Aside0.mk ht
  have H0 := Aside0.mk h0
  clear hr hc hl hS he ht h0
  go_enter Tryd.func18, Tryd.ntmps18
  go_upto_region 3 with (fail)
  go_cut [38] (fun v38 wc => v38 = .bool (decide (s = 1)) ∧ Drawn0 w wc)
  case first => as_aux_lemma =>
    have hp : (0 : Int) < l.length := by have := HS.out.pos; omega
    obtain ⟨ad, rfl, hx⟩ := Kd.at_int HR.out 0 (by omega) hp
    rw [show ((0 : Int)).toNat = 0 from rfl, Addr.add_zero'] at hx
    have q := eq_true hp
    have q' : decide ((0 : Int) < (l.length : Int)) = true := decide_eq_true hp
    have q2 : (0 < l.length) = True := eq_true (by omega)
    clear hp
    rcases HS.out.sg with ⟨rfl, a, b⟩ | ⟨rfl, a⟩ | ⟨rfl, a, b⟩
    · have a' : (rd l 0 == 43) = false := beq_eq_false_iff_ne.mpr a
      have b' : (rd l 0 == 45) = false := beq_eq_false_iff_ne.mpr b
      clear a b
      go_wp2
      go_meet
      case rel => exact ⟨by simp, by repeat (first | exact Drawn0.refl _ | apply Drawn0.step)⟩
    · have a' : (rd l 0 == 43) = true := beq_iff_eq.mpr a
      clear a
      go_wp2
      go_meet
      case rel => exact ⟨by simp, by repeat (first | exact Drawn0.refl _ | apply Drawn0.step)⟩
    · have a' : (rd l 0 == 43) = false := beq_eq_false_iff_ne.mpr a
      have b' : (rd l 0 == 45) = true := beq_iff_eq.mpr b
      clear a b
      go_wp2
      go_meet
      case rel => exact ⟨by simp, by repeat (first | exact Drawn0.refl _ | apply Drawn0.step)⟩
  case rest => as_aux_lemma =>
    obtain ⟨rfl, ⟨m1, rfl⟩⟩ := hcut
    go_upto_if 38 with (fail)
    go_cut [4, 5] (fun v4 v5 wc => v4 = .int .i64 s ∧ (∃ b, v5 = .bool b) ∧ Drawn0 w wc)
    case first => as_aux_lemma =>
      have hp : (0 : Int) < l.length := by have := HS.out.pos; omega
      obtain ⟨ad, rfl, hx⟩ := Kd.at_int HR.out 0 (by omega) hp
      rw [show ((0 : Int)).toNat = 0 from rfl, Addr.add_zero'] at hx
      have q := eq_true hp
      have q' : decide ((0 : Int) < (l.length : Int)) = true := decide_eq_true hp
      have q2 : (0 < l.length) = True := eq_true (by omega)
      clear hp
      obtain rfl | rfl : s = 0 ∨ s = 1 := by rcases HS.out.sg with ⟨rfl, a, b⟩ | ⟨rfl, a⟩ | ⟨rfl, a, b⟩ <;> simp
      · go_wp2
        go_meet
        case rel => exact ⟨by simp, ⟨_, rfl⟩, by repeat (first | exact Drawn0.refl _ | apply Drawn0.step)⟩
      · go_wp2
        go_meet
        case rel => exact ⟨by simp, ⟨_, rfl⟩, by repeat (first | exact Drawn0.refl _ | apply Drawn0.step)⟩
    case rest => as_aux_lemma =>
      obtain ⟨rfl, ⟨b, rfl⟩, ⟨m2, rfl⟩⟩ := hcut
      go_upto_block 0 with (fail)
      go_cut [4, 7, 8, 9] (fun v4 v7 v8 v9 wc => v4 = .int .i64 dl ∧ v7 = .int .i64 (if d1 < dl then (d1 : Int) else -1) ∧ (∃ x, v8 = .int .i64 x) ∧ (∃ x, v9 = .int .u64 x) ∧ Drawn0 w wc)
      case first => as_aux_lemma =>
        go_wp2
        go_loopg [4, 7, 8, 9] (dl - s) (fun kq v4 v7 v8 v9 w' => ∃ (i : Nat), v4 = .int .i64 i ∧ v7 = .int .i64 (if d1 < i then (d1 : Int) else -1) ∧ (∃ x, v8 = .int .i64 x) ∧ (∃ x, v9 = .int .u64 x) ∧ Aside0 (s ≤ i ∧ i + kq = dl) ∧ Drawn0 w w')
        case atStart => exact ⟨s, rfl, by rw [if_neg (by have := HS.out.le; omega)], ⟨_, rfl⟩, ⟨_, rfl⟩, ⟨by omega, by have := HS.out.le; omega⟩, by repeat (first | exact Drawn0.refl _ | apply Drawn0.step)⟩
        case round => as_aux_lemma =>
          obtain ⟨i, rfl, rfl, ⟨x8, rfl⟩, ⟨x9, rfl⟩, HI, ⟨m3, rfl⟩⟩ := hrel
          by_cases hi : i < l.length
          · obtain ⟨ad, rfl, hx⟩ := Kd.at_int HR.out (i : Int) (by omega) (by omega)
            have q := eq_true (show ((i : Int)) < l.length by omega)
            have q0 := eq_true (show (0 : Int) ≤ (i : Int) by omega)
            have q' : decide ((i : Int) < (l.length : Int)) = true := decide_eq_true (by omega)
            have q2 : (i < l.length) = True := eq_true (by omega)
            rw [Int.toNat_natCast] at hx
            by_cases hk : gk = 0
            · -- the end of the number
              have hid : i = dl := by have := HI.out; omega
              subst hid
              have hfin := HS.out.fin hi
              have a1 : decide (48 ≤ rd l (i : Int)) = true := decide_eq_true (by omega)
              have a2 : decide (rd l (i : Int) ≤ 57) = false := decide_eq_false (by omega)
              have a3 : (rd l (i : Int) == 46) = false := beq_eq_false_iff_ne.mpr (by omega)
              clear hfin
              by_cases hd : d1 < i
              · rw [if_pos hd]
                have a4 : ((d1 : Int) == -1) = false := beq_eq_false_iff_ne.mpr (by omega)
                go_wp2
                go_meet
                case rel => exact ⟨rfl, by rw [if_pos hd], ⟨_, rfl⟩, ⟨_, rfl⟩, by repeat (first | exact Drawn0.refl _ | apply Drawn0.step)⟩
              · rw [if_neg hd]
                go_wp2
                go_meet
                case rel => exact ⟨rfl, by rw [if_neg hd], ⟨_, rfl⟩, ⟨_, rfl⟩, by repeat (first | exact Drawn0.refl _ | apply Drawn0.step)⟩
            · obtain ⟨k1, rfl⟩ : ∃ k1, gk = k1 + 1 := ⟨gk - 1, by omega⟩
              have hw : wrap64 ((i : Int) + 1) = ((i + 1 : Nat) : Int) := by have := HL.out; simp only [wrap64]; omega
              by_cases hdt : i = d1
              · subst hdt
                have a0 : rd l (i : Int) = 46 := by
                  rcases HS.out.dot with ⟨a, b⟩ | ⟨a, b⟩
                  · have := HI.out; omega
                  · exact a
                rw [a0] at hx
                rw [if_neg (by omega)]
                go_wp2
                go_roundg k1
                case measure => omega
                case rel => exact ⟨i + 1, by simp [hw], by rw [if_pos (by omega)], ⟨_, rfl⟩, ⟨_, rfl⟩, ⟨by have := HI.out; omega, by have := HI.out; omega⟩, by repeat (first | exact Drawn0.refl _ | apply Drawn0.step)⟩
              · have hdg := HS.out.dig i (by have := HI.out; omega) (by have := HI.out; omega) hdt
                have hif : (if d1 < i then (d1 : Int) else -1) = (if d1 < i + 1 then (d1 : Int) else -1) := by
                  by_cases h : d1 < i
                  · rw [if_pos h, if_pos (by omega)]
                  · rw [if_neg h, if_neg (by omega)]
                rw [hif]
                generalize hx7 : (if d1 < i + 1 then (d1 : Int) else -1) = x7
                replace hx7 := Aside0.mk hx7
                have a1 : decide (48 ≤ rd l (i : Int)) = true := decide_eq_true (by omega)
                have a2 : decide (rd l (i : Int) ≤ 57) = true := decide_eq_true (by omega)
                by_cases h8 : x8 = -1
                · have h8' : (x8 == -1) = true := beq_iff_eq.mpr h8
                  clear h8
                  rcases Bool.eq_false_or_eq_true (decide (1844674407370955161 < x9)) with c1 | c1
                  · go_wp2
                    go_roundg k1
                    case measure => omega
                    case rel => exact ⟨i + 1, by simp [hw], by rw [hx7.out], ⟨_, rfl⟩, ⟨_, rfl⟩, ⟨by have := HI.out; omega, by have := HI.out; omega⟩, by repeat (first | exact Drawn0.refl _ | apply Drawn0.step)⟩
                  · rcases Bool.eq_false_or_eq_true (decide ((18446744073709551615 - (rd l (i : Int) - 48)) < (IntKind.u64.wrap (x9 * 10)))) with c2 | c2
                    · go_wp2
                      go_roundg k1
                      case measure => omega
                      case rel => exact ⟨i + 1, by simp [hw], by rw [hx7.out], ⟨_, rfl⟩, ⟨_, rfl⟩, ⟨by have := HI.out; omega, by have := HI.out; omega⟩, by repeat (first | exact Drawn0.refl _ | apply Drawn0.step)⟩
                    · go_wp2
                      go_roundg k1
                      case measure => omega
                      case rel => exact ⟨i + 1, by simp [hw], by rw [hx7.out], ⟨_, rfl⟩, ⟨_, rfl⟩, ⟨by have := HI.out; omega, by have := HI.out; omega⟩, by repeat (first | exact Drawn0.refl _ | apply Drawn0.step)⟩
                · have h8' : (x8 == -1) = false := beq_eq_false_iff_ne.mpr h8
                  clear h8
                  go_wp2
                  go_roundg k1
                  case measure => omega
                  case rel => exact ⟨i + 1, by simp [hw], by rw [hx7.out], ⟨_, rfl⟩, ⟨_, rfl⟩, ⟨by have := HI.out; omega, by have := HI.out; omega⟩, by repeat (first | exact Drawn0.refl _ | apply Drawn0.step)⟩
          · have hid : i = dl := by have := HI.out; have := HS.out.le; omega
            subst hid
            have q' : decide ((i : Int) < (l.length : Int)) = false := decide_eq_false (by omega)
            generalize hx7 : (if d1 < i then (d1 : Int) else -1) = x7
            replace hx7 := Aside0.mk hx7
            go_wp2
            go_meet
            case rel => exact ⟨rfl, by rw [hx7.out], ⟨_, rfl⟩, ⟨_, rfl⟩, by repeat (first | exact Drawn0.refl _ | apply Drawn0.step)⟩
      case rest => as_aux_lemma =>
        obtain ⟨rfl, rfl, ⟨x8, rfl⟩, ⟨x9, rfl⟩, ⟨m3, rfl⟩⟩ := hcut
        have b2 : dl = s + 1 → ((if d1 < dl then (d1 : Int) else -1) == (s : Int)) = false := by
          intro h
          refine beq_eq_false_iff_ne.mpr ?_
          have := HS.out.dot; have := HS.out.le
          split <;> omega
        generalize (if d1 < dl then (d1 : Int) else -1) = x7 at b2 ⊢
        have HB2 := Aside0.mk b2
        clear b2
        go_upto_region 21 with (fail)
        go_cut [104] (fun v104 wc => v104 = .bool false ∧ Drawn0 w wc)
        case first => as_aux_lemma =>
          have b1 : ((dl : Int) == (s : Int)) = false := beq_eq_false_iff_ne.mpr (by have := HS.out.dot; have := HS.out.le; omega)
          have hw1 : wrap64 ((s : Int) + 1) = (s : Int) + 1 := by have := HL.out; have := HS.out.le; simp only [wrap64]; omega
          by_cases hds : dl = s + 1
          · have b3 : ((dl : Int) == (s : Int) + 1) = true := beq_iff_eq.mpr (by omega)
            have b2 := HB2.out hds
            clear hds
            go_wp2
            go_meet
            case rel => exact ⟨rfl, by repeat (first | exact Drawn0.refl _ | apply Drawn0.step)⟩
          · have b3 : ((dl : Int) == (s : Int) + 1) = false := beq_eq_false_iff_ne.mpr (by omega)
            clear hds
            go_wp2
            go_meet
            case rel => exact ⟨rfl, by repeat (first | exact Drawn0.refl _ | apply Drawn0.step)⟩
        case rest => as_aux_lemma =>
          clear HB2
          obtain ⟨rfl, ⟨m4, rfl⟩⟩ := hcut
          go_upto_if 104 with (fail)
          go_cut [2, 3] (fun v2 v3 wc => Aside0 (Drawn0 w wc))
          case first => as_aux_lemma =>
            go_wp2
            go_meet
            case rel => exact ⟨by repeat (first | exact Drawn0.refl _ | apply Drawn0.step)⟩
          case rest => as_aux_lemma =>
            have hw2 := hcut.out
            refine use_k (by assumption) ?_
            exact part10 w _ l hw2 HT.out H0.out HR.out HC.out HL.out HS.out HE.out
end Go.Proofs.YtmpgbakkpbmpiaaDoor.PFl
