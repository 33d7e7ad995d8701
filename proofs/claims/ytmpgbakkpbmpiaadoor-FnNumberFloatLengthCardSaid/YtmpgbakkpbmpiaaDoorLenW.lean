/- FnNumberFloatLength, walked. -/
import Derived.Test.YtmpgbakkpbmpiaaDoorOwn
import Derived.Test.YtmpgbakkpbmpiaaDoorNumL
import Derived.Test.YtmpgbakkpbmpiaaDoorTab
import Derived.Test.YtmpgbakkpbmpiaaDoorPFnNumberFloatLengthx1
import Derived.WalkSpells
namespace Go.Proofs.YtmpgbakkpbmpiaaDoor.LenW
open Go.RowKit Go.Proofs.YtmpgbakkpbmpiaaDoorW.PrintWords Go.Proofs.YtmpgbakkpbmpiaaDoorW.PrintLast Go.Proofs.YtmpgbakkpbmpiaaDoorW.PrintMore
open NumL PFnNumberFloatLength Brow
set_option linter.unusedVariables false
set_option linter.unusedSimpArgs false

def T0 (w : World) : Prop := ∀ i < 23, ∃ y, w.cell? ⟨0, i, none⟩ = some (.float .f64 y)
theorem T0.below {w w' : World} (h : T0 w) (hb : Below w.heap.size w w') : T0 w' := fun i hi => by
  obtain ⟨y, hy⟩ := h i hi
  exact ⟨y, cell_later hb hy⟩
theorem tabs_below {w w' : World} (h : Tab.Tabs w) (hb : Below w.heap.size w w') : Tab.Tabs w' :=
  ⟨fun i hi => cell_later hb (h.t3 i hi), fun i hi => cell_later hb (h.t4 i hi), fun i hi => cell_later hb (h.t5 i hi)⟩
theorem few_lit {W : World} {A : Option Addr} {c : Nat} {l : List Int} (hr : Kd.C (Kd.int .u8) W A l.length l) (hc : l.length ≤ c) :
    Kd.C (Kd.slice 5 (Kd.int .u8)) (W.alloc (.cells #[.slice A l.length c] 22)) (some ⟨W.heap.size, 0, none⟩) [l].length [l] := by
  refine ⟨rfl, by simp, fun _ => ⟨_, rfl, fun j p hj => ?_⟩⟩
  obtain rfl : j = 0 := by
    have := (List.getElem?_eq_some_iff.1 hj).1
    simpa using this
  obtain rfl : l = p := by simpa using hj
  refine ⟨[.slice A l.length c], rfl, ⟨A, c, rfl, hc, Kd.C_alloc hr _⟩, fun i u hu => ?_⟩
  match i, hu with
  | 0, hu =>
    have : u = .slice A l.length c := by simpa using hu.symm
    subst this
    simp only [Nat.zero_mul, Nat.add_zero, Addr.add_zero']
    simp only [World.cell?, heap_alloc_new]
    rfl
  | i + 1, hu => simp at hu

section
variable (w : World) (A : Option Addr) (c : Nat) (l : List Int)
theorem read_calls (s d1 dl : Nat)
    (parse : ∀ (w : World) (A : Option Addr) (c : Nat), Kd.C (Kd.int .u8) w A l.length l → l.length ≤ c → Tab.Tabs w → T0 w → Calls Tryd.prog 18 #[.slice A l.length c] w fun e w' => ∃ y, e = .returned (.tuple #[.float .f64 y, .int .i64 l.length]) ∧ Drawn0 w w')
    (hr : Kd.C (Kd.int .u8) w A l.length l) (hl : l.length ≤ 40) (ht : Tab.Tabs w) (h0 : T0 w) :
    Calls Tryd.prog 8 #[.slice A l.length c] w fun e w' => ∃ y, e = .returned (.tuple #[.float .f64 y, .int .i64 l.length]) ∧ Below w.heap.size w w' := by
  have HR := Aside0.mk hr
  have HT := Aside0.mk ht
  have H0 := Aside0.mk h0
  have HP := Aside0.mk parse
  clear hr ht h0 parse
  go_enter Tryd.func8, Tryd.ntmps8
  go_wp2_with (fail)
  refine (own_calls A c l w HR.out (by omega)).mono ?_
  rintro e w1 ⟨v1, rfl, hv1, hb1⟩
  obtain ⟨A2, c2, rfl, hc2, hr2⟩ := hv1.reads
  have HQ := Aside0.mk (HP.out w1 A2 c2 hr2 hc2 (tabs_below HT.out hb1) (H0.out.below hb1))
  have HB := Aside0.mk hb1
  clear hv1 hc2 hr2 hb1 HP
  go_wp2_with (fail)
  refine HQ.out.mono ?_
  rintro e w2 ⟨y, rfl, hd⟩
  have HD := Aside0.mk hd
  clear hd HQ
  go_wp2_with (fail)
  go_ret2
  obtain ⟨n, rfl⟩ := HD.out
  exact ⟨_, rfl, pw_below_drewN HB.out n⟩
/-- Too long for anything: true. -/
theorem law_long (h : l.length > 2147483647) : Calls Tryd.prog 3 #[.slice A l.length c] w fun e w' => e = .returned (.bool true) ∧ Below w.heap.size w w' := by
  have hd : decide (2147483647 < l.length) = true := decide_eq_true h
  have hd' : decide ((2147483647 : Int) < l.length) = true := decide_eq_true (by omega)
  have hd2 := eq_true (show (2147483647 : Int) < l.length by omega)
  go_enter Tryd.func3, Tryd.ntmps3
  go_wp2_with (fail)
  go_ret
  exact ⟨rfl, by repeat (first | exact Below.refl _ _ | apply pw_below_drewN)⟩
/-- Where the last mark stands: the length as long as there is none. -/
def Mark (i : Nat) (m : Int) : Prop := (m = l.length ∧ ∀ j : Nat, j < i → ¬ (rd l j = 101 ∨ rd l j = 69)) ∨ ∃ j : Nat, m = j ∧ j < i ∧ (rd l j = 101 ∨ rd l j = 69)
set_option maxHeartbeats 1000000 in
theorem law_main (hr : Kd.C (Kd.int .u8) w A l.length l) (hc : l.length ≤ c) (hl : l.length ≤ 2147483647) (ht : Tab.Tabs w) (h0 : T0 w)
    (read : ∀ m : Int, Mark l l.length m → l.length - m ≤ 12 → l.length ≤ 40 → ∀ (w : World), Kd.C (Kd.int .u8) w A l.length l → Tab.Tabs w → T0 w → (∃ n : Int, n = l.length ∧ n ≠ 0 ∧ ∀ k, l.length + 3 ≤ k → spec_NumberLength.f k l = some n) → Calls Tryd.prog 8 #[.slice A l.length c] w fun e w' => ∃ y, e = .returned (.tuple #[.float .f64 y, .int .i64 l.length]) ∧ Below w.heap.size w w') :
    Calls Tryd.prog 3 #[.slice A l.length c] w fun e w' => e = .returned (.bool true) ∧ Below w.heap.size w w' := by
  obtain ⟨n, hn, hn0, hn1, -⟩ := number_tot l hl
  have HN := Aside0.mk (spec_NumberLength.calls (l.length + 3) A c l n w hr hc (hn _ (Nat.le_refl _)))
  have HNe := Aside0.mk hn
  have HR := Aside0.mk hr
  have HC := Aside0.mk hc
  have HL := Aside0.mk hl
  have HT := Aside0.mk ht
  have H0 := Aside0.mk h0
  have HRd := Aside0.mk read
  have hd : decide (2147483647 < l.length) = false := decide_eq_false (by omega)
  have hd' : decide ((2147483647 : Int) < l.length) = false := decide_eq_false (by omega)
  clear hr hc hl ht h0 read hn
  go_enter Tryd.func3, Tryd.ntmps3
  go_upto_block 0 with (go_at_call 6; refine HN.out.mono ?_; rintro e w' ⟨rfl, ⟨nd, rfl⟩⟩)
  go_cut [4] (fun v4 wc => (∃ m, v4 = .int .i64 m ∧ Aside0 (Mark l l.length m)) ∧ Drawn0 w wc)
  case first =>
    go_wp2
    go_loopg [4, 18] (l.length) (fun kq v4 v18 w' => ∃ (i : Nat), v18 = .int .i64 i ∧ (∃ m, v4 = .int .i64 m ∧ Aside0 (Mark l i m)) ∧ Aside0 (i + kq = l.length) ∧ Drawn0 w w')
    case atStart => exact ⟨0, rfl, ⟨_, rfl, ⟨.inl ⟨rfl, by omega⟩⟩⟩, ⟨by omega⟩, by repeat (first | exact Drawn0.refl _ | apply Drawn0.step)⟩
    case round =>
      obtain ⟨i, rfl, ⟨m, rfl, HM⟩, HI, ⟨m3, rfl⟩⟩ := hrel
      cases gk with
      | zero =>
        have hi : i = l.length := by have := HI.out; omega
        subst hi
        have q' : decide ((l.length : Int) < (l.length : Int)) = false := decide_eq_false (by omega)
        go_wp2
        go_meet
        case rel => exact ⟨⟨_, rfl, HM⟩, by repeat (first | exact Drawn0.refl _ | apply Drawn0.step)⟩
      | succ k1 =>
        have hlt : i < l.length := by have := HI.out; omega
        obtain ⟨ad, rfl, hx⟩ := Kd.at_int HR.out (i : Int) (by omega) (by omega)
        have q := eq_true (show ((i : Int)) < l.length by omega)
        have q0 := eq_true (show (0 : Int) ≤ (i : Int) by omega)
        have q' : decide ((i : Int) < (l.length : Int)) = true := decide_eq_true (by omega)
        have q2 : (i < l.length) = True := eq_true (by omega)
        have hw : wrap64 ((i : Int) + 1) = ((i + 1 : Nat) : Int) := by have := HL.out; simp only [wrap64]; omega
        rw [Int.toNat_natCast] at hx
        have hhit : rd l (i : Int) = 101 ∨ rd l (i : Int) = 69 → Mark l (i + 1) (i : Int) := fun h => .inr ⟨i, rfl, by omega, h⟩
        have hmiss : ¬ (rd l (i : Int) = 101 ∨ rd l (i : Int) = 69) → Mark l (i + 1) m := fun h => by
          rcases HM.out with ⟨a, b⟩ | ⟨j, a, b, c⟩
          · exact .inl ⟨a, fun j hj => by by_cases e : j = i; · rw [e]; exact h
                                          · exact b j (by omega)⟩
          · exact .inr ⟨j, a, by omega, c⟩
        have HH := Aside0.mk hhit
        have HMi := Aside0.mk hmiss
        clear hhit hmiss hlt
        rcases Bool.eq_false_or_eq_true (rd l (i : Int) == 101) with a1 | a1
        · go_wp2
          go_roundg k1
          case measure => omega
          case rel => exact ⟨i + 1, by simp [hw], ⟨_, rfl, ⟨HH.out (.inl (beq_iff_eq.mp a1))⟩⟩, ⟨by have := HI.out; omega⟩, by repeat (first | exact Drawn0.refl _ | apply Drawn0.step)⟩
        · rcases Bool.eq_false_or_eq_true (rd l (i : Int) == 69) with a2 | a2
          · go_wp2
            go_roundg k1
            case measure => omega
            case rel => exact ⟨i + 1, by simp [hw], ⟨_, rfl, ⟨HH.out (.inr (beq_iff_eq.mp a2))⟩⟩, ⟨by have := HI.out; omega⟩, by repeat (first | exact Drawn0.refl _ | apply Drawn0.step)⟩
          · go_wp2
            go_roundg k1
            case measure => omega
            case rel => exact ⟨i + 1, by simp [hw], ⟨_, rfl, ⟨HMi.out (by have := beq_eq_false_iff_ne.mp a1; have := beq_eq_false_iff_ne.mp a2; omega)⟩⟩, ⟨by have := HI.out; omega⟩, by repeat (first | exact Drawn0.refl _ | apply Drawn0.step)⟩
  case rest =>
    obtain ⟨⟨m, rfl, HM⟩, ⟨nd2, rfl⟩⟩ := hcut
    clear HN
    go_upto_region 10 with (fail)
    have HF := Aside0.mk (show ∀ r, decide (l.length ≤ 300) = r → Calls Tryd.prog 7 #[.slice (some ⟨w.heap.size, 0, none⟩) 1 1] ((w.drewN nd2).alloc (.cells #[.slice A l.length c] 22)) (fun e w' => e = .returned (.bool r) ∧ Drawn0 ((w.drewN nd2).alloc (.cells #[.slice A l.length c] 22)) w') from
      fun r hrf => laws_fewBytes.calls 3 (some ⟨w.heap.size, 0, none⟩) 1 [l] r _ (few_lit (c := c) (Kd.C_drewN HR.out nd2) HC.out) (Nat.le_refl _) (by rw [few_tot l HL.out, hrf]))
    have HLe := Aside0.mk (And.intro hn0 hn1)
    clear hn0 hn1
    by_cases h300 : l.length ≤ 300
    · have HF2 := Aside0.mk (HF.out true (decide_eq_true h300))
      clear HF h300
      rcases Bool.eq_false_or_eq_true (n == 0) with a1 | a1
      · go_wp2_with (go_at_call 7; refine HF2.out.mono ?_; rintro e w' ⟨rfl, ⟨nd3, rfl⟩⟩)
        go_ret
        exact ⟨rfl, by repeat (first | exact Below.refl _ _ | (refine pw_below_drewN ?_ _) | (refine below_alloc ?_ _))⟩
      rcases Bool.eq_false_or_eq_true (decide (40 < n)) with a2 | a2
      · go_wp2_with (go_at_call 7; refine HF2.out.mono ?_; rintro e w' ⟨rfl, ⟨nd3, rfl⟩⟩)
        go_ret
        exact ⟨rfl, by repeat (first | exact Below.refl _ _ | (refine pw_below_drewN ?_ _) | (refine below_alloc ?_ _))⟩
      rcases Bool.eq_false_or_eq_true (decide (n < (l.length : Int))) with a3 | a3
      · go_wp2_with (go_at_call 7; refine HF2.out.mono ?_; rintro e w' ⟨rfl, ⟨nd3, rfl⟩⟩)
        go_ret
        exact ⟨rfl, by repeat (first | exact Below.refl _ _ | (refine pw_below_drewN ?_ _) | (refine below_alloc ?_ _))⟩
      have hnl : n = (l.length : Int) := by have := of_decide_eq_false a3; have := HLe.out; omega
      have h40 := of_decide_eq_false a2
      have hne : n ≠ 0 := beq_eq_false_iff_ne.mp a1
      have hw : wrap64 ((l.length : Int) - m) = (l.length : Int) - m := by
        have := HL.out
        rcases HM.out with ⟨a, b⟩ | ⟨j, a, b, c⟩ <;> (simp only [wrap64]; omega)
      obtain ⟨d, hd⟩ : ∃ d, (l.length : Int) - m = d := ⟨_, rfl⟩
      replace hw := hw.trans hd
      have HD := Aside0.mk hd
      have HNL := Aside0.mk (And.intro hnl (And.intro h40 hne))
      clear hd hnl h40 hne
      rcases Bool.eq_false_or_eq_true (decide (12 < d)) with a4 | a4
      · go_wp2_with (go_at_call 7; refine HF2.out.mono ?_; rintro e w' ⟨rfl, ⟨nd3, rfl⟩⟩)
        go_ret
        exact ⟨rfl, by repeat (first | exact Below.refl _ _ | (refine pw_below_drewN ?_ _) | (refine below_alloc ?_ _))⟩
      have h12 := of_decide_eq_false a4
      have HRC := Aside0.mk (HRd.out m HM.out (by have := HD.out; omega) (by have := HNL.out; omega))
      have hnb : ((l.length : Int) == n) = true := beq_iff_eq.mpr HNL.out.1.symm
      clear h12
      go_wp2_with (first | (go_at_call 7; refine HF2.out.mono ?_; rintro e w' ⟨rfl, ⟨nd3, rfl⟩⟩) | (go_at_call 8; refine (HRC.out _ (by first | exact Kd.C_drewN (Kd.C_alloc (Kd.C_drewN HR.out _) _) _) (tabs_below HT.out (by repeat (first | exact Below.refl _ _ | (refine pw_below_drewN ?_ _) | (refine below_alloc ?_ _)))) (H0.out.below (by repeat (first | exact Below.refl _ _ | (refine pw_below_drewN ?_ _) | (refine below_alloc ?_ _)))) ⟨n, HNL.out.1, HNL.out.2.2, HNe.out⟩).mono ?_; rintro e w' ⟨y, rfl, hbw⟩))
      go_ret
      exact ⟨rfl, below_step (by repeat (first | exact Below.refl _ _ | (refine pw_below_drewN ?_ _) | (refine below_alloc ?_ _))) hbw⟩
    · have HF2 := Aside0.mk (HF.out false (decide_eq_false h300))
      clear HF h300
      go_wp2_with (go_at_call 7; refine HF2.out.mono ?_; rintro e w' ⟨rfl, ⟨nd3, rfl⟩⟩)
      go_ret
      exact ⟨rfl, by repeat (first | exact Below.refl _ _ | (refine pw_below_drewN ?_ _) | (refine below_alloc ?_ _))⟩
end
end Go.Proofs.YtmpgbakkpbmpiaaDoor.LenW
