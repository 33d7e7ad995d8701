/- FnEntityEach, the law walked. -/
import Derived.Test.YtojgpdphdhcjiaaDoorEntX
namespace Go.Proofs.YtojgpdphdhcjiaaDoor.Ent
open Go.RowKit Go.Proofs.YtojgpdphdhcjiaaDoorW.PrintWords Go.Proofs.YtojgpdphdhcjiaaDoorW.PrintLast Go.Proofs.YtojgpdphdhcjiaaDoorW.PrintMore
open PFnEntityEach Go.Lib Brow Go.Maps
set_option linter.unusedVariables false
set_option linter.unusedSimpArgs false

theorem fits2_any (l : List S63) : ∃ r : Bool, laws_zzFits2.f (l.length + 1) l = some r ∧ (r = true → l.length ≤ 2147483647 ∧ ∀ j : Nat, j < l.length → (rd_T63 l j).f0.size ≤ 2147483647 ∧ (rd_T63 l j).f1.size ≤ 2147483647) := by
  by_cases h : l.length ≤ 9000000000000000
  · exact fits2 l h
  · exact ⟨false, by unfold laws_zzFits2.f; rw [if_pos (by omega)], fun h => by cases h⟩
theorem fits1_any (l : List (List Int)) : ∃ r : Bool, laws_zzFits1.f (l.length + 1) l = some r ∧ (r = true → l.length ≤ 2147483647 ∧ ∀ j : Nat, j < l.length → (rd_L3 l j).length ≤ 2147483647) := by
  by_cases h : l.length ≤ 9000000000000000
  · exact fits1 l h
  · exact ⟨false, by unfold laws_zzFits1.f; rw [if_pos (by omega)], fun h => by cases h⟩
theorem due_short {l : List S63} {segs : List (List Int × S63)} (hg : ∀ i : Nat, i < l.length → Good l i) (hs : ∀ s ∈ segs, (38 : Int) ∉ s.1 ∧ ∃ k : Nat, k < l.length ∧ s.2 = rd_T63 l k) (h : (txt segs).length ≤ 1200) : (due segs).length ≤ 1200 := by
  have := due_len segs (fun s hx => by obtain ⟨k, hk, he⟩ := (hs s hx).2; rw [he]; exact (hg k hk).v0.2)
  omega
set_option maxHeartbeats 2000000 in
set_option maxRecDepth 100000 in
theorem law (w : World) (Al Ap Ao : Option Addr) (cl cp co : Nat) (l : List S63) (ps : List (List Int)) (os : List Int) (hrl : Kd.C k63 w Al l.length l) (hcl : l.length ≤ cl)
    (hrp : Kd.C (Kd.slice 5 (Kd.int .u8)) w Ap ps.length ps) (hcp : ps.length ≤ cp) (hro : Kd.C (Kd.int .i64) w Ao os.length os) (hco : os.length ≤ co) :
    Calls Tryd.prog 4 #[.slice Al l.length cl, .slice Ap ps.length cp, .slice Ao os.length co] w fun e w' => e = .returned (.bool true) ∧ Below w.heap.size w w' := by
  obtain ⟨r1, hr1, hp1⟩ := fits2_any l
  obtain ⟨r2, hr2, hp2⟩ := fits1_any ps
  have HF2 := Aside0.mk (laws_zzFits2.calls _ Al cl l r1 w hrl hcl hr1)
  have HF1 := Aside0.mk (fun (W : World) h => laws_zzFits1.calls _ Ap cp ps r2 W h hcp hr2)
  have HP := Aside0.mk (And.intro hrl (And.intro hcl (And.intro hrp (And.intro hcp (And.intro hro (And.intro hco (And.intro hp1 hp2)))))))
  clear hr1 hr2 hp1 hp2 hrl hcl hrp hcp hro hco
  go_enter Tryd.func4, Tryd.ntmps4
  go_upto_region 1 with (fail)
  go_cut [22] (fun v22 wc => ∃ b, v22 = .bool b ∧ Aside0 ((b = false → r1 = true ∧ r2 = true ∧ os.length ≤ 2147483647) ∧ Below w.heap.size w wc))
  case first =>
    cases r1
    all_goals cases r2
    all_goals rcases Bool.eq_false_or_eq_true (decide (2147483647 < (os.length : Int))) with c3 | c3
    all_goals go_wp2_with (first
      | (go_at_call 9; refine (HF2.out).mono ?_; rintro e w1 ⟨rfl, hb⟩; have H1 := Aside0.mk hb; clear hb)
      | (go_at_call 10; refine (HF1.out w1 (Kd.C_below HP.out.2.2.1 H1.out)).mono ?_; rintro e w2 ⟨rfl, ⟨nd, rfl⟩⟩))
    all_goals go_meet
    all_goals first
      | exact ⟨true, rfl, ⟨(fun h => by cases h), by first | exact H1.out | exact pw_below_drewN H1.out _⟩⟩
      | exact ⟨false, rfl, ⟨(fun _ => ⟨by simp, by simp, by have := of_decide_eq_false c3; omega⟩), by first | exact H1.out | exact pw_below_drewN H1.out _⟩⟩
      | exact ⟨_, rfl, ⟨(fun h => ⟨by simp, by simp, by have := of_decide_eq_false h; omega⟩), by first | exact H1.out | exact pw_below_drewN H1.out _⟩⟩
  case rest =>
    obtain ⟨b, rfl, HB⟩ := hcut
    cases b with
    | true =>
      go_wp2_with (fail)
      go_ret
      exact ⟨rfl, HB.out.2⟩
    | false =>
      obtain ⟨x1, x2, x3⟩ := HB.out.1 (by simp)
      have y1 := HP.out.2.2.2.2.2.2.1 x1
      have y2 := HP.out.2.2.2.2.2.2.2 x2
      have HT := Aside0.mk (text_calls wc Al Ap Ao cl cp co l ps os (Kd.C_below HP.out.1 HB.out.2) HP.out.2.1 y1.1 y1.2 (Kd.C_below HP.out.2.2.1 HB.out.2) HP.out.2.2.2.1 y2.1 (Kd.C_below HP.out.2.2.2.2.1 HB.out.2) HP.out.2.2.2.2.2.1 x3)
      clear x1 x2 x3 y1 y2 HF1 HF2
      go_upto_region 4 with (go_at_call 11; refine (HT.out).mono ?_; rintro e w2 ⟨⟨v1, v2, ok, rfl, hmk⟩, hb2⟩; have H2 := Aside0.mk (And.intro hmk hb2); clear hmk hb2)
      cases ok with
      | false =>
        go_wp2_with (fail)
        go_ret
        exact ⟨by simp, HB.out.2.trans (H2.out.2.mono HB.out.2.size)⟩
      | true =>
        obtain ⟨m1, m2, segs, m3, ⟨A1, c1, rfl, m4, m5⟩, ⟨A2, c2, rfl, m6, m7⟩, m8⟩ := H2.out.1 rfl
        have HE := Aside0.mk (ents_calls w2 A1 Al c1 cl (txt segs).length (txt segs) l segs m5 rfl (by omega) rfl (Kd.C_below (Kd.C_below HP.out.1 HB.out.2) H2.out.2) HP.out.2.1 m1 m2 m8)
        have HS := Aside0.mk (fun (W : World) A c h1 h2 h3 => spec_SameBytes.calls _ A c (due segs) A2 c2 (due segs) true W h1 h2 h3 m6 (same (due segs) (by have := due_short m2 m8 m3; omega)))
        have HM := Aside0.mk m7
        clear m1 m2 m3 m4 m5 m6 m7 m8 HT
        go_wp2_with (first
          | (go_at_call 13; refine (HE.out).mono ?_; rintro e w3 ⟨v3, rfl, h3, hb3⟩; obtain ⟨A3, c3, rfl, h4, h5⟩ := h3.reads; have H3 := Aside0.mk (And.intro h4 (And.intro h5 hb3)); clear h3 h4 h5 hb3)
          | (go_at_call 12; refine (HS.out w3 A3 c3 H3.out.2.1 H3.out.1 (Kd.C_below HM.out H3.out.2.2)).mono ?_; rintro e w4 ⟨rfl, ⟨nd, rfl⟩⟩))
        go_ret
        have hs := HB.out.2.size
        exact ⟨by simp, pw_below_drewN ((HB.out.2.trans (H2.out.2.mono hs)).trans (H3.out.2.2.mono (Nat.le_trans hs H2.out.2.size))) _⟩
end Go.Proofs.YtojgpdphdhcjiaaDoor.Ent
