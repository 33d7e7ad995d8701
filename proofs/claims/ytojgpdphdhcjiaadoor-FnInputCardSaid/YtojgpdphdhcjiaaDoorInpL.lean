/- RunInput: where the reference tells all answers, these are what the reader tells, in the same order. -/
import Derived.Test.YtojgpdphdhcjiaaDoorInpT
import Derived.LaidEql
namespace Go.Proofs.YtojgpdphdhcjiaaDoor.InpM
open Go.RowKit Go.Proofs.YtojgpdphdhcjiaaDoorW.PrintWords Go.Proofs.YtojgpdphdhcjiaaDoorW.PrintLast Go.Proofs.YtojgpdphdhcjiaaDoorW.PrintMore
open PFnInput Brow
set_option linter.unusedVariables false
set_option linter.unusedSimpArgs false

theorem info99 : Tryd.prog.info? 99 = some Tryd.t99 := by kernel_rfl
theorem comp99 : Tryd.t99.comparable = true := by kernel_rfl
theorem info115 : Tryd.prog.info? 115 = some Tryd.t115 := by kernel_rfl

set_option maxHeartbeats 8000000 in
set_option maxRecDepth 100000 in
theorem run_calls (k : Nat) (A0 : Option Addr) (c0 : Nat) (l0 : List Int) (A1 : Option Addr) (c1 : Nat) (l1 : List S26) (r1 : List S46) (w : World) (pa : Addr)
    (hr0 : Kd.C (Kd.int .u8) w A0 l0.length l0) (hc0 : l0.length ≤ c0) (hr1 : Kd.C k26 w A1 l1.length l1) (hc1 : l1.length ≤ c1)
    (hl : l0.length ≤ 300) (hb : ∀ j, 0 ≤ rd l0 j ∧ rd l0 j ≤ 255) (hl1 : l1.length ≤ 1000) (h9 : ∀ i : Int, 0 ≤ i → i < l1.length → (rd_T26 l1 i).f0 = 9 → (rd_T26 l1 i).f1 = 0)
    (hg : w.cell? ⟨0, 0, none⟩ = some (.iface 99 (.pointer (some pa)))) (h : spec_Answers.f k l0 l1 = some (r1, true)) :
    Calls Tryd.prog 8 #[.slice A0 l0.length c0, .slice A1 l1.length c1] w fun e w' => ∃ v, e = .returned v ∧ Kd.R k46 46 w' w.heap.size (fun _ => True) v r1 ∧ Below w.heap.size w w' := by
  have HR0 := Aside0.mk hr0
  have HR1 := Aside0.mk hr1
  have HC1 := Aside0.mk hc1
  have HL := Aside0.mk hl
  have HBy := Aside0.mk hb
  have HL1 := Aside0.mk hl1
  have H9 := Aside0.mk h9
  have HG := Aside0.mk hg
  have HH := Aside0.mk (show spec_Answers.l0 k l0 [] l1 (l1.length : Int) 0 0 0 = some (r1, true) from h)
  clear hr0 hr1 hc0 hc1 hb h9 hg h hl
  go_enter Tryd.func8, Tryd.ntmps8
  go_wp2_with (fail)
  refine (own_calls A0 c0 l0 w HR0.out (by have := HL.out; omega)).mono ?_
  rintro e w1 ⟨v1, rfl, hv1, hb1⟩
  have HV1 := Aside0.mk hv1
  have HB1 := Aside0.mk hb1
  clear hv1 hb1
  go_wp2_with (fail)
  refine (new_calls v1 l0 w.heap.size w1 HB1.out.size HV1.out (by have := HL.out; omega)).mono ?_
  rintro e w2 ⟨gz, rfl, hv2, hb2⟩
  obtain ⟨gb, cap, cur, F, hx⟩ := hv2
  have HX := Aside0.mk (show RdrAt w2 w.heap.size gz gb cap cur F (l0 ++ [0]) 0 0 from hx)
  have HB2 := Aside0.mk (HB1.out.trans hb2)
  clear hx hb2 HB1 HV1
  go_wp2_with ((with_reducible refine gate_dst (N := 15) rfl ?_); refine Kd.R_lit k46 (w0 := w) w.heap.size 46 ?hg (N := 15) ?hd (xs := ([] : List (S46))) (inner := []) (ok := fun _ => True) (okp := fun _ => True) ?hr ?hp (fun _ hk => hk) trivial HB2.out HB2.out.size (by simp) ?_; (case hd => rfl); (case hg => rfl); (case hr => first | (go_simp; done) | (go_simp; rfl)); (case hp => exact (Reps.none _ _)); intro v3 w3 ho3 hb3 hg3 hn3; have HS := Aside0.mk (show St w w3 gz gb cap cur F (l0 ++ [0]) 0 0 v3 [] from ⟨HX.out.move (hg3.block _ (blk_lt HX.out.1) (by simp)) (hg3.block _ (blk_lt HX.out.2.1) (by simp)), ho3, hb3⟩); clear ho3 hb3 hg3 hn3 HX HB2)
  go_loopg [6, 18] k (fun kq v6 v18 w' => ∃ (x6 : List S46) (i b a : Int), v18 = .int .i64 i ∧ Aside0 (spec_Answers.l0 kq l0 x6 l1 (l1.length : Int) i b a = some (r1, true)) ∧ Aside0 (0 ≤ i ∧ 0 ≤ b ∧ b ≤ a ∧ a ≤ l0.length) ∧ Aside0 (St w w' gz gb cap cur F (l0 ++ [0]) a b v6 x6))
  case atStart => exact ⟨[], 0, 0, 0, rfl, HH, ⟨by omega, by omega, by omega, by omega⟩, HS⟩
  case round =>
    clear HS HH
    obtain ⟨x6, i, b, a, rfl, HA, HI, HS⟩ := hrel
    cases gk with
    | zero => exact absurd HA.out (by simp [spec_Answers.l0])
    | succ k1 =>
      by_cases hi : i < l1.length
      · obtain ⟨b', a', num, sz, txt, hstep, g1, g2, g3, hx6, hrest⟩ := answers_round l0 l1 (by have := HL.out; omega) HBy.out (by have := HL1.out; omega) H9.out k1 x6 i b a r1 HI.out.1 hi HI.out.2.1 HI.out.2.2.1 HI.out.2.2.2 HA.out
        have hi0 := HI.out.1
        obtain ⟨ad, rfl, hx0, hx1⟩ := at_T26 (Kd.C_below HR1.out HS.out.2.2) i hi0 hi
        have h9i := Aside0.mk (H9.out i hi0 hi)
        generalize (rd_T26 l1 i).f0 = kd at hstep hx0 h9i
        generalize (rd_T26 l1 i).f1 = n at hstep hx1 h9i
        have HStep := Aside0.mk hstep
        have HRest := Aside0.mk hrest
        have HG3 := Aside0.mk (And.intro g1 (And.intro g2 g3))
        have HX6 := Aside0.mk hx6
        have p1 := eq_true hi0
        have q1 := eq_true hi
        clear hstep hrest g1 g2 g3 hx6 HA
        go_upto_block 2 with (fail)
        have HM := Aside0.mk (HS.out.begin kd n (wr.heap.size + 1) rfl)
        generalize wr.heap.size = gs at HM ⊢
        generalize ((wr.alloc (Obj.cells #[Value.int IntKind.i64 kd, Value.int IntKind.i64 n] 26)).alloc (Obj.cells #[Value.int IntKind.i64 0, Value.int IntKind.i64 0, Value.string { data := #[] }] 46)) = wq at HM ⊢
        go_cut [8] (fun v8 wc => v8 = .pointer (some ⟨gs, 0, none⟩) ∧ Aside0 (Mid w wc gz gb cap cur F (l0 ++ [0]) a' b' u6 x6 gs (gs + 1) kd n num sz txt))
        case first =>
          clear HRest HX6
          have hI := HI.out
          obtain ⟨hI0, hI1, hI2, hI3⟩ := hI
          have hz := HM.out.1.1
          have hcap := HM.out.1.2.2.2.2.1
          have e1 : (l0 ++ [(0 : Int)]).length = l0.length + 1 := by simp
          have hlb := HL.out
          have cs1 : wq.cell? ⟨gs, 1, none⟩ = some (.int .i64 n) := (blk_cell HM.out.2.2.2.1 1).trans rfl
          have ca0 : wq.cell? ⟨gs + 1, 0, none⟩ = some (.int .i64 0) := (blk_cell HM.out.2.2.2.2.1 0).trans rfl
          have ca1 : wq.cell? ⟨gs + 1, 1, none⟩ = some (.int .i64 0) := (blk_cell HM.out.2.2.2.2.1 1).trans rfl
          have ca2 : wq.cell? ⟨gs + 1, 2, none⟩ = some (.string ⟨#[]⟩) := (blk_cell HM.out.2.2.2.2.1 2).trans rfl
          have fa0 := blk_frozen HM.out.2.2.2.2.1 0
          have fa1 := blk_frozen HM.out.2.2.2.2.1 1
          have fa2 := blk_frozen HM.out.2.2.2.2.1 2
          have HI' := Aside0.mk (And.intro hI0 (And.intro hI1 (And.intro hI2 hI3)))
          have HC := Aside0.mk (And.intro hcap (And.intro e1 hlb))
          have HZ := Aside0.mk hz
          clear hI0 hI1 hI2 hI3 hz hcap e1 hlb hi0 hi p1 q1 hx0 hx1
          rcases HStep.out with h | h | h | h | h | h | h | h | h | h | h | h | h
          · obtain ⟨rfl, rfl, e2, rfl, rfl, rfl, hn1, hn2⟩ := h
            clear ca0 ca1 ca2 fa0 fa1 fa2 h9i
            have E2 := Aside0.mk e2
            have EN := Aside0.mk (And.intro hn1 hn2)
            clear e2 hn1 hn2 HStep
            go_wp2_with (go_at_call 18; refine (move_calls gz _ F a _ n wq HZ.out).mono ?_; rintro e w' ⟨rfl, rfl⟩)
            go_meet
            case rel => exact ⟨rfl, ⟨by
              have h2 := HM.out.setPos (wrap64 (a + n))
              rw [w64 (a + n) (by have := EN.out; have := HI'.out; have := HC.out; omega) (by have := EN.out; have := HI'.out; have := HC.out; omega), ← E2.out] at h2 ⊢
              exact h2⟩⟩
          · obtain ⟨rfl, rfl, e2, rfl, rfl, rfl, hn1, hn2⟩ := h
            clear ca0 ca1 ca2 fa0 fa1 fa2 h9i
            have E2 := Aside0.mk e2
            have EN := Aside0.mk (And.intro hn1 hn2)
            clear e2 hn1 hn2 HStep
            go_wp2_with (go_at_call 19; refine (rewind_calls gz _ F a b' n wq HZ.out).mono ?_; rintro e w' ⟨rfl, rfl⟩)
            go_meet
            case rel => exact ⟨rfl, ⟨by
              have h2 := HM.out.setPos (wrap64 (b' + n))
              rw [w64 (b' + n) (by have := EN.out; have := HI'.out; have := HC.out; omega) (by have := EN.out; have := HI'.out; have := HC.out; omega), ← E2.out] at h2 ⊢
              exact h2⟩⟩
          · obtain ⟨rfl, e1, e2, rfl, rfl, e5⟩ := h
            subst e1 e2
            clear ca0 ca1 fa0 fa1 h9i HStep
            obtain ⟨i0, hi0, _, hsz, _⟩ := info_parts info5
            obtain ⟨A', hcut, hcon⟩ := cut3 (P := Tryd.prog) 22 5 Tryd.underlying22 hi0 hsz (some ⟨gb, 0, none⟩) cap (l0 ++ [0]) b a' HI'.out.2.1 HI'.out.2.2.1 (by have := HI'.out; have := HC.out; omega) HC.out.1
            have HCut := Aside0.mk hcut
            have HCon := Aside0.mk hcon
            have E5 := Aside0.mk e5
            clear hcut hcon e5 hi0 hsz
            go_wp2_with (go_at_call 20; refine (shift_calls gz gb F a' b (l0 ++ [0]) cap wq HZ.out A' HCut.out).mono ?_; rintro e w' ⟨rfl, nd, rfl⟩; have HM' := Aside0.mk ((HM.out.drewN nd).setSt a'); have hcv := cut3_str (c := a'.toNat - b.toNat) (HCon.out _ (HM'.out.1.reads (by have := HC.out; omega))); have da2 : ((wq.drewN nd).setCell ⟨gz, 2, none⟩ (.int .i64 a')).cell? ⟨gs + 1, 2, none⟩ = some (.string ⟨#[]⟩) := (blk_cell HM'.out.2.2.2.2.1 2).trans rfl; have dfa2 := blk_frozen HM'.out.2.2.2.2.1 2)
            go_meet
            case rel => exact ⟨rfl, ⟨by
              rw [E5.out]
              have h2 := HM'.out.setA 2 (.string (strOfNums (((l0 ++ [0]).take a'.toNat).drop b.toNat))) 0 0 _ rfl
              rw [List.take_append_of_le_length (by have := HI'.out; omega)] at h2 ⊢
              exact h2⟩⟩
          · obtain ⟨rfl, e1, e2, rfl, rfl, rfl⟩ := h
            subst e1 e2
            clear ca0 ca1 ca2 fa0 fa1 fa2 h9i HStep
            go_wp2_with (go_at_call 21; refine (skip_calls gz _ F a' b wq HZ.out).mono ?_; rintro e w' ⟨rfl, rfl⟩)
            go_meet
            case rel => exact ⟨rfl, ⟨HM.out.setSt a'⟩⟩
          · obtain ⟨rfl, e1, e2, e3, rfl, rfl, hn1, hn2⟩ := h
            subst e1 e2
            clear ca1 ca2 fa1 fa2 h9i HStep
            have hw : wrap64 (n + a') = a' + n := by rw [w64 (n + a') (by have := HC.out; omega) (by have := HC.out; omega)]; omega
            have hpk := peek_calls gz gb F a' b' (l0 ++ [0]) cap wq HZ.out n (HM.out.1.byte) (by rw [hw]; exact hn1) (by rw [hw]; have := HC.out; omega)
            rw [hw, ← e3] at hpk
            have HPk := Aside0.mk hpk
            have hn0 : 0 ≤ num ∧ num < 256 := by
              rw [e3]
              have := HBy.out (a' + n)
              rcases Int.lt_or_eq_of_le hn2 with h | h
              · rw [rd_snoc l0 _ hn1 h]; omega
              · rw [rd_last l0 _ h]; omega
            obtain ⟨hn3, hn4⟩ := hn0
            clear hw hpk e3 hn1 hn2
            go_wp2_with (go_at_call 22; refine HPk.out.mono ?_; rintro e w' ⟨rfl, nd, rfl⟩)
            go_meet
            case rel => exact ⟨rfl, ⟨(HM.out.drewN nd).setA 0 (.int .i64 num) num 0 _ rfl⟩⟩
          · obtain ⟨rfl, e1, e2, e3, rfl, rfl, hn1, hn2⟩ := h
            subst e1 e2
            clear ca1 ca2 fa1 fa2 h9i HStep
            have hw : wrap64 (a' + n) = a' + n := w64 (a' + n) (by have := HC.out; omega) (by have := HC.out; omega)
            have hg0 : wq.cell? ⟨0, 0, none⟩ = some (.iface 99 (.pointer (some pa))) := (HM.out.2.2.1.cell (World.block_lt_of_cell? w _ HG.out)).trans HG.out
            have heq : ∀ W : World, (binOp .eql 57 (.iface 99 (.pointer (some pa))) (.iface 99 (.pointer (some pa)))).run Tryd.prog W = .ok (.bool true) W := fun W => run_eql_iface_ptr_same W pa Tryd.underlying57 Tryd.underlying99 info99 comp99 info115
            have hne : ∀ W : World, (binOp .eql 57 .nilIface (.iface 99 (.pointer (some pa)))).run Tryd.prog W = .ok (.bool false) W := fun W => run_eql_iface_nil_left W 99 _ Tryd.underlying57
            by_cases hlt : a' + n = l0.length
            · rw [if_pos hlt] at e3
              subst e3
              have HPk := Aside0.mk (show ∀ W : World, W.heap = wq.heap → Calls Tryd.prog 24 #[.pointer (some ⟨gz, 0, none⟩), .int .i64 n] W fun e w' => e = .returned (.iface 99 (.pointer (some pa))) ∧ Drawn0 W w' from fun W hW =>
                peekErr_eof_calls gz gb F a' b' (l0 ++ [0]) cap W (by rw [hW]; exact HZ.out) n 99 (.pointer (some pa)) ((World.cell?_of_block (by rw [hW])).trans hg0) (eq_true (by rw [hw]; have := HC.out; omega)) (by have := HC.out; omega))
              clear hw hn1 hn2 hlt
              go_wp2_with (fail)
              go_region_with (first | (go_at_call 24; refine (HPk.out _ ?_).mono ?_; rfl; rintro e w' ⟨rfl, nd, rfl⟩) | (go_at_call 23; refine (PFnInput.impl_truth.calls true 1 _ rfl).mono ?_; rintro e w' ⟨rfl, nd2, rfl⟩))
              all_goals go_wp2
              all_goals go_meet
              all_goals exact ⟨rfl, ⟨(HM.out.drewN (1 + nd + nd2)).setA 0 (.int .i64 1) 1 0 _ rfl⟩⟩
            · rw [if_neg hlt] at e3
              subst e3
              have HPk := Aside0.mk (show ∀ W : World, W.heap = wq.heap → Calls Tryd.prog 24 #[.pointer (some ⟨gz, 0, none⟩), .int .i64 n] W fun e w' => e = .returned .nilIface ∧ Drawn0 W w' from fun W hW =>
                peekErr_nil_calls gz gb F a' b' (l0 ++ [0]) cap W (by rw [hW]; exact HZ.out) n (eq_false (by rw [hw]; have := HC.out; omega)) (by have := HC.out; omega))
              clear hw hn1 hn2 hlt
              go_wp2_with (fail)
              go_region_with (first | (go_at_call 24; refine (HPk.out _ ?_).mono ?_; rfl; rintro e w' ⟨rfl, nd, rfl⟩) | (go_at_call 23; refine (PFnInput.impl_truth.calls false 0 _ rfl).mono ?_; rintro e w' ⟨rfl, nd2, rfl⟩))
              all_goals go_wp2
              all_goals go_meet
              all_goals exact ⟨rfl, ⟨(HM.out.drewN (1 + nd + nd2)).setA 0 (.int .i64 0) 0 0 _ rfl⟩⟩
          · obtain ⟨rfl, e1, e2, rfl, rfl, e5⟩ := h
            subst e1 e2
            clear ca0 ca1 fa0 fa1 h9i HStep
            obtain ⟨i0, hi0, _, hsz, _⟩ := info_parts info5
            obtain ⟨A', hcut, hcon⟩ := cut3 (P := Tryd.prog) 22 5 Tryd.underlying22 hi0 hsz (some ⟨gb, 0, none⟩) cap (l0 ++ [0]) b' a' HI'.out.2.1 HI'.out.2.2.1 (by have := HI'.out; have := HC.out; omega) HC.out.1
            have HCut := Aside0.mk hcut
            have HCon := Aside0.mk hcon
            have E5 := Aside0.mk e5
            clear hcut hcon e5 hi0 hsz
            go_wp2_with (go_at_call 25; refine (lexeme_calls gz gb F a' b' (l0 ++ [0]) cap wq HZ.out A' HCut.out).mono ?_; rintro e w' ⟨rfl, nd, rfl⟩; have HM' := Aside0.mk (HM.out.drewN nd); have hcv := cut3_str (c := a'.toNat - b'.toNat) (HCon.out _ (HM'.out.1.reads (by have := HC.out; omega))))
            go_meet
            case rel => exact ⟨rfl, ⟨by
              rw [E5.out]
              have h2 := HM'.out.setA 2 (.string (strOfNums (((l0 ++ [0]).take a'.toNat).drop b'.toNat))) 0 0 _ rfl
              rw [List.take_append_of_le_length (by have := HI'.out; omega)] at h2 ⊢
              exact h2⟩⟩
          · obtain ⟨rfl, e1, e2, e3, rfl, rfl⟩ := h
            subst e1 e2
            clear ca1 ca2 fa1 fa2 h9i HStep
            have hps := pos_calls gz _ F a' b' wq HZ.out
            rw [w64 (a' - b') (by have := HI'.out; have := HC.out; omega) (by have := HI'.out; have := HC.out; omega), ← e3] at hps
            have HPs := Aside0.mk hps
            clear hps e3
            go_wp2_with (go_at_call 26; refine HPs.out.mono ?_; rintro e w' ⟨rfl, nd, rfl⟩)
            go_meet
            case rel => exact ⟨rfl, ⟨(HM.out.drewN nd).setA 0 (.int .i64 num) num 0 _ rfl⟩⟩
          · obtain ⟨rfl, e1, e2, e3, rfl, rfl⟩ := h
            subst e1 e2
            clear ca1 ca2 fa1 fa2 h9i HStep
            have hps := offset_calls gz _ F a' b' wq HZ.out
            rw [← e3] at hps
            have HPs := Aside0.mk hps
            clear hps e3
            go_wp2_with (go_at_call 27; refine HPs.out.mono ?_; rintro e w' ⟨rfl, nd, rfl⟩)
            go_meet
            case rel => exact ⟨rfl, ⟨(HM.out.drewN nd).setA 0 (.int .i64 num) num 0 _ rfl⟩⟩
          · obtain ⟨rfl, e1, e2, hrn, rfl⟩ := h
            subst e1 e2
            obtain ⟨p, rfl⟩ := Int.eq_ofNat_of_zero_le (show 0 ≤ a' from by have := HI'.out; omega)
            obtain ⟨q, rfl⟩ := Int.eq_ofNat_of_zero_le HI'.out.2.1
            obtain rfl := h9i.out rfl
            clear ca2 fa2 h9i HStep cs1
            have cs1 : wq.cell? ⟨gs, 1, none⟩ = some (.int .i64 0) := (blk_cell HM.out.2.2.2.1 1).trans rfl
            obtain ⟨hpk, hn1, hn2⟩ := peekRune_ok gz gb F p q l0 cap wq HZ.out HM.out.1.byte HC.out.2.2 HBy.out num sz hrn
            have HPk := Aside0.mk hpk
            clear hpk hrn
            go_wp2_with (go_at_call 28; refine HPk.out.mono ?_; rintro e w' ⟨rfl, nd, rfl⟩)
            go_meet
            case rel => exact ⟨rfl, ⟨((HM.out.drewN nd).setA 0 (.int .i64 num) num 0 ⟨#[]⟩ rfl).setA 1 (.int .i64 sz) num sz ⟨#[]⟩ rfl⟩⟩
          · obtain ⟨rfl, e1, rfl, rfl, rfl, r, m, hrn, e2⟩ := h
            subst e1
            obtain ⟨p, rfl⟩ := Int.eq_ofNat_of_zero_le (show 0 ≤ a from by have := HI'.out; omega)
            obtain ⟨q, rfl⟩ := Int.eq_ofNat_of_zero_le HI'.out.2.1
            clear ca0 ca1 ca2 fa0 fa1 fa2 h9i HStep
            have HMv := Aside0.mk (moveRune_ok gz gb F p q l0 cap wq HZ.out HM.out.1.byte HC.out.2.2 r m hrn)
            have E2 := Aside0.mk e2
            clear hrn e2
            go_wp2_with (go_at_call 29; refine HMv.out.mono ?_; rintro e w' ⟨rfl, nd, rfl⟩)
            go_meet
            case rel => exact ⟨rfl, ⟨by rw [E2.out]; exact (HM.out.drewN nd).setPos _⟩⟩
          · obtain ⟨rfl, rfl, rfl, rfl, rfl, rfl⟩ := h
            clear ca0 ca1 ca2 fa0 fa1 fa2 h9i HStep
            go_wp2_with (go_at_call 30; refine (reset_calls gz _ F a b wq HZ.out).mono ?_; rintro e w' ⟨rfl, rfl⟩)
            go_meet
            case rel => exact ⟨rfl, ⟨(HM.out.setSt 0).setPos 0⟩⟩
          · obtain ⟨hk, e1, e2, rfl, rfl, rfl⟩ := h
            subst e1 e2
            clear ca0 ca1 ca2 fa0 fa1 fa2 h9i HStep
            have t0 : (kd == 0) = false := beq_eq_false_iff_ne.2 (by omega)
            have t1 : (kd == 1) = false := beq_eq_false_iff_ne.2 (by omega)
            have t2 : (kd == 2) = false := beq_eq_false_iff_ne.2 (by omega)
            have t3 : (kd == 3) = false := beq_eq_false_iff_ne.2 (by omega)
            have t4 : (kd == 4) = false := beq_eq_false_iff_ne.2 (by omega)
            have t5 : (kd == 5) = false := beq_eq_false_iff_ne.2 (by omega)
            have t6 : (kd == 6) = false := beq_eq_false_iff_ne.2 (by omega)
            have t7 : (kd == 7) = false := beq_eq_false_iff_ne.2 (by omega)
            have t8 : (kd == 8) = false := beq_eq_false_iff_ne.2 (by omega)
            have t9 : (kd == 9) = false := beq_eq_false_iff_ne.2 (by omega)
            have t10 : (kd == 10) = false := beq_eq_false_iff_ne.2 (by omega)
            have t11 : (kd == 11) = false := beq_eq_false_iff_ne.2 (by omega)
            clear hk
            go_wp2
            go_meet
            case rel => exact ⟨rfl, HM⟩
        case rest =>
          clear HM HStep h9i HS
          obtain ⟨rfl, HM⟩ := hcut
          have hL := HM.out.2.2.2.2.1
          have ca0 : wc.cell? ⟨gs + 1, 0, none⟩ = some (.int .i64 num) := (blk_cell hL 0).trans rfl
          have ca1 : wc.cell? ⟨gs + 1, 1, none⟩ = some (.int .i64 sz) := (blk_cell hL 1).trans rfl
          have ca2 : wc.cell? ⟨gs + 1, 2, none⟩ = some (.string txt) := (blk_cell hL 2).trans rfl
          clear hL
          go_wp2_with (at_builtin; refine Kd.R_append k46 (w0 := w) (W := wc) w.heap.size rfl (.tmp 103) (.tmp 105) 27 46 (.agg #[(.int .i64 0), (.int .i64 0), (.string ⟨#[]⟩)]) 32 rfl Tryd.underlying27 info46 rfl (by decide) (by omega) u6 x6 (⟨num, sz, txt⟩ : S46) [.int .i64 num, .int .i64 sz, .string txt] (fun k_ => k_ ≠ gs + 1) (fun _ => False) rfl rfl ?aP (fun _ hk => hk.elim) ?aF HM.out.2.1 HM.out.2.2.1 HM.out.2.2.1.size ?aL ?_; (case aP => exact k46_mkM _ _ _ (⟨num, sz, txt⟩ : S46)); (case aF => exact (fun k_ hk => by have := blk_lt HM.out.2.2.2.2.1; omega)); (case aL => have := HX6.out; omega); intro v5 w5 ho hbb hgg hat; have HS5 := Aside0.mk (show St w w5 gz gb cap cur F (l0 ++ [0]) a' b' v5 (x6 ++ [⟨num, sz, txt⟩]) from ⟨HM.out.1.move (hgg.block _ (blk_lt HM.out.1.1) (Kd.R_ne HM.out.2.1 HM.out.1.1 (by decide))) (hgg.block _ (blk_lt HM.out.1.2.1) (Kd.R_ne HM.out.2.1 HM.out.1.2.1 (by decide))), Kd.R_mono ho (fun _ _ => trivial), hbb⟩); clear ho hbb hgg hat)
          go_roundg k1
          case measure => omega
          case rel => exact ⟨x6 ++ [⟨num, sz, txt⟩], i + 1, b', a', by go_num, HRest, ⟨by have := HI.out; have := HG3.out; omega⟩, HS5⟩
      · have he := answers_end l0 l1 k1 x6 i b a r1 hi HA.out
        have HE := Aside0.mk he
        clear he
        have hi' : decide (i < (l1.length : Int)) = false := decide_eq_false hi
        clear hi
        go_wp2
        go_ret
        exact ⟨_, rfl, by rw [← HE.out]; exact HS.out.2.1, HS.out.2.2⟩
end Go.Proofs.YtojgpdphdhcjiaaDoor.InpM
