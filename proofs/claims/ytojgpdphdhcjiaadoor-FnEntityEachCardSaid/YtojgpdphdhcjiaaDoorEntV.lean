/- impl.Entities, walked. -/
import Derived.Test.YtojgpdphdhcjiaaDoorEntU
namespace Go.Proofs.YtojgpdphdhcjiaaDoor.Ent
open Go.RowKit Go.Proofs.YtojgpdphdhcjiaaDoorW.PrintWords Go.Proofs.YtojgpdphdhcjiaaDoorW.PrintLast Go.Proofs.YtojgpdphdhcjiaaDoorW.PrintMore
open PFnEntityEach Go.Lib Brow Go.Maps
set_option linter.unusedVariables false
set_option linter.unusedSimpArgs false
set_option maxHeartbeats 400000 in
theorem own_calls (A : Option Addr) (c : Nat) (l : List Int) (w : World) (hr : Kd.C (Kd.int .u8) w A l.length l) (hl : l.length ≤ 140737488355328) :
    Calls Tryd.prog 17 #[.slice A l.length c] w fun e w' => ∃ v, e = .returned v ∧ Bs 5 w' w.heap.size v l ∧ Below w.heap.size w w' := by
  have HR := Aside0.mk hr
  have HL := Aside0.mk hl
  clear hr hl
  go_enter Tryd.func17, Tryd.ntmps17
  go_wp2_with (at_builtin; refine wpList_append _ rfl (.tmp 3) (.tmp 4) 22 5 w.heap.size rfl Tryd.underlying22 PFnEntityEach.info5 (.slice (some ⟨w.heap.size, 0, none⟩) 0 0) [] rfl ?c1 A c l rfl ?c2 ?c3 ?c4 ?_; (case c1 => exact ⟨w.heap.size, [], rfl, Nat.le_refl _, heap_alloc_new w _, by simp, by simp [maxLen], rfl⟩); (case c2 => exact Kd.C_below HR.out (below_alloc (Below.refl _ _) _)); (case c3 => simpa using HL.out); (case c4 => simp); intro v' w' hv hg hat; have HV := Aside0.mk hv; have HG := Aside0.mk hg; clear hv hg hat)
  go_ret
  refine ⟨_, rfl, by simpa using HV.out, ?_⟩
  exact ((Below.refl _ _).alloc (Nat.le_refl _) _).grown HG.out (by simp) (fun k hk => by simp [Value.ownBlock] at hk; omega)
theorem good_ok {w : World} {B bm : Nat} {D : DataW Value} {l : List S63} {k : Nat} (h : Good l k) (he : Entry w B bm D (rd_T63 l k)) : EOk w B bm D (rd_T63 l k) := by
  refine ⟨he, h.n0, fun t ht => ?_, h.v0, h.amp⟩
  rcases h.tok t ht with h1 | ⟨-, h1 | h1⟩
  · exact .inl h1
  · exfalso
    apply h.dash
    rw [← h1, ← ba_rd _ t ht]
    exact rd_mem (by rw [ba_len]; exact ht)
  · exact .inr h1
theorem due_len : ∀ segs : List (List Int × S63), (∀ s ∈ segs, s.2.f1.size ≤ s.2.f0.size + 2) → (due segs).length ≤ (txt segs).length
  | [], _ => by simp [due, txt]
  | s :: r, h => by
    have h1 := due_len r (fun x hx => h x (List.mem_cons_of_mem _ hx))
    have h2 := h s (List.mem_cons_self ..)
    have h3 := ba_len s.2.f1
    have h4 := mid_len s.2.f0
    simp only [due, txt, List.length_append]
    omega
set_option maxHeartbeats 2000000 in
theorem ents_calls (w : World) (A Al : Option Addr) (c cl L : Nat) (tx : List Int) (l : List S63) (segs : List (List Int × S63)) (hr : Kd.C (Kd.int .u8) w A tx.length tx) (htx : tx = txt segs) (hmx : tx.length ≤ 1000000) (hL : L = tx.length)
    (hrl : Kd.C k63 w Al l.length l) (hcl : l.length ≤ cl) (hl8 : l.length ≤ 8) (hgd : ∀ i : Nat, i < l.length → Good l i) (hsegs : ∀ s ∈ segs, (38 : Int) ∉ s.1 ∧ ∃ k : Nat, k < l.length ∧ s.2 = rd_T63 l k) :
    Calls Tryd.prog 13 #[.slice A L c, .slice Al l.length cl] w fun e w' => ∃ v, e = .returned v ∧ Bs 5 w' w.heap.size v (due segs) ∧ Below w.heap.size w w' := by
  subst hL
  have HOwn := Aside0.mk (own_calls A c tx w hr (by omega))
  have HTab := Aside0.mk (fun (W : World) h => table_calls W Al cl l h hcl hl8 hgd)
  have HP := Aside0.mk (And.intro htx (And.intro hmx (And.intro hrl (And.intro hgd hsegs))))
  clear hr htx hmx hrl hcl hl8 hgd hsegs
  have hmm := @run_makeMap Tryd.prog
  go_enter Tryd.func13, Tryd.ntmps13
  go_wp2_with (first
    | (go_at_call 17; refine (HOwn.out).mono ?_; rintro e w1 ⟨v, rfl, hv, hb⟩; obtain ⟨g, full, rfl, hg, hrow, hle, hcm, htk⟩ := hv; have H1 := Aside0.mk (And.intro hb (And.intro hg (And.intro hrow (And.intro hle (And.intro hcm htk))))); clear hb hg hrow hle hcm htk)
    | (go_at_call 36; refine (HTab.out w1 (Kd.C_below HP.out.2.2.1 H1.out.1)).mono ?_; rintro e w2 ⟨D, rfl, h1, h2, h3⟩; have H2 := Aside0.mk (And.intro h1 (And.intro h2 h3)); clear h1 h2 h3)
    | (go_at_call 35; refine (all_calls _ g w1.heap.size w1.heap.size w2.heap.size l.length tx.length full.length full segs D ?a1 rfl H1.out.2.2.2.2.1 ?a2 ?a3 H1.out.2.2.2.1 HP.out.2.1 ?a4 (World.ownsMap_made _ _ _ _) ?a5 ?a6 ?a7 ?a8).mono ?_; (case a1 => exact (H1.out.2.2.1.belowAll H2.out.2.2).alloc _); (case a2 => rw [HP.out.1]); (case a3 => rw [H1.out.2.2.2.2.2]; exact HP.out.1); (case a4 => exact H2.out.1.alloc _); (case a5 => exact H1.out.2.2.1.lt); (case a6 => exact Nat.ne_of_lt H1.out.2.2.1.lt); (case a7 => exact Nat.ne_of_lt (H1.out.2.2.1.belowAll H2.out.2.2).lt); (case a8 => exact fun s hs => ⟨(HP.out.2.2.2.2 s hs).1, by obtain ⟨k, hk, he⟩ := (HP.out.2.2.2.2 s hs).2; rw [he]; exact good_ok (HP.out.2.2.2.1 k hk) ((H2.out.2.1 k hk).move (by simp) (fun j h1 h2 h3 => Below.heap_alloc _ _ j h2))⟩); rintro e w4 ⟨full', rfl, h1⟩; have H4 := Aside0.mk h1; clear h1)
    | (go_at_call 17; refine (own_calls (some ⟨g, 0, none⟩) full.length (due segs) w4 ?b1 ?b2).mono ?_; (case b1 => exact (by have h := H4.out.2.1.reads (due segs).length (by rw [H4.out.1]; exact H4.out.2.2.2.1) (by rw [H4.out.1]; have := H1.out.2.2.2.2.1; simp only [maxLen] at this; omega); rw [H4.out.2.2.1] at h; exact h)); (case b2 => exact (by have h := due_len segs (fun s hs => by obtain ⟨k, hk, he⟩ := (HP.out.2.2.2.2 s hs).2; rw [he]; exact (HP.out.2.2.2.1 k hk).v0.2); have h2 := HP.out.2.1; rw [HP.out.1] at h2; omega)); rintro e w5 ⟨v5, rfl, h5, h6⟩; have H5 := Aside0.mk (And.intro h5 h6); clear h5 h6))
  go_ret
  have hs1 : w.heap.size ≤ w1.heap.size := H1.out.1.size
  have hs2 : w1.heap.size ≤ w2.heap.size := H2.out.2.2.size
  have hb3 : Below w.heap.size w (w2.alloc (Obj.map #[] 0)) := (H1.out.1.trans (H2.out.2.2.mono hs1)).alloc (by omega) _
  have hb4 : Below w.heap.size w w4 := hb3.grown H4.out.2.2.2.2 hb3.size (fun k hk => by
    have hk2 : some g = some k := hk
    injection hk2 with hk3
    rw [← hk3]; exact H1.out.2.1)
  exact ⟨v5, rfl, H5.out.1.mono hb4.size, hb4.trans (H5.out.2.mono hb4.size)⟩
end Go.Proofs.YtojgpdphdhcjiaaDoor.Ent
