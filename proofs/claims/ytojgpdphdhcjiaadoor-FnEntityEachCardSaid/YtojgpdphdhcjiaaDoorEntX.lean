/- laws.entityText, walked. -/
import Derived.Test.YtojgpdphdhcjiaaDoorEntV
import Derived.Deep.RegionWith
namespace Go.Proofs.YtojgpdphdhcjiaaDoor.Ent
open Go.RowKit Go.Proofs.YtojgpdphdhcjiaaDoorW.PrintWords Go.Proofs.YtojgpdphdhcjiaaDoorW.PrintLast Go.Proofs.YtojgpdphdhcjiaaDoorW.PrintMore
open PFnEntityEach Go.Lib Brow Go.Maps
set_option linter.unusedVariables false
set_option linter.unusedSimpArgs false

/-- A slice of bytes that reads as xs. -/
def Rd (w : World) (v : Value) (xs : List Int) : Prop := ∃ A c, v = .slice A xs.length c ∧ xs.length ≤ c ∧ Kd.C (Kd.int .u8) w A xs.length xs
/-- What entityText has made of the first i orders. -/
def Segs (l : List S63) (ps : List (List Int)) (i : Nat) (segs : List (List Int × S63)) : Prop := segs.length = i ∧ (∀ s ∈ segs, (38 : Int) ∉ s.1 ∧ s.1.length ≤ 300 ∧ ∃ k : Nat, k < l.length ∧ s.2 = rd_T63 l k)
theorem txt_append : ∀ (a b : List (List Int × S63)), txt (a ++ b) = txt a ++ txt b
  | [], b => rfl
  | s :: r, b => by simp [txt, txt_append r b]
theorem due_append : ∀ (a b : List (List Int × S63)), due (a ++ b) = due a ++ due b
  | [], b => rfl
  | s :: r, b => by simp [due, due_append r b]
/-- The post. -/
def Made (w w' : World) (l : List S63) (e : Ending) : Prop := ∃ v1 v2 ok, e = .returned (.tuple #[v1, v2, .bool ok]) ∧ (ok = true → l.length ≤ 8 ∧ (∀ i : Nat, i < l.length → Good l i) ∧ ∃ segs, (txt segs).length ≤ 1200 ∧ Rd w' v1 (txt segs) ∧ Rd w' v2 (due segs) ∧ ∀ s ∈ segs, (38 : Int) ∉ s.1 ∧ ∃ k : Nat, k < l.length ∧ s.2 = rd_T63 l k)

theorem add_one (nm s1 : ByteArray) (h1 : s1 = (⟨#[38]⟩ : ByteArray) ++ nm) (hn : nm.size ≤ 20) : ∀ W : World, (binOp .add 9 (.string ⟨#[38]⟩) (.string nm)).run Tryd.prog W = .ok (.string s1) W := by
  intro W
  have f1 : 1 + nm.size ≤ 9223372036854775807 := by omega
  subst h1
  go_simp
theorem add_two (nm s1 s2 : ByteArray) (h1 : s1 = (⟨#[38]⟩ : ByteArray) ++ nm) (h2 : s2 = s1 ++ (⟨#[59]⟩ : ByteArray)) (hn : nm.size ≤ 20) : ∀ W : World, (binOp .add 9 (.string s1) (.string ⟨#[59]⟩)).run Tryd.prog W = .ok (.string s2) W := by
  intro W
  have hs : s1.size = 1 + nm.size := by rw [h1, ByteArray.size_append]; rfl
  have f1 : s1.size + 1 ≤ 9223372036854775807 := by omega
  subst h2
  go_simp
  omega
theorem two_mid (nm s1 s2 : ByteArray) (h1 : s1 = (⟨#[38]⟩ : ByteArray) ++ nm) (h2 : s2 = s1 ++ (⟨#[59]⟩ : ByteArray)) : ba s2 = mid nm ∧ s2.size = nm.size + 2 := by
  have e : ba s2 = mid nm := by rw [h2, ba_append, h1, ba_append]; rfl
  exact ⟨e, by rw [← ba_len, e, mid_len]⟩
/-- Join of three. -/
theorem join_at (WB : World) (A1 A2 A3 : Option Addr) (n1 c1 n2 c2 n3 c3 G : Nat) (a b c : List Int) (hG : G = WB.heap.size) (h1 : n1 = a.length ∧ n1 ≤ c1 ∧ Kd.C (Kd.int .u8) WB A1 n1 a) (h2 : n2 = b.length ∧ n2 ≤ c2 ∧ Kd.C (Kd.int .u8) WB A2 n2 b) (h3 : n3 = c.length ∧ n3 ≤ c3 ∧ Kd.C (Kd.int .u8) WB A3 n3 c) (hs : a.length + b.length + c.length < 140737488355328) :
    Calls Tryd.prog 34 #[.slice (some ⟨G, 0, none⟩) 3 3] (WB.alloc (Obj.cells #[.slice A1 n1 c1, .slice A2 n2 c2, .slice A3 n3 c3] 22)) fun e w' => ∃ A n c', e = .returned (.slice A n c') ∧ n = (a ++ b ++ c).length ∧ n ≤ c' ∧ Kd.C (Kd.int .u8) w' A n (a ++ b ++ c) ∧ Below WB.heap.size WB w' := by
  subst hG
  obtain ⟨rfl, h12, h13⟩ := h1
  obtain ⟨rfl, h22, h23⟩ := h2
  obtain ⟨rfl, h32, h33⟩ := h3
  have hb := below_alloc (Below.refl WB.heap.size WB) (Obj.cells #[.slice A1 a.length c1, .slice A2 b.length c2, .slice A3 c.length c3] 22)
  have hC : Kd.C (Kd.slice 5 (Kd.int .u8)) (WB.alloc (Obj.cells #[.slice A1 a.length c1, .slice A2 b.length c2, .slice A3 c.length c3] 22)) (some ⟨WB.heap.size, 0, none⟩) [a, b, c].length [a, b, c] := by
    refine ⟨rfl, by simp, fun _ => ⟨_, rfl, fun j p hj => ?_⟩⟩
    match j, hj with
    | 0, hj =>
      cases hj
      exact ⟨[.slice A1 a.length c1], rfl, ⟨A1, c1, rfl, h12, Kd.C_below h13 hb⟩, fun i u hu => by
        match i, hu with
        | 0, hu => cases hu; simp [Go.WideShapes.add_plain]⟩
    | 1, hj =>
      cases hj
      exact ⟨[.slice A2 b.length c2], rfl, ⟨A2, c2, rfl, h22, Kd.C_below h23 hb⟩, fun i u hu => by
        match i, hu with
        | 0, hu => cases hu; simp [Go.WideShapes.add_plain]; rfl⟩
    | 2, hj =>
      cases hj
      exact ⟨[.slice A3 c.length c3], rfl, ⟨A3, c3, rfl, h32, Kd.C_below h33 hb⟩, fun i u hu => by
        match i, hu with
        | 0, hu => cases hu; simp [Go.WideShapes.add_plain]; rfl⟩
  refine (spec_Join.calls 4 (some ⟨WB.heap.size, 0, none⟩) 3 [a, b, c] _ _ hC (by simp) (join3 a b c hs)).mono ?_
  rintro e w' ⟨v, rfl, hv, hb2⟩
  obtain ⟨A, c', rfl, h5, h6⟩ := Kd.R_reads hv
  exact ⟨A, _, c', rfl, rfl, h5, h6, hb.trans (hb2.mono hb.size)⟩
theorem join_text {m i : Nat} (nm : ByteArray) (segs : List (List Int × S63)) (pc : List Int) (A9 Ap0 : Option Addr) (n9 c9 cp0 : Nat) (wr : World) (h9 : n9 = (txt segs).length) (h9c : n9 ≤ c9) (h9C : Kd.C (Kd.int .u8) wr A9 n9 (txt segs)) (h9m : n9 ≤ i * 400) (hpc : pc.length ≤ cp0) (hpC : Kd.C (Kd.int .u8) wr Ap0 pc.length pc) (hp3 : pc.length ≤ 300) (hn : nm.size ≤ 20) (hi : i < 20) :
    Calls Tryd.prog 34 #[.slice (some ⟨(bytesWorld (wr.drewN (m + 1)) 5 ((⟨#[38]⟩ : ByteArray) ++ nm ++ (⟨#[59]⟩ : ByteArray))).heap.size, 0, none⟩) 3 3]
      ((bytesWorld (wr.drewN (m + 1)) 5 ((⟨#[38]⟩ : ByteArray) ++ nm ++ (⟨#[59]⟩ : ByteArray))).alloc (Obj.cells #[.slice A9 n9 c9, .slice Ap0 pc.length cp0, .slice (some ⟨wr.heap.size, 0, none⟩) (1 + nm.size + 1) (grownCap (wr.drewN (m + 1)) (1 + nm.size + 1) 0 5)] 22)) fun e w' =>
      ∃ A n c', e = .returned (.slice A n c') ∧ n = (txt segs ++ pc ++ mid nm).length ∧ n ≤ c' ∧ Kd.C (Kd.int .u8) w' A n (txt segs ++ pc ++ mid nm) ∧ Below wr.heap.size wr w' := by
  obtain ⟨he, hsz⟩ := two_mid nm _ _ rfl rfl
  have hml := mid_len nm
  have hb : Below wr.heap.size wr (bytesWorld (wr.drewN (m + 1)) 5 ((⟨#[38]⟩ : ByteArray) ++ nm ++ (⟨#[59]⟩ : ByteArray))) := below_bytes (pw_below_drewN (Below.refl _ _) _) (Nat.le_refl _) _
  have h3 := bytes_C (wr.drewN (m + 1)) ((⟨#[38]⟩ : ByteArray) ++ nm ++ (⟨#[59]⟩ : ByteArray)) (by omega)
  rw [he] at h3
  have e3 : 1 + nm.size + 1 = (mid nm).length := by omega
  refine (join_at _ A9 Ap0 (some ⟨wr.heap.size, 0, none⟩) n9 c9 pc.length cp0 (1 + nm.size + 1) _ _ (txt segs) pc (mid nm) rfl ⟨h9, h9c, Kd.C_below h9C hb⟩ ⟨rfl, hpc, Kd.C_below hpC hb⟩ ⟨e3, grownCap_ge _ _ _ _, by rw [e3]; exact h3⟩ (by omega)).mono ?_
  rintro e w' ⟨A, n, c', h4, h5, h6, h7, h8⟩
  exact ⟨A, n, c', h4, h5, h6, h7, hb.trans (h8.mono hb.size)⟩
theorem join_due {i : Nat} (vl : ByteArray) (segs : List (List Int × S63)) (pc : List Int) (A9 Ap0 : Option Addr) (n9 c9 cp0 : Nat) (wr : World) (h9 : n9 = (due segs).length) (h9c : n9 ≤ c9) (h9C : Kd.C (Kd.int .u8) wr A9 n9 (due segs)) (h9m : n9 ≤ i * 400) (hpc : pc.length ≤ cp0) (hpC : Kd.C (Kd.int .u8) wr Ap0 pc.length pc) (hp3 : pc.length ≤ 300) (hn : vl.size ≤ 22) (hi : i < 20) :
    Calls Tryd.prog 34 #[.slice (some ⟨(bytesWorld wr.drew 5 vl).heap.size, 0, none⟩) 3 3]
      ((bytesWorld wr.drew 5 vl).alloc (Obj.cells #[.slice A9 n9 c9, .slice Ap0 pc.length cp0, .slice (some ⟨wr.heap.size, 0, none⟩) vl.size (grownCap wr.drew vl.size 0 5)] 22)) fun e w' =>
      ∃ A n c', e = .returned (.slice A n c') ∧ n = (due segs ++ pc ++ ba vl).length ∧ n ≤ c' ∧ Kd.C (Kd.int .u8) w' A n (due segs ++ pc ++ ba vl) ∧ Below wr.heap.size wr w' := by
  have hml := ba_len vl
  have hb : Below wr.heap.size wr (bytesWorld wr.drew 5 vl) := below_bytes (Below.refl _ _).drew (Nat.le_refl _) _
  have h3 := bytes_C wr.drew vl (by omega)
  refine (join_at _ A9 Ap0 (some ⟨wr.heap.size, 0, none⟩) n9 c9 pc.length cp0 vl.size _ _ (due segs) pc (ba vl) rfl ⟨h9, h9c, Kd.C_below h9C hb⟩ ⟨rfl, hpc, Kd.C_below hpC hb⟩ ⟨hml.symm, grownCap_ge _ _ _ _, by rw [← hml]; exact h3⟩ (by omega)).mono ?_
  rintro e w' ⟨A, n, c', h4, h5, h6, h7, h8⟩
  exact ⟨A, n, c', h4, h5, h6, h7, hb.trans (h8.mono hb.size)⟩
theorem next_segs {l : List S63} {segs : List (List Int × S63)} {pc : List Int} {n9 n10 i k : Nat} {nm vl : ByteArray} (h9 : n9 = (txt segs).length) (h10 : n10 = (due segs).length) (hb9 : n9 ≤ i * 400) (hb10 : n10 ≤ i * 400) (hs : ∀ s ∈ segs, (38 : Int) ∉ s.1 ∧ ∃ k : Nat, k < l.length ∧ s.2 = rd_T63 l k)
    (hnm : nm = (rd_T63 l k).f0) (hvl : vl = (rd_T63 l k).f1) (hk : k < l.length) (hpc : (38 : Int) ∉ pc) (hp3 : pc.length ≤ 300) (hn : nm.size ≤ 20) (hv : vl.size ≤ 22) :
    txt (segs ++ [(pc, rd_T63 l k)]) = txt segs ++ pc ++ mid nm ∧ due (segs ++ [(pc, rd_T63 l k)]) = due segs ++ pc ++ ba vl ∧ (txt segs ++ pc ++ mid nm).length ≤ (i + 1) * 400 ∧ (due segs ++ pc ++ ba vl).length ≤ (i + 1) * 400 ∧
    (∀ s ∈ segs ++ [(pc, rd_T63 l k)], (38 : Int) ∉ s.1 ∧ ∃ k : Nat, k < l.length ∧ s.2 = rd_T63 l k) := by
  have h1 := mid_len nm
  have h2 := ba_len vl
  refine ⟨?_, ?_, ?_, ?_, ?_⟩
  · rw [txt_append, hnm]; simp [txt]
  · rw [due_append, hvl]; simp [due]
  · simp only [List.length_append]; omega
  · simp only [List.length_append]; omega
  · intro s hs2
    rcases List.mem_append.1 hs2 with h | h
    · exact hs s h
    · rw [List.mem_singleton] at h
      subst h
      exact ⟨hpc, k, hk, rfl⟩
set_option maxHeartbeats 2000000 in
set_option maxRecDepth 100000 in
theorem text_calls (w : World) (Al Ap Ao : Option Addr) (cl cp co : Nat) (l : List S63) (ps : List (List Int)) (os : List Int) (hrl : Kd.C k63 w Al l.length l) (hcl : l.length ≤ cl) (hl : l.length ≤ 2147483647) (hsz : ∀ j : Nat, j < l.length → (rd_T63 l j).f0.size ≤ 2147483647 ∧ (rd_T63 l j).f1.size ≤ 2147483647)
    (hrp : Kd.C (Kd.slice 5 (Kd.int .u8)) w Ap ps.length ps) (hcp : ps.length ≤ cp) (hpl : ps.length ≤ 2147483647) (hro : Kd.C (Kd.int .i64) w Ao os.length os) (hco : os.length ≤ co) (hol : os.length ≤ 2147483647) :
    Calls Tryd.prog 11 #[.slice Al l.length cl, .slice Ap ps.length cp, .slice Ao os.length co] w fun e w' => Made w w' l e ∧ Below w.heap.size w w' := by
  have HOk := Aside0.mk (ok_calls w Al cl l hrl hcl hl hsz)
  obtain ⟨fr, hfr, hfp⟩ := few ps (by omega)
  have HFew := Aside0.mk (fun (W : World) h => laws_fewBytes.calls _ Ap cp ps fr W h hcp hfr)
  have HP := Aside0.mk (And.intro hrl (And.intro hrp (And.intro hro (And.intro hfp (And.intro hpl hol)))))
  clear hrl hcl hl hsz hrp hcp hpl hro hco hol hfr hfp
  go_enter Tryd.func11, Tryd.ntmps11
  go_upto_region 1 with (fail)
  go_cut [37] (fun v37 wc => ∃ b, v37 = .bool b ∧ Aside0 ((b = false → fr = true ∧ os.length ≤ ps.length ∧ ps.length ≤ 20 ∧ l.length ≤ 8 ∧ ∀ i : Nat, i < l.length → Good l i) ∧ Below w.heap.size w wc))
  case first =>
    rcases Bool.eq_false_or_eq_true ((l.length : Int) == 0) with c1 | c1
    all_goals cases fr
    all_goals go_wp2_with (first
      | (go_at_call 32; refine (HOk.out).mono ?_; rintro e w1 ⟨⟨r, rfl, hr⟩, hb⟩; have H1 := Aside0.mk (And.intro hr hb); clear hr hb; cases r)
      | (go_at_call 14; refine (HFew.out w1 (Kd.C_below HP.out.2.1 H1.out.2)).mono ?_; rintro e w2 ⟨rfl, ⟨nd, rfl⟩⟩))
    all_goals go_meet
    all_goals first
      | exact ⟨true, rfl, ⟨(fun h => by cases h), by first | exact H1.out.2 | exact pw_below_drewN H1.out.2 _⟩⟩
      | exact ⟨_, rfl, ⟨(fun _ => ⟨by simp, by assumption, by omega, (H1.out.1 trivial).1, (H1.out.1 trivial).2⟩), by first | exact H1.out.2 | exact pw_below_drewN H1.out.2 _⟩⟩
  case rest =>
    obtain ⟨b, rfl, HB⟩ := hcut
    clear HOk HFew
    cases b with
    | true =>
      go_wp2_with (fail)
      go_ret3
      exact ⟨⟨_, _, false, rfl, (fun h => by cases h)⟩, HB.out.2⟩
    | false =>
      have HS0 := Aside0.mk (HB.out.1 (by simp))
      go_wp2_with (fail)
      go_loopg [9, 10, 42] os.length (fun kq v9 v10 v42 wr => ∃ (i n9 c9 n10 c10 : Nat) (A9 A10 : Option Addr), v42 = .int .i64 (i : Int) ∧ v9 = .slice A9 n9 c9 ∧ v10 = .slice A10 n10 c10 ∧ Aside0 (∃ segs, i + kq = os.length ∧ n9 = (txt segs).length ∧ n10 = (due segs).length ∧ n9 ≤ c9 ∧ n10 ≤ c10 ∧ Kd.C (Kd.int .u8) wr A9 n9 (txt segs) ∧ Kd.C (Kd.int .u8) wr A10 n10 (due segs) ∧ n9 ≤ i * 400 ∧ n10 ≤ i * 400 ∧ (∀ s ∈ segs, (38 : Int) ∉ s.1 ∧ ∃ k : Nat, k < l.length ∧ s.2 = rd_T63 l k) ∧ Below w.heap.size w wr))
      case atStart =>
        exact ⟨0, 0, 0, 0, 0, _, _, rfl, rfl, rfl, ⟨[], by omega, rfl, rfl, Nat.le_refl _, Nat.le_refl _, ⟨rfl, by decide, fun h => absurd h (by decide)⟩, ⟨rfl, by decide, fun h => absurd h (by decide)⟩, by decide, by decide, (fun s hs => by cases hs), (HB.out.2.alloc HB.out.2.size _).alloc (by simp; have := HB.out.2.size; omega) _⟩⟩
      case round =>
        obtain ⟨i, n9, c9, n10, c10, A9, A10, rfl, rfl, rfl, HI⟩ := hrel
        obtain ⟨segs, g1, g2, g3, g4, g5, g6, g7, g8, g8', g9, g10⟩ := HI.out
        have HG := Aside0.mk (And.intro g1 (And.intro g2 (And.intro g3 (And.intro g4 (And.intro g5 (And.intro g6 (And.intro g7 (And.intro g8 (And.intro g8' (And.intro g9 g10))))))))))
        by_cases hk : gk = 0
        · have hi : i = os.length := by omega
          have q' : decide ((i : Int) < (os.length : Int)) = false := decide_eq_false (by omega)
          have q'' := eq_false (show ¬ (i : Int) < (os.length : Int) by omega)
          have q3 := eq_false (show ¬ i < os.length by omega)
          clear g1 g2 g3 g4 g5 g6 g7 g8 g8' g9 g10 hk hi HI
          go_wp2_with (fail)
          go_ret3
          obtain ⟨g1, g2, g3, g4, g5, g6, g7, g8, g8', g9, g10⟩ := HG.out
          refine ⟨⟨_, _, _, rfl, fun h => ⟨HS0.out.2.2.2.1, HS0.out.2.2.2.2, segs, ?_, ⟨A9, c9, by rw [← g2]; rfl, by omega, by rw [g2] at g6; exact g6⟩, ⟨A10, c10, by rw [← g3]; rfl, by omega, by rw [g3] at g7; exact g7⟩, g9⟩⟩, g10⟩
          have := of_decide_eq_true h
          omega
        · obtain ⟨k1, rfl⟩ : ∃ k1, gk = k1 + 1 := ⟨gk - 1, by omega⟩
          have hi : i < os.length := by omega
          have hip : i < ps.length := by have := HS0.out.2.1; omega
          obtain ⟨ado, rfl, hox⟩ := Kd.at_int HP.out.2.2.1 (i : Int) (by omega) (by omega)
          have hoy := (g10.cell (World.block_lt_of_cell? w _ hox)).trans hox
          obtain ⟨adp, Ap0, cp0, rfl, hpx, hpc, hpC⟩ := at_L3 HP.out.2.1 (i : Int) (by omega) (by omega)
          have hpy := (g10.cell (World.block_lt_of_cell? w _ hpx)).trans hpx
          rw [Int.toNat_natCast] at hoy hpy
          obtain ⟨x, hxx⟩ : ∃ x, x = rd os (i : Int) := ⟨_, rfl⟩
          rw [← hxx] at hoy
          obtain ⟨pc, hpcc⟩ : ∃ pc, pc = rd_L3 ps (i : Int) := ⟨_, rfl⟩
          rw [← hpcc] at hpy hpc hpC
          have hpl3 : pc.length ≤ 300 := by rw [hpcc]; exact HP.out.2.2.2.1 HS0.out.1 i hip
          obtain ⟨rp, hrp, hrpp⟩ := place pc 38 (by omega)
          have HPl := Aside0.mk (fun (W : World) h => spec_BytePlace.calls _ Ap0 cp0 pc 38 rp W h hpc hrp)
          have hpC' := Kd.C_below hpC g10
          have HPc := Aside0.mk (And.intro hpC (And.intro hpC' (And.intro hpc (And.intro hpl3 hrpp))))
          have u1 := eq_true (show (i : Int) < (os.length : Int) by omega)
          have u2 := eq_true (show (0 : Int) ≤ (i : Int) by omega)
          have u3 : decide ((i : Int) < (os.length : Int)) = true := decide_eq_true (by omega)
          have u4 := eq_true hi
          have u5 := eq_true hip
          have u6 := eq_true (show (i : Int) < (ps.length : Int) by omega)
          have hw := wrap_next (y := i) rfl (show i + 1 ≤ 2000000 by have := HS0.out.2; omega)
          have HI2 := Aside0.mk (And.intro hi (And.intro hip (show os.length ≤ 20 by have := HS0.out.2; omega)))
          clear g1 g2 g3 g4 g5 g6 g7 g8 g8' g9 g10 hk HI hi hip hox hpx hpC hpC' hpc hpl3 hxx hpcc hrp hrpp
          go_upto_region 7 with (fail)
          go_cut [62] from 43 to 91 (fun v62 wd => ∃ b, v62 = .bool b ∧ Aside0 ((b = false → 0 ≤ x ∧ x < (l.length : Int) ∧ rp < 0) ∧ ∃ m, wd = wr.drewN m))
          case first =>
            rcases Bool.eq_false_or_eq_true (decide (x < 0)) with c1 | c1
            · have c1' := eq_true (of_decide_eq_true c1)
              go_wp2_with (fail)
              go_meet
              case rel => exact ⟨true, rfl, ⟨(fun h => by cases h), ⟨0, rfl⟩⟩⟩
            · have c1' := eq_false (of_decide_eq_false c1)
              rcases Bool.eq_false_or_eq_true (decide ((l.length : Int) ≤ x)) with c2 | c2
              · have c2' := eq_true (of_decide_eq_true c2)
                go_wp2_with (fail)
                go_meet
                case rel => exact ⟨true, rfl, ⟨(fun h => by cases h), ⟨0, rfl⟩⟩⟩
              · have c2' := eq_false (of_decide_eq_false c2)
                go_wp2_with (go_at_call 33; refine (HPl.out _ HPc.out.2.1).mono ?_; rintro e w2 ⟨rfl, ⟨nd, rfl⟩⟩)
                go_meet
                case rel => exact ⟨_, rfl, ⟨(fun h => ⟨by have := of_decide_eq_false c1; omega, by have := of_decide_eq_false c2; omega, by have := of_decide_eq_false h; omega⟩), ⟨_, rfl⟩⟩⟩
          case rest =>
            obtain ⟨b, rfl, HD⟩ := hcut
            obtain ⟨hd, m, rfl⟩ := HD.out
            cases b with
            | true =>
              clear HD hd
              go_wp2_with (fail)
              go_ret3
              exact ⟨⟨_, _, false, rfl, (fun h => by cases h)⟩, pw_below_drewN HG.out.2.2.2.2.2.2.2.2.2.2 _⟩
            | false =>
              obtain ⟨hd1, hd2, hd3⟩ := hd (by simp)
              clear HD hd
              obtain ⟨k, rfl⟩ := Int.eq_ofNat_of_zero_le hd1
              have hkl : k < l.length := by omega
              obtain ⟨adl, rfl, hlx0, hlx1⟩ := at_T63 HP.out.1 (k : Int) (by omega) (by omega)
              have hly0 := (HG.out.2.2.2.2.2.2.2.2.2.2.cell (World.block_lt_of_cell? w _ hlx0)).trans hlx0
              have hly1 := (HG.out.2.2.2.2.2.2.2.2.2.2.cell (World.block_lt_of_cell? w _ hlx1)).trans hlx1
              rw [Int.toNat_natCast] at hly0 hly1
              obtain ⟨nm, hnm⟩ : ∃ s, s = (rd_T63 l k).f0 := ⟨_, rfl⟩
              obtain ⟨vl, hvl⟩ : ∃ s, s = (rd_T63 l k).f1 := ⟨_, rfl⟩
              rw [← hnm] at hly0
              rw [← hvl] at hly1
              have HN := Aside0.mk (And.intro hnm (And.intro hvl (And.intro hkl hd3)))
              have v1 := eq_true (show (k : Int) < (l.length : Int) by omega)
              have v2 := eq_true (show (0 : Int) ≤ (k : Int) by omega)
              have v3 := eq_true hkl
              clear hnm hvl hkl hd1 hd2 hd3 hlx0 hlx1
              have hcv : ∀ (W : World) (s : ByteArray), (convert 9 22 (.string s)).run Tryd.prog W = .ok (.slice (some ⟨W.heap.size, 0, none⟩) s.size (grownCap W s.size 0 5)) (bytesWorld W 5 s) := fun W s => Go.Lib.run_convert_string_bytes W 9 22 5 s Tryd.underlying9 Tryd.underlying22 Tryd.underlying5
              have hn20 : nm.size ≤ 20 := by rw [HN.out.1]; exact (HS0.out.2.2.2.2 k HN.out.2.2.1).n0.2
              have f1 := eq_false (show ¬ 9223372036854775807 < 1 + nm.size by omega)
              have f2 := eq_false (show ¬ 9223372036854775807 < 1 + nm.size + 1 by omega)
              have f3 := eq_false (show ¬ 9223372036854775806 < 1 + nm.size by omega)
              have HS2 := Aside0.mk (two_mid nm _ _ rfl rfl)
              have HNm := Aside0.mk hn20
              clear hn20
              go_upto_region 9 with (fail)
              have HJn := Aside0.mk (join_text (m := m) nm segs pc A9 Ap0 n9 c9 cp0 wr HG.out.2.1 HG.out.2.2.2.1 HG.out.2.2.2.2.2.1 HG.out.2.2.2.2.2.2.2.1 HPc.out.2.2.1 HPc.out.2.1 HPc.out.2.2.2.1 HNm.out (Nat.lt_of_lt_of_le HI2.out.1 HI2.out.2.2))
              have hpy2 : (bytesWorld (wr.drewN (m + 1)) 5 ((⟨#[38]⟩ : ByteArray) ++ nm ++ (⟨#[59]⟩ : ByteArray))).cell? (adp.add i) = some (.slice Ap0 pc.length cp0) := (bytesWorld_old (wr.drewN (m + 1)) 5 _ _ (World.block_lt_of_cell? wr _ hpy)).trans hpy
              go_cut [9] from 43 to 91 (fun v9 wx => ∃ A n c, v9 = .slice A n c ∧ Aside0 (n = (txt segs ++ pc ++ mid nm).length ∧ n ≤ c ∧ Kd.C (Kd.int .u8) wx A n (txt segs ++ pc ++ mid nm) ∧ Below wr.heap.size wr wx))
              case first =>
                go_region_with (go_at_call 34; refine HJn.out.mono ?_; rintro e w2 ⟨AJ, nJ, cJ, rfl, hx⟩; have HX := Aside0.mk hx; clear hx)
                all_goals (go_wp2_with (fail))
                all_goals go_meet
                all_goals exact ⟨AJ, nJ, cJ, rfl, HX⟩
              case rest =>
                obtain ⟨AX, nX, cX, rfl, HX⟩ := hcut
                clear hpy2 HJn f1 f2 f3
                have hpz := (HX.out.2.2.2.cell (World.block_lt_of_cell? wr _ hpy)).trans hpy
                have hlz := (HX.out.2.2.2.cell (World.block_lt_of_cell? wr _ hly1)).trans hly1
                have HXl := Aside0.mk (And.intro hpz hlz)
                have hv22 : vl.size ≤ 22 := by have h := (HS0.out.2.2.2.2 k HN.out.2.2.1); have h1 := h.n0.2; have h2 := h.v0.2; rw [HN.out.2.1]; omega
                have HVl := Aside0.mk hv22
                clear hv22
                have HJd := Aside0.mk (join_due vl segs pc A10 Ap0 n10 c10 cp0 wc HG.out.2.2.1 HG.out.2.2.2.2.1 (Kd.C_below HG.out.2.2.2.2.2.2.1 HX.out.2.2.2) HG.out.2.2.2.2.2.2.2.2.1 HPc.out.2.2.1 (Kd.C_below HPc.out.2.1 HX.out.2.2.2) HPc.out.2.2.2.1 HVl.out (Nat.lt_of_lt_of_le HI2.out.1 HI2.out.2.2))
                have hpy2 : (bytesWorld wc.drew 5 vl).cell? (adp.add i) = some (.slice Ap0 pc.length cp0) := (bytesWorld_old wc.drew 5 _ _ (World.block_lt_of_cell? wc _ hpz)).trans hpz
                clear hly0 hly1 hpy
                go_upto_region 10 with (fail)
                go_region_with (go_at_call 34; refine HJd.out.mono ?_; rintro e w2 ⟨AY, nY, cY, rfl, hx⟩; have HY := Aside0.mk hx; clear hx)
                all_goals clear hpy2 HJd
                all_goals have HE := Aside0.mk (next_segs HG.out.2.1 HG.out.2.2.1 HG.out.2.2.2.2.2.2.2.1 HG.out.2.2.2.2.2.2.2.2.1 HG.out.2.2.2.2.2.2.2.2.2.1 HN.out.1 HN.out.2.1 HN.out.2.2.1 (HPc.out.2.2.2.2.1 HN.out.2.2.2) HPc.out.2.2.2.1 HNm.out HVl.out)
                all_goals have HEnd := Aside0.mk (HG.out.2.2.2.2.2.2.2.2.2.2.trans ((HX.out.2.2.2.mono HG.out.2.2.2.2.2.2.2.2.2.2.size).trans (HY.out.2.2.2.mono (Nat.le_trans HG.out.2.2.2.2.2.2.2.2.2.2.size HX.out.2.2.2.size))))
                all_goals have HCx := Aside0.mk (Kd.C_below HX.out.2.2.1 HY.out.2.2.2)
                all_goals go_wp2_with (fail)
                all_goals go_roundg k1
                all_goals first
                  | omega
                  | exact ⟨i + 1, nX, cX, nY, cY, AX, AY, by rw [hw], rfl, rfl, ⟨segs ++ [(pc, rd_T63 l k)], by have := HG.out.1; omega, by rw [HE.out.1]; exact HX.out.1, by rw [HE.out.2.1]; exact HY.out.1, HX.out.2.1, HY.out.2.1, by rw [HE.out.1]; exact HCx.out, by rw [HE.out.2.1]; exact HY.out.2.2.1, by rw [HX.out.1]; exact HE.out.2.2.1, by rw [HY.out.1]; exact HE.out.2.2.2.1, HE.out.2.2.2.2, HEnd.out⟩⟩
end Go.Proofs.YtojgpdphdhcjiaaDoor.Ent
