/- laws.entitiesOk, walked. -/
import Derived.Test.YtojgpdphdhcjiaaDoorEntP
import Derived.Lib.ConvBytes
import Derived.Deep.CutRange
namespace Go.Proofs.YtojgpdphdhcjiaaDoor.Ent
open Go.RowKit Go.Proofs.YtojgpdphdhcjiaaDoorW.PrintWords Go.Proofs.YtojgpdphdhcjiaaDoorW.PrintLast Go.Proofs.YtojgpdphdhcjiaaDoorW.PrintMore
open PFnEntityEach Go.Lib
set_option linter.unusedVariables false
set_option linter.unusedSimpArgs false

/-- The entity at i is as told, and no one ahead of it has its name. -/
structure Good (l : List S63) (i : Nat) : Prop where
  n0 : 2 ≤ (rd_T63 l i).f0.size ∧ (rd_T63 l i).f0.size ≤ 20
  tok : ∀ j : Nat, j < (rd_T63 l i).f0.size → Tok j (bt (rd_T63 l i).f0 j)
  dash : (45 : Int) ∉ ba (rd_T63 l i).f0
  v0 : 1 ≤ (rd_T63 l i).f1.size ∧ (rd_T63 l i).f1.size ≤ (rd_T63 l i).f0.size + 2
  amp : (38 : Int) ∉ ba (rd_T63 l i).f1
  semi : (59 : Int) ∉ ba (rd_T63 l i).f1
  other : ∀ j : Nat, j < i → (rd_T63 l j).f0 ≠ (rd_T63 l i).f0

theorem below_bytes {B : Nat} {a w : World} (h : Below B a w) (hB : B ≤ w.heap.size) (s : ByteArray) : Below B a (bytesWorld w 5 s) := by
  refine h.trans ⟨rfl, rfl, rfl, ?_, fun k hk => bytesWorld_at_old w 5 s k (by omega)⟩
  rw [bytesWorld_size]; omega
theorem bytes_C (W : World) (s : ByteArray) (h : s.size ≤ 9000000000000000) : Kd.C (Kd.int .u8) (bytesWorld W 5 s) (some ⟨W.heap.size, 0, none⟩) (ba s).length (ba s) := by
  refine ⟨rfl, ?_, fun _ => ⟨_, rfl, fun j p hj => ⟨[.int .u8 p], rfl, rfl, fun i u hu => ?_⟩⟩⟩
  · rw [ba_len]; omega
  · have hi : i = 0 := by
      rcases Nat.eq_zero_or_pos i with h0 | h0
      · exact h0
      · rw [List.getElem?_eq_none (by simp; omega)] at hu; cases hu
    subst hi
    have hu' : u = .int .u8 p := by simpa using hu.symm
    subst hu'
    have hjl : j < s.size := by rw [← ba_len]; exact (List.getElem?_eq_some_iff.1 hj).1
    have e : (⟨W.heap.size, 0, none⟩ : Addr).add (j * (Kd.int .u8).sz + 0) = ⟨W.heap.size, j, none⟩ := by
      have : j * (Kd.int .u8).sz + 0 = j := by show j * 1 + 0 = j; omega
      rw [this]; exact add_plain W.heap.size j
    rw [e, bytesWorld_cell W 5 s j hjl]
    have hjl2 : j < s.data.toList.length := by rw [Array.length_toList]; exact hjl
    simp only [ba, List.getElem?_map, List.getElem?_eq_getElem hjl2, Option.map_some, Option.some.injEq] at hj
    rw [List.getD_eq_getElem?_getD, List.getElem?_eq_getElem hjl2, ← hj]
    rfl
/-- BytePlace over a string's bytes. -/
theorem place_at (W : World) (s : ByteArray) (c : Int) (r : Int) (h : s.size ≤ 2147483647) (hr : spec_BytePlace.f ((ba s).length + 1) (ba s) c = some r) (B cap : Nat) (hB : B = W.heap.size) (hcap : s.size ≤ cap) : Calls Tryd.prog 33 #[.slice (some ⟨B, 0, none⟩) s.size cap, .int .u8 c] (bytesWorld W 5 s) fun e w' =>
    e = .returned (.int .i64 r) ∧ Drawn0 (bytesWorld W 5 s) w' := by
  subst hB
  have := spec_BytePlace.calls _ (some ⟨W.heap.size, 0, none⟩) cap (ba s) c r (bytesWorld W 5 s) (bytes_C W s (by omega)) (by rw [ba_len]; exact hcap) hr
  rw [ba_len] at this
  exact this

def OkRes (l : List S63) (e : Ending) : Prop := ∃ r : Bool, e = .returned (.bool r) ∧ (r = true → l.length ≤ 8 ∧ ∀ i : Nat, i < l.length → Good l i)
set_option maxHeartbeats 2000000 in
set_option maxRecDepth 100000 in
theorem ok_calls (w : World) (A : Option Addr) (c : Nat) (l : List S63) (hr : Kd.C k63 w A l.length l) (hc : l.length ≤ c) (hl : l.length ≤ 2147483647) (hsz : ∀ j : Nat, j < l.length → (rd_T63 l j).f0.size ≤ 2147483647 ∧ (rd_T63 l j).f1.size ≤ 2147483647) :
    Calls Tryd.prog 32 #[.slice A l.length c] w fun e w' => OkRes l e ∧ Below w.heap.size w w' := by
  have HR := Aside0.mk hr
  have HC := Aside0.mk hc
  have HL := Aside0.mk hl
  have HZ := Aside0.mk hsz
  clear hr hc hl hsz
  have hcv : ∀ (W : World) (s : ByteArray), (convert 9 22 (.string s)).run Tryd.prog W = .ok (.slice (some ⟨W.heap.size, 0, none⟩) s.size (grownCap W s.size 0 5)) (bytesWorld W 5 s) := fun W s => Go.Lib.run_convert_string_bytes W 9 22 5 s Tryd.underlying9 Tryd.underlying22 Tryd.underlying5
  go_enter Tryd.func32, Tryd.ntmps32
  go_wp2_with (fail)
  go_loopg [9] l.length (fun kq v9 w' => ∃ (i : Nat), v9 = .int .i64 i ∧ Aside0 (i + kq = l.length ∧ (∀ j : Nat, j < i → Good l j) ∧ Below w.heap.size w w'))
  case atStart => exact ⟨0, rfl, ⟨by omega, fun j hj => by omega, Below.refl _ _⟩⟩
  case round =>
    obtain ⟨i, rfl, HI⟩ := hrel
    by_cases hk : gk = 0
    · have hi : i = l.length := by have := HI.out.1; omega
      subst hi
      have q' : decide ((l.length : Int) < (l.length : Int)) = false := decide_eq_false (by omega)
      go_wp2_with (fail)
      go_ret
      exact ⟨⟨_, rfl, fun h => ⟨by have := of_decide_eq_true h; omega, HI.out.2.1⟩⟩, HI.out.2.2⟩
    · obtain ⟨k1, rfl⟩ : ∃ k1, gk = k1 + 1 := ⟨gk - 1, by omega⟩
      have hi : i < l.length := by have := HI.out.1; omega
      obtain ⟨ad, rfl, hx0, hx1⟩ := at_T63 HR.out (i : Int) (by omega) (by omega)
      have hy0 := (HI.out.2.2.cell (World.block_lt_of_cell? w _ hx0)).trans hx0
      have hy1 := (HI.out.2.2.cell (World.block_lt_of_cell? w _ hx1)).trans hx1
      have q0 := eq_true (show ((i : Int)) < l.length by omega)
      have q1 := eq_true (show (0 : Int) ≤ (i : Int) by omega)
      have q2 : decide ((i : Int) < (l.length : Int)) = true := decide_eq_true (by omega)
      have q3 : (i < l.length) = True := eq_true (by omega)
      have hw : wrap64 ((i : Int) + 1) = ((i + 1 : Nat) : Int) := by have := HL.out; simp only [wrap64]; omega
      clear hx0 hx1
      rw [Int.toNat_natCast] at hy0 hy1
      obtain ⟨nm, hnm⟩ : ∃ s, s = (rd_T63 l i).f0 := ⟨_, rfl⟩
      obtain ⟨vl, hvl⟩ : ∃ s, s = (rd_T63 l i).f1 := ⟨_, rfl⟩
      rw [← hnm] at hy0
      rw [← hvl] at hy1
      have HN := Aside0.mk (And.intro hnm hvl)
      clear hnm hvl
      go_upto_region 4 with (fail)
      obtain ⟨g, hg⟩ : ∃ g, g = wr.heap.size := ⟨_, rfl⟩
      rw [← hg]
      have HG := Aside0.mk hg
      have hsn : nm.size ≤ 2147483647 ∧ vl.size ≤ 2147483647 := by have := HZ.out i hi; rw [← HN.out.1, ← HN.out.2] at this; exact this
      obtain ⟨rt, hrt, hpt⟩ := token nm (by omega)
      obtain ⟨r1, hr1, hp1⟩ := place (ba nm) 45 (by rw [ba_len]; omega)
      obtain ⟨r2, hr2, hp2⟩ := place (ba vl) 38 (by rw [ba_len]; omega)
      obtain ⟨r3, hr3, hp3⟩ := place (ba vl) 59 (by rw [ba_len]; omega)
      have HTok := Aside0.mk (fun W : World => spec_IsToken.calls _ nm rt W hrt)
      have HP45 := Aside0.mk (fun W : World => place_at W nm 45 r1 hsn.1 hr1)
      have HP38 := Aside0.mk (fun W : World => place_at W vl 38 r2 hsn.2 hr2)
      have HP59 := Aside0.mk (fun W : World => place_at W vl 59 r3 hsn.2 hr3)
      have HPs := Aside0.mk (And.intro hpt (And.intro hp1 (And.intro hp2 (And.intro hp3 hsn))))
      have hb0 : ∀ a b, ((bytesWorld ((wr.alloc (Obj.cells #[Value.string nm, Value.string vl] 63)).drewN a) 5 nm).drewN b).cell? ⟨g, 0, none⟩ = some (.string nm) := fun a b => by rw [hg]; exact (bytesWorld_old _ 5 nm _ (by simp)).trans (by simp)
      have hb1 : ∀ a b, ((bytesWorld ((wr.alloc (Obj.cells #[Value.string nm, Value.string vl] 63)).drewN a) 5 nm).drewN b).cell? ⟨g, 1, none⟩ = some (.string vl) := fun a b => by rw [hg]; exact (bytesWorld_old _ 5 nm _ (by simp)).trans (by simp)
      have hg0 : (wr.alloc (Obj.cells #[Value.string nm, Value.string vl] 63)).cell? ⟨g, 0, none⟩ = some (.string nm) := by rw [hg]; simp
      have hg1 : (wr.alloc (Obj.cells #[Value.string nm, Value.string vl] 63)).cell? ⟨g, 1, none⟩ = some (.string vl) := by rw [hg]; simp
      clear hg
      have HB1 := Aside0.mk (HI.out.2.2.alloc HI.out.2.2.size (Obj.cells #[Value.string nm, Value.string vl] 63))
      go_cut [46] from 10 to 73 (fun v46 wc => ∃ b, v46 = .bool b ∧ Aside0 ((b = false → 2 ≤ nm.size ∧ rt = true ∧ ¬ (0 ≤ r1) ∧ 1 ≤ vl.size ∧ vl.size ≤ nm.size + 2) ∧ wc.cell? ⟨g, 0, none⟩ = some (.string nm) ∧ wc.cell? ⟨g, 1, none⟩ = some (.string vl) ∧ Below w.heap.size w wc ∧ g < wc.heap.size))
      case first =>
        rcases Bool.eq_false_or_eq_true (decide ((nm.size : Int) < 2)) with c1 | c1
        · have c1' := eq_true (of_decide_eq_true c1)
          go_wp2_with (first | (go_at_call 40; refine (HTok.out _).mono ?_; rintro e w' ⟨rfl, ⟨nd, rfl⟩⟩) | (go_at_call 33; refine (HP45.out _ _ _ (by simp) (grownCap_ge _ _ _ _)).mono ?_; rintro e w' ⟨rfl, ⟨nd2, rfl⟩⟩))
          go_meet
          case rel => exact ⟨_, rfl, ⟨(fun h => by cases h), hg0, hg1, HB1.out, by rw [HG.out]; simp⟩⟩
        · have c1' := eq_false (of_decide_eq_false c1)
          cases rt with
          | false =>
            go_wp2_with (first | (go_at_call 40; refine (HTok.out _).mono ?_; rintro e w' ⟨rfl, ⟨nd, rfl⟩⟩) | (go_at_call 33; refine (HP45.out _ _ _ (by simp) (grownCap_ge _ _ _ _)).mono ?_; rintro e w' ⟨rfl, ⟨nd2, rfl⟩⟩))
            go_meet
            case rel => exact ⟨_, rfl, ⟨(fun h => by cases h), hg0, hg1, pw_below_drewN HB1.out _, by rw [HG.out]; simp⟩⟩
          | true =>
            rcases Bool.eq_false_or_eq_true (decide (0 ≤ r1)) with c2 | c2
            · have c2' := eq_true (of_decide_eq_true c2)
              go_wp2_with (first | (go_at_call 40; refine (HTok.out _).mono ?_; rintro e w' ⟨rfl, ⟨nd, rfl⟩⟩) | (go_at_call 33; refine (HP45.out _ _ _ (by simp) (grownCap_ge _ _ _ _)).mono ?_; rintro e w' ⟨rfl, ⟨nd2, rfl⟩⟩))
              go_meet
              case rel => exact ⟨_, rfl, ⟨(fun h => by cases h), hb0 _ _, hb1 _ _, pw_below_drewN (below_bytes (pw_below_drewN HB1.out _) (HB1.out.size) _) _, by rw [HG.out]; simp [bytesWorld_size]; omega⟩⟩
            · have c2' := eq_false (of_decide_eq_false c2)
              rcases Bool.eq_false_or_eq_true (decide ((vl.size : Int) < 1)) with c3 | c3
              · have c3' := eq_true (of_decide_eq_true c3)
                go_wp2_with (first | (go_at_call 40; refine (HTok.out _).mono ?_; rintro e w' ⟨rfl, ⟨nd, rfl⟩⟩) | (go_at_call 33; refine (HP45.out _ _ _ (by simp) (grownCap_ge _ _ _ _)).mono ?_; rintro e w' ⟨rfl, ⟨nd2, rfl⟩⟩))
                go_meet
                case rel => exact ⟨_, rfl, ⟨(fun h => by cases h), hb0 _ _, hb1 _ _, pw_below_drewN (below_bytes (pw_below_drewN HB1.out _) (HB1.out.size) _) _, by rw [HG.out]; simp [bytesWorld_size]; omega⟩⟩
              · have c3' := eq_false (of_decide_eq_false c3)
                rcases Bool.eq_false_or_eq_true (decide ((nm.size : Int) + 2 < (vl.size : Int))) with c4 | c4
                · have c4' := eq_true (of_decide_eq_true c4)
                  go_wp2_with (first | (go_at_call 40; refine (HTok.out _).mono ?_; rintro e w' ⟨rfl, ⟨nd, rfl⟩⟩) | (go_at_call 33; refine (HP45.out _ _ _ (by simp) (grownCap_ge _ _ _ _)).mono ?_; rintro e w' ⟨rfl, ⟨nd2, rfl⟩⟩))
                  go_meet
                  case rel => exact ⟨_, rfl, ⟨(fun h => by cases h), hb0 _ _, hb1 _ _, pw_below_drewN (below_bytes (pw_below_drewN HB1.out _) (HB1.out.size) _) _, by rw [HG.out]; simp [bytesWorld_size]; omega⟩⟩
                · have c4' := eq_false (of_decide_eq_false c4)
                  have HF := Aside0.mk (show 2 ≤ nm.size ∧ true = true ∧ ¬ (0 ≤ r1) ∧ 1 ≤ vl.size ∧ vl.size ≤ nm.size + 2 from ⟨by have := of_decide_eq_false c1; omega, rfl, of_decide_eq_false c2, by have := of_decide_eq_false c3; omega, by have := of_decide_eq_false c4; omega⟩)
                  go_wp2_with (first | (go_at_call 40; refine (HTok.out _).mono ?_; rintro e w' ⟨rfl, ⟨nd, rfl⟩⟩) | (go_at_call 33; refine (HP45.out _ _ _ (by simp) (grownCap_ge _ _ _ _)).mono ?_; rintro e w' ⟨rfl, ⟨nd2, rfl⟩⟩))
                  go_meet
                  case rel => exact ⟨_, rfl, ⟨(fun _ => HF.out), hb0 _ _, hb1 _ _, pw_below_drewN (below_bytes (pw_below_drewN HB1.out _) (HB1.out.size) _) _, by rw [HG.out]; simp [bytesWorld_size]; omega⟩⟩
      case rest =>
        obtain ⟨b, rfl, HA⟩ := hcut
        clear hb0 hb1 hg0 hg1
        cases b with
        | true =>
          go_wp2_with (fail)
          go_ret
          exact ⟨⟨false, rfl, (fun h => by cases h)⟩, HA.out.2.2.2.1⟩
        | false =>
          go_upto_region 6 with (fail)
          have hc0 := HA.out.2.1
          have hc1 := HA.out.2.2.1
          have hd0 : ∀ a, ((bytesWorld wc 5 vl).drewN a).cell? ⟨g, 0, none⟩ = some (.string nm) := fun a => (bytesWorld_old _ 5 vl _ HA.out.2.2.2.2).trans hc0
          have hd1 : ∀ a, ((bytesWorld wc 5 vl).drewN a).cell? ⟨g, 1, none⟩ = some (.string vl) := fun a => (bytesWorld_old _ 5 vl _ HA.out.2.2.2.2).trans hc1
          have he0 : ∀ a b, ((bytesWorld ((bytesWorld wc 5 vl).drewN a) 5 vl).drewN b).cell? ⟨g, 0, none⟩ = some (.string nm) := fun a b => (bytesWorld_old _ 5 vl _ (by rw [World.heap_drewN, bytesWorld_size]; exact Nat.lt_succ_of_lt HA.out.2.2.2.2)).trans (hd0 a)
          have he1 : ∀ a b, ((bytesWorld ((bytesWorld wc 5 vl).drewN a) 5 vl).drewN b).cell? ⟨g, 1, none⟩ = some (.string vl) := fun a b => (bytesWorld_old _ 5 vl _ (by rw [World.heap_drewN, bytesWorld_size]; exact Nat.lt_succ_of_lt HA.out.2.2.2.2)).trans (hd1 a)
          go_cut [58] from 10 to 73 (fun v58 wd => ∃ b, v58 = .bool b ∧ Aside0 ((b = false → ¬ (0 ≤ r2) ∧ ¬ (0 ≤ r3)) ∧ wd.cell? ⟨g, 0, none⟩ = some (.string nm) ∧ wd.cell? ⟨g, 1, none⟩ = some (.string vl) ∧ Below w.heap.size w wd ∧ g < wd.heap.size))
          case first =>
            rcases Bool.eq_false_or_eq_true (decide (0 ≤ r2)) with c2 | c2
            · have c2' := eq_true (of_decide_eq_true c2)
              go_wp2_with (first | (go_at_call 33; with_reducible refine (HP38.out _ _ _ ?q1 ?q2).mono ?_; (case q1 => simp); (case q2 => exact grownCap_ge _ _ _ _); rintro e w' ⟨rfl, ⟨nd, rfl⟩⟩) | (go_at_call 33; with_reducible refine (HP59.out _ _ _ ?q1 ?q2).mono ?_; (case q1 => simp [bytesWorld_size]); (case q2 => exact grownCap_ge _ _ _ _); rintro e w' ⟨rfl, ⟨nd2, rfl⟩⟩))
              go_meet
              case rel => exact ⟨_, rfl, ⟨(fun h => by cases h), hd0 _, hd1 _, pw_below_drewN (below_bytes HA.out.2.2.2.1 HA.out.2.2.2.1.size _) _, by rw [World.heap_drewN, bytesWorld_size]; exact Nat.lt_succ_of_lt HA.out.2.2.2.2⟩⟩
            · have c2' := eq_false (of_decide_eq_false c2)
              have HN2 := Aside0.mk (of_decide_eq_false c2)
              rcases Bool.eq_false_or_eq_true (decide (0 ≤ r3)) with c3 | c3
              · have c3' := eq_true (of_decide_eq_true c3)
                go_wp2_with (first | (go_at_call 33; with_reducible refine (HP38.out _ _ _ ?q1 ?q2).mono ?_; (case q1 => simp); (case q2 => exact grownCap_ge _ _ _ _); rintro e w' ⟨rfl, ⟨nd, rfl⟩⟩) | (go_at_call 33; with_reducible refine (HP59.out _ _ _ ?q1 ?q2).mono ?_; (case q1 => simp [bytesWorld_size]); (case q2 => exact grownCap_ge _ _ _ _); rintro e w' ⟨rfl, ⟨nd2, rfl⟩⟩))
                go_meet
                case rel => exact ⟨_, rfl, ⟨(fun h => by cases h), he0 _ _, he1 _ _, pw_below_drewN (below_bytes (pw_below_drewN (below_bytes HA.out.2.2.2.1 HA.out.2.2.2.1.size _) _) (by rw [World.heap_drewN, bytesWorld_size]; have := HA.out.2.2.2.1.size; omega) _) _, by rw [World.heap_drewN, bytesWorld_size, World.heap_drewN, bytesWorld_size]; have := HA.out.2.2.2.2; omega⟩⟩
              · have c3' := eq_false (of_decide_eq_false c3)
                have HN3 := Aside0.mk (of_decide_eq_false c3)
                go_wp2_with (first | (go_at_call 33; with_reducible refine (HP38.out _ _ _ ?q1 ?q2).mono ?_; (case q1 => simp); (case q2 => exact grownCap_ge _ _ _ _); rintro e w' ⟨rfl, ⟨nd, rfl⟩⟩) | (go_at_call 33; with_reducible refine (HP59.out _ _ _ ?q1 ?q2).mono ?_; (case q1 => simp [bytesWorld_size]); (case q2 => exact grownCap_ge _ _ _ _); rintro e w' ⟨rfl, ⟨nd2, rfl⟩⟩))
                go_meet
                case rel => exact ⟨_, rfl, ⟨(fun _ => ⟨HN2.out, HN3.out⟩), he0 _ _, he1 _ _, pw_below_drewN (below_bytes (pw_below_drewN (below_bytes HA.out.2.2.2.1 HA.out.2.2.2.1.size _) _) (by rw [World.heap_drewN, bytesWorld_size]; have := HA.out.2.2.2.1.size; omega) _) _, by rw [World.heap_drewN, bytesWorld_size, World.heap_drewN, bytesWorld_size]; have := HA.out.2.2.2.2; omega⟩⟩
          case rest =>
            obtain ⟨b, rfl, HD⟩ := hcut
            clear hc0 hc1 hd0 hd1 he0 he1
            cases b with
            | true =>
              go_wp2_with (fail)
              go_ret
              exact ⟨⟨false, rfl, (fun h => by cases h)⟩, HD.out.2.2.2.1⟩
            | false =>
              have hc0 := HD.out.2.1
              have hc1 := HD.out.2.2.1
              have k0 := eq_true (show i ≤ l.length by omega)
              have k1' := eq_true (show i ≤ c by have := HC.out; omega)
              have k2 := eq_true (show (i : Int) ≤ (c : Int) by have := HC.out; omega)
              go_wp2_with (fail)
              go_loopg [63] i (fun kj v63 we => ∃ (j : Nat), v63 = .int .i64 j ∧ Aside0 (j + kj = i ∧ (∀ j' : Nat, j' < j → (rd_T63 l j').f0 ≠ nm) ∧ we.cell? ⟨g, 0, none⟩ = some (.string nm) ∧ g < we.heap.size ∧ Below w.heap.size w we))
              case atStart => exact ⟨0, rfl, ⟨by omega, fun j' hj' => by omega, HD.out.2.1, HD.out.2.2.2.2, HD.out.2.2.2.1⟩⟩
              case round =>
                obtain ⟨j, rfl, HJ⟩ := hrel
                have hce := HJ.out.2.2.1
                by_cases hkj : gk = 0
                · have hj : j = i := by have := HJ.out.1; omega
                  subst hj
                  have q' : decide ((j : Int) < (j : Int)) = false := decide_eq_false (by omega)
                  go_wp2_with (fail)
                  go_roundg k1
                  case measure => omega
                  case rel =>
                    obtain ⟨h1, h2, h3, h4, h5⟩ := HA.out.1 (by simp)
                    obtain ⟨h6, h7⟩ := HD.out.1 (by simp)
                    obtain ⟨p1, p2, p3, p4, p5⟩ := HPs.out
                    exact ⟨j + 1, by simp [hw], ⟨by have := HI.out.1; omega, fun j2 hj2 => by
                      by_cases he : j2 = j
                      · subst he
                        refine ⟨?_, ?_, ?_, ?_, ?_, ?_, ?_⟩
                        · rw [← HN.out.1]; exact ⟨h1, (p1 h2).2.2⟩
                        · rw [← HN.out.1]; exact (p1 h2).1
                        · rw [← HN.out.1]; exact p2.1 (by omega)
                        · rw [← HN.out.1, ← HN.out.2]; exact ⟨h4, h5⟩
                        · rw [← HN.out.2]; exact p3.1 (by omega)
                        · rw [← HN.out.2]; exact p4.1 (by omega)
                        · intro j3 hj3; rw [← HN.out.1]; exact HJ.out.2.1 j3 hj3
                      · exact HI.out.2.1 j2 (by omega), HJ.out.2.2.2.2⟩⟩
                · obtain ⟨k2', rfl⟩ : ∃ k2', gk = k2' + 1 := ⟨gk - 1, by omega⟩
                  have hj : j < i := by have := HJ.out.1; omega
                  obtain ⟨ad2, had, hx0, hx1⟩ := at_T63 HR.out (j : Int) (by omega) (by omega)
                  cases had
                  have hz0 := (HJ.out.2.2.2.2.cell (World.block_lt_of_cell? w _ hx0)).trans hx0
                  have hz1 := (HJ.out.2.2.2.2.cell (World.block_lt_of_cell? w _ hx1)).trans hx1
                  have u0 := eq_true (show ((j : Int)) < (i : Int) by omega)
                  have u1' := eq_true (show (0 : Int) ≤ (j : Int) by omega)
                  have u2' : decide ((j : Int) < (i : Int)) = true := decide_eq_true (by omega)
                  have u3' : (j < i) = True := eq_true (by omega)
                  have hwj : wrap64 ((j : Int) + 1) = ((j + 1 : Nat) : Int) := by have := HL.out; simp only [wrap64]; omega
                  clear hx0 hx1
                  rw [Int.toNat_natCast] at hz0 hz1
                  obtain ⟨nj, hnj⟩ : ∃ s, s = (rd_T63 l j).f0 := ⟨_, rfl⟩
                  rw [← hnj] at hz0
                  have hce2 : ∀ o, (wr.alloc o).cell? ⟨g, 0, none⟩ = some (.string nm) := fun o => by
                    have := (Below.refl wr.heap.size wr).alloc (Nat.le_refl _) o
                    exact (this.cell HJ.out.2.2.2.1).trans hce
                  have HNj := Aside0.mk hnj
                  clear hnj
                  have hbw : ∀ o, Below w.heap.size w (wr.alloc o) := fun o => HJ.out.2.2.2.2.alloc HJ.out.2.2.2.2.size o
                  have HBw := Aside0.mk hbw
                  clear hbw
                  rcases Bool.eq_false_or_eq_true (nj.toList == nm.toList) with e1 | e1
                  · go_wp2_with (fail)
                    go_ret
                    exact ⟨⟨false, rfl, (fun h => by cases h)⟩, HBw.out _⟩
                  · have HEn := Aside0.mk (show nj ≠ nm from fun h => by rw [h] at e1; simp at e1)
                    go_wp2_with (fail)
                    go_roundg k2'
                    case measure => omega
                    case rel => exact ⟨j + 1, by simp [hwj], ⟨by have := HJ.out.1; omega, fun j2 hj2 => by
                      by_cases he : j2 = j
                      · subst he; rw [← HNj.out]; exact HEn.out
                      · exact HJ.out.2.1 j2 (by omega), hce2 _, by simp; have := HJ.out.2.2.2.1; omega, HBw.out _⟩⟩
end Go.Proofs.YtojgpdphdhcjiaaDoor.Ent
