/- AppendFloat, walked: the loop, the places, room, kinds of exponent, the call. -/
import Derived.Test.YtmpgbakkpbmpiaaDoorMAfA
/- AppendFloat: the loop over the digits. -/
namespace Go.Proofs.YtmpgbakkpbmpiaaDoor.AF
open Go.RowKit Go.Proofs.YtmpgbakkpbmpiaaDoorW.PrintWords Go.Proofs.YtmpgbakkpbmpiaaDoorW.PrintLast Go.Proofs.YtmpgbakkpbmpiaaDoorW.PrintMore
open PFl Brow Dig AD
set_option linter.unusedVariables false
set_option linter.unusedSimpArgs false

set_option maxHeartbeats 4000000 in
set_option maxRecDepth 100000 in
theorem part22 {g m0 i0 r n K N c dot0 last0 base : Nat} {x0 : Int} {full pre : List Int} {w0 : World} {u1 u2 u3 u4 u5 u6 u7 u9 u10 u12 u14 u25 u26 u27 u28 u29 u30 u31 u32 u33 u34 u35 u36 u37 u38 u39 u40 u41 u42 u43 u44 u45 u46 u47 u48 u49 u50 u51 u52 u53 u54 u55 u56 u57 u58 u59 u60 u61 u62 u63 u64 u65 u66 u67 u68 u69 u70 u71 u72 u73 u74 u75 u76 u77 u78 u79 u80 u81 u82 u83 u84 u85 u86 u87 u88 u89 u90 u91 u92 u93 u94 u95 u96 u97 u98 u99 u100 u101 u102 u103 u104 u105 u106 u107 u108 u109 u110 u111 u112 u113 u114 u115 u116 u117 u118 u119 u120 : Value} (W : World) (hr : Row 5 W g full) (hc : full.length = c) (hw0 : Below base w0 W) (hb : base ≤ g) (hP : Par i0 r n K N c dot0 last0 x0 pre) (hm0 : m0 < 9000000000000000000) (h1 : S1 i0 r n K dot0 last0 x0 pre m0 x0 i0 last0 dot0 (last0 + 1) full) :
    Code.wp Tryd.prog (rest 22 body22) (bodyPost Tryd.prog Tryd.f22 fun e w' => ∃ (full' M E : List Int), e = .returned (.slice (some ⟨g, 0, none⟩) (i0 + M.length + E.length) c) ∧ full'.length = c ∧ Row 5 w' g full' ∧ full'.take (i0 + M.length + E.length) = pre ++ M ++ E ∧ MantOK M ∧ ExpOK E ∧ Below base w0 w') ⟨#[.slice (some ⟨g, 0, none⟩) N c, u1, u2, u3, u4, u5, u6, u7, .int .i64 (m0 : Int), u9, u10, .int .i64 x0, u12, .int .i64 (i0 : Int), u14, .bool true, .int .i64 (last0 : Int), .int .i64 (dot0 : Int), undef, undef, undef, undef, undef, undef, undef, u25, u26, u27, u28, u29, u30, u31, u32, u33, u34, u35, u36, u37, u38, u39, u40, u41, u42, u43, u44, u45, u46, u47, u48, u49, u50, u51, u52, u53, u54, u55, u56, u57, u58, u59, u60, u61, u62, u63, u64, u65, u66, u67, u68, u69, u70, u71, u72, u73, u74, u75, u76, u77, u78, u79, u80, u81, u82, u83, u84, u85, u86, u87, u88, u89, u90, u91, u92, u93, u94, u95, u96, u97, u98, u99, u100, u101, u102, u103, u104, u105, u106, u107, u108, u109, u110, u111, u112, u113, u114, u115, u116, u117, u118, u119, u120, undef, undef, undef, undef, undef, undef, undef, undef, undef, undef, undef, undef, undef, undef, undef, undef, undef, undef, undef, undef, undef, undef, undef, undef, undef, undef, undef, undef, undef, undef, undef, undef, undef, undef, undef, undef, undef, undef, undef, undef, undef, undef, undef, undef, undef, undef, undef, undef, undef, undef, undef, undef, undef, undef, undef, undef, undef, undef, undef, undef, undef, undef, undef, undef, undef, undef, undef, undef, undef, undef, undef, undef, undef, undef, undef, undef, undef, undef, undef, undef, undef, undef, undef, undef, undef, undef, undef, undef, undef, undef, undef, undef, undef, undef, undef, undef, undef, undef, undef, undef, undef, undef, undef, undef, undef, undef, undef, undef, undef, undef, undef, undef, undef, undef, undef, undef, undef, undef, undef, undef, undef, undef, undef, undef, undef, undef, undef, undef, undef, undef, undef, undef, undef, undef, undef, undef, undef, undef, undef, undef, undef, undef, undef, undef, undef], []⟩ W := by
  conv => arg 2; whnf
  have HW0 := Aside0.mk hw0
  have HB := Aside0.mk hb
  have HP := Aside0.mk hP
  have HS := Aside0.mk (And.intro hr (And.intro hc (And.intro hm0 h1)))
  clear hr hc hw0 hb hP hm0 h1
  have HLen := Aside0.mk (fun (W : World) (z : Int) (hz : z.natAbs < 9223372036854775808) => PFnNumberDecimalNear.tdstrconv_LenInt.calls z _ W (lenI_eq z hz))
  go_upto_block 0 with (fail)
  go_cut [8, 11, 13, 15, 16, 17, 18, 19, 20, 21] (fun v8 v11 v13 v15 v16 v17 v18 v19 v20 v21 wc => ∃ (x : Int) (iN last dot jj : Nat) (jv : Int) (full1 : List Int), v11 = .int .i64 x ∧ v13 = .int .i64 (iN : Int) ∧ v16 = .int .i64 (last : Int) ∧ v17 = .int .i64 (dot : Int) ∧ v18 = .int .i64 jv ∧ Aside0 (jv = (jj : Int) - 1 ∧ Row 5 wc g full1 ∧ full1.length = c ∧ Below base w0 wc) ∧ Aside0 (S2 i0 r N pre 0 x iN last dot jj full1))
  case first =>
    go_wp2_with (fail)
    go_loopg [8, 11, 13, 15, 16, 17, 18, 19, 20, 21] m0 (fun kq v8 v11 v13 v15 v16 v17 v18 v19 v20 v21 w' => ∃ (x : Int) (iN last dot jj : Nat) (jv : Int) (full1 : List Int), v8 = .int .i64 (kq : Int) ∧ v11 = .int .i64 x ∧ v13 = .int .i64 (iN : Int) ∧ v16 = .int .i64 (last : Int) ∧ v17 = .int .i64 (dot : Int) ∧ v18 = .int .i64 jv ∧ Aside0 (jv = (jj : Int) - 1 ∧ Row 5 w' g full1 ∧ full1.length = c ∧ Below base w0 w' ∧ kq < 9000000000000000000) ∧ ((v15 = .bool true ∧ Aside0 (S1 i0 r n K dot0 last0 x0 pre kq x iN last dot jj full1)) ∨ (v15 = .bool false ∧ Aside0 (S2 i0 r N pre kq x iN last dot jj full1))))
    case atStart => exact ⟨x0, i0, last0, dot0, last0 + 1, (last0 : Int), full, rfl, rfl, rfl, rfl, rfl, rfl, ⟨by omega, HS.out.1, HS.out.2.1, HW0.out, HS.out.2.2.1⟩, .inl ⟨rfl, ⟨HS.out.2.2.2⟩⟩⟩
    case round =>
      clear HS HW0
      obtain ⟨x, iN, last, dot, jj, jv, full1, rfl, rfl, rfl, rfl, rfl, rfl, HI, ⟨rfl, HS1⟩ | ⟨rfl, HS2⟩⟩ := hrel
      · have hS := HS1.out
        obtain ⟨hjv, hrow, hlen, hbel, hgk9⟩ := HI.out
        have HBd := Aside0.mk hgk9
        have hN1 := HP.out.hN
        have hNc := HP.out.hc
        have hpl := HP.out.hpl
        have hlt := hS.lt HP.out
        obtain ⟨y, hy⟩ : ∃ y : Nat, y = gk / 10 := ⟨_, rfl⟩
        obtain ⟨d, hd⟩ : ∃ d : Nat, d = gk % 10 := ⟨_, rfl⟩
        have hd10 : d < 10 := by omega
        have hyd : gk = 10 * y + d := by omega
        have hgk : gk ≠ 0 := hlt.2.2.2.2.2.1
        obtain ⟨j, rfl⟩ : ∃ j, jj = j + 1 := ⟨jj - 1, by omega⟩
        obtain rfl : jv = (j : Int) := by omega
        have HQ := Aside0.mk (And.intro hy hd)
        clear hjv hgk9
        by_cases hj : j = dot
        · subst hj
          obtain ⟨jd, hjd⟩ : ∃ jd : Nat, j = jd + 1 := ⟨j - 1, by omega⟩
          have hS' : S1 i0 r n K dot0 last0 x0 pre gk x iN last j (jd + 2) full1 := by rw [show jd + 2 = j + 1 by omega]; exact hS
          have HJ := Aside0.mk hjd
          by_cases hz : d = 0
          · have hRd := hrow.store j 46
            have hcd := hrow.cell j (by omega)
            have hfd := hrow.frozen j
            have hce := hRd.cell jd (by rw [List.length_set]; omega)
            have hfe := hRd.frozen jd
            have hRow := hRd.store jd ((48 : Int) + (d : Nat))
            have hLen : ((full1.set j 46).set jd ((48 : Int) + (d : Nat))).length = c := by rw [List.length_set, List.length_set]; exact hlen
            have hBel := (hbel.setCell HB.out (p := ⟨g, j, none⟩) (.int .u8 46)).setCell HB.out (p := ⟨g, jd, none⟩) (.int .u8 ((48 : Int) + (d : Nat)))
            have hNew : S1 i0 r n K dot0 last0 x0 pre y x iN last j jd ((full1.set j 46).set jd ((48 : Int) + (d : Nat))) := by
              have h := S1.hit0 HP.out hlen hS' hjd (by omega)
              rw [← hy] at h
              rw [show (48 : Int) + (d : Nat) = 48 by omega]
              rw [hjd] at h ⊢
              exact h

            have HX := Aside0.mk (And.intro hRow (And.intro hLen (And.intro hBel (show y < 9000000000000000000 by have := HBd.out; omega))))
            have HN := Aside0.mk hNew
            have HU := Aside0.mk (show y < gk by omega)
            have hM := HP.out.hm
            have hB4 := HBd.out
            have p1 : (0 : Int) < (gk : Int) := by omega
            have p2 : 0 < gk := by omega
            have p3 : (gk : Int) / 10 = (y : Int) ∧ -9000000000000000000 ≤ (y : Int) ∧ (y : Int) ≤ 9000000000000000000 := by omega
            have p4 : 10 * (y : Int) = 10 * (y : Int) ∧ -9000000000000000000 ≤ 10 * (y : Int) ∧ 10 * (y : Int) ≤ 9000000000000000000 := by omega
            have p5 : (gk : Int) - 10 * (y : Int) = (d : Int) ∧ -9000000000000000000 ≤ (d : Int) ∧ (d : Int) ≤ 9000000000000000000 := by omega
            have p6 : ¬ ((0 : Int) < (d : Int)) := by omega
            have p7 : ¬ (0 < d) := by omega
            have p8 : (j : Int) < (N : Int) := by omega
            have p9 : (0 : Int) ≤ (j : Int) := by omega
            have p10 : j < N := by omega
            have p11 : (jd : Int) < (N : Int) := by omega
            have p12 : (0 : Int) ≤ (jd : Int) := by omega
            have p13 : jd < N := by omega
            have p14 : (jd : Int) - 1 = (jd : Int) - 1 ∧ -9000000000000000000 ≤ (jd : Int) - 1 ∧ (jd : Int) - 1 ≤ 9000000000000000000 := by omega
            have p15 : (j : Int) - 1 = (jd : Int) ∧ -9000000000000000000 ≤ (jd : Int) ∧ (jd : Int) ≤ 9000000000000000000 := by omega
            have t1 := eq_true p1
            have d1 : decide ((0 : Int) < (gk : Int)) = true := decide_eq_true p1
            have t2 := eq_true p2
            have d2 : decide (0 < gk) = true := decide_eq_true p2
            have my := w64 p3.1 p3.2.1 p3.2.2
            have t4 := w64 p4.1 p4.2.1 p4.2.2
            have md := w64 p5.1 p5.2.1 p5.2.2
            have t6 := eq_false p6
            have d6 : decide ((0 : Int) < (d : Int)) = false := decide_eq_false p6
            have t7 := eq_false p7
            have d7 : decide (0 < d) = false := decide_eq_false p7
            have t8 := eq_true p8
            have d8 : decide ((j : Int) < (N : Int)) = true := decide_eq_true p8
            have t9 := eq_true p9
            have d9 : decide ((0 : Int) ≤ (j : Int)) = true := decide_eq_true p9
            have t10 := eq_true p10
            have d10 : decide (j < N) = true := decide_eq_true p10
            have t11 := eq_true p11
            have d11 : decide ((jd : Int) < (N : Int)) = true := decide_eq_true p11
            have t12 := eq_true p12
            have d12 : decide ((0 : Int) ≤ (jd : Int)) = true := decide_eq_true p12
            have t13 := eq_true p13
            have d13 : decide (jd < N) = true := decide_eq_true p13
            have mk := w64 p14.1 p14.2.1 p14.2.2
            have mj := w64 p15.1 p15.2.1 p15.2.2
            clear hM hB4 p1 p2 p3 p4 p5 p6 p7 p8 p9 p10 p11 p12 p13 p14 p15
            have m7 := u8a hd10
            have m8 := u8b hd10
            clear hjd hS' hz hd hy hpl hN1 hNc hrow hlen hbel hRow hLen hBel hNew hS hyd hd10 hgk hlt hRd
            go_wp2_with (fail)
            go_roundg y
            case measure => exact HU.out
            case rel => exact ⟨x, iN, last, j, jd, (jd : Int) - 1, ((full1.set j 46).set jd ((48 : Int) + (d : Nat))), by first | with_reducible rfl | (simp only [my, md, mk, mj]; done) | exact congrArg (Value.int IntKind.i64) (Int.natCast_succ _).symm, by first | with_reducible rfl | (simp only [my, md, mk, mj]; done) | exact congrArg (Value.int IntKind.i64) (Int.natCast_succ _).symm, by first | with_reducible rfl | (simp only [my, md, mk, mj]; done) | exact congrArg (Value.int IntKind.i64) (Int.natCast_succ _).symm, by first | with_reducible rfl | (simp only [my, md, mk, mj]; done) | exact congrArg (Value.int IntKind.i64) (Int.natCast_succ _).symm, by first | with_reducible rfl | (simp only [my, md, mk, mj]; done) | exact congrArg (Value.int IntKind.i64) (Int.natCast_succ _).symm, by first | with_reducible rfl | (simp only [my, md, mk, mj]; done) | exact congrArg (Value.int IntKind.i64) (Int.natCast_succ _).symm, ⟨rfl, HX.out⟩, .inl ⟨rfl, HN⟩⟩
          · have hRd := hrow.store j 46
            have hcd := hrow.cell j (by omega)
            have hfd := hrow.frozen j
            have hce := hRd.cell jd (by rw [List.length_set]; omega)
            have hfe := hRd.frozen jd
            have hRow := hRd.store jd ((48 : Int) + (d : Nat))
            have hLen : ((full1.set j 46).set jd ((48 : Int) + (d : Nat))).length = c := by rw [List.length_set, List.length_set]; exact hlen
            have hBel := (hbel.setCell HB.out (p := ⟨g, j, none⟩) (.int .u8 46)).setCell HB.out (p := ⟨g, jd, none⟩) (.int .u8 ((48 : Int) + (d : Nat)))
            have hNew : S2 i0 r N pre y x j jd j jd ((full1.set j 46).set jd ((48 : Int) + (d : Nat))) := by
              have h := S1.hit1 HP.out hlen hS' hjd (by omega)
              rw [← hy] at h
              rw [← hd] at h
              rw [hjd] at h ⊢
              exact h

            have HX := Aside0.mk (And.intro hRow (And.intro hLen (And.intro hBel (show y < 9000000000000000000 by have := HBd.out; omega))))
            have HN := Aside0.mk hNew
            have HU := Aside0.mk (show y < gk by omega)
            have hM := HP.out.hm
            have hB4 := HBd.out
            have p16 : (0 : Int) < (gk : Int) := by omega
            have p17 : 0 < gk := by omega
            have p18 : (gk : Int) / 10 = (y : Int) ∧ -9000000000000000000 ≤ (y : Int) ∧ (y : Int) ≤ 9000000000000000000 := by omega
            have p19 : 10 * (y : Int) = 10 * (y : Int) ∧ -9000000000000000000 ≤ 10 * (y : Int) ∧ 10 * (y : Int) ≤ 9000000000000000000 := by omega
            have p20 : (gk : Int) - 10 * (y : Int) = (d : Int) ∧ -9000000000000000000 ≤ (d : Int) ∧ (d : Int) ≤ 9000000000000000000 := by omega
            have p21 : (0 : Int) < (d : Int) := by omega
            have p22 : 0 < d := by omega
            have p23 : (j : Int) < (N : Int) := by omega
            have p24 : (0 : Int) ≤ (j : Int) := by omega
            have p25 : j < N := by omega
            have p26 : (jd : Int) < (N : Int) := by omega
            have p27 : (0 : Int) ≤ (jd : Int) := by omega
            have p28 : jd < N := by omega
            have p29 : (jd : Int) - 1 = (jd : Int) - 1 ∧ -9000000000000000000 ≤ (jd : Int) - 1 ∧ (jd : Int) - 1 ≤ 9000000000000000000 := by omega
            have p30 : (j : Int) - 1 = (jd : Int) ∧ -9000000000000000000 ≤ (jd : Int) ∧ (jd : Int) ≤ 9000000000000000000 := by omega
            have p31 : ¬ ((j : Int) < (jd : Int)) := by omega
            have p32 : ¬ (j < jd) := by omega
            have t16 := eq_true p16
            have d16 : decide ((0 : Int) < (gk : Int)) = true := decide_eq_true p16
            have t17 := eq_true p17
            have d17 : decide (0 < gk) = true := decide_eq_true p17
            have my := w64 p18.1 p18.2.1 p18.2.2
            have t19 := w64 p19.1 p19.2.1 p19.2.2
            have md := w64 p20.1 p20.2.1 p20.2.2
            have t21 := eq_true p21
            have d21 : decide ((0 : Int) < (d : Int)) = true := decide_eq_true p21
            have t22 := eq_true p22
            have d22 : decide (0 < d) = true := decide_eq_true p22
            have t23 := eq_true p23
            have d23 : decide ((j : Int) < (N : Int)) = true := decide_eq_true p23
            have t24 := eq_true p24
            have d24 : decide ((0 : Int) ≤ (j : Int)) = true := decide_eq_true p24
            have t25 := eq_true p25
            have d25 : decide (j < N) = true := decide_eq_true p25
            have t26 := eq_true p26
            have d26 : decide ((jd : Int) < (N : Int)) = true := decide_eq_true p26
            have t27 := eq_true p27
            have d27 : decide ((0 : Int) ≤ (jd : Int)) = true := decide_eq_true p27
            have t28 := eq_true p28
            have d28 : decide (jd < N) = true := decide_eq_true p28
            have mk := w64 p29.1 p29.2.1 p29.2.2
            have mj := w64 p30.1 p30.2.1 p30.2.2
            have t31 := eq_false p31
            have d31 : decide ((j : Int) < (jd : Int)) = false := decide_eq_false p31
            have t32 := eq_false p32
            have d32 : decide (j < jd) = false := decide_eq_false p32
            clear hM hB4 p16 p17 p18 p19 p20 p21 p22 p23 p24 p25 p26 p27 p28 p29 p30 p31 p32
            have m7 := u8a hd10
            have m8 := u8b hd10
            clear hjd hS' hz hd hy hpl hN1 hNc hrow hlen hbel hRow hLen hBel hNew hS hyd hd10 hgk hlt hRd
            go_wp2_with (fail)
            go_roundg y
            case measure => exact HU.out
            case rel => exact ⟨x, j, jd, j, jd, (jd : Int) - 1, ((full1.set j 46).set jd ((48 : Int) + (d : Nat))), by first | with_reducible rfl | (simp only [my, md, mk, mj]; done) | exact congrArg (Value.int IntKind.i64) (Int.natCast_succ _).symm, by first | with_reducible rfl | (simp only [my, md, mk, mj]; done) | exact congrArg (Value.int IntKind.i64) (Int.natCast_succ _).symm, by first | with_reducible rfl | (simp only [my, md, mk, mj]; done) | exact congrArg (Value.int IntKind.i64) (Int.natCast_succ _).symm, by first | with_reducible rfl | (simp only [my, md, mk, mj]; done) | exact congrArg (Value.int IntKind.i64) (Int.natCast_succ _).symm, by first | with_reducible rfl | (simp only [my, md, mk, mj]; done) | exact congrArg (Value.int IntKind.i64) (Int.natCast_succ _).symm, by first | with_reducible rfl | (simp only [my, md, mk, mj]; done) | exact congrArg (Value.int IntKind.i64) (Int.natCast_succ _).symm, ⟨rfl, HX.out⟩, .inr ⟨rfl, HN⟩⟩
        · by_cases hz : d = 0
          · have hce := hrow.cell j (by omega)
            have hfe := hrow.frozen j
            have hRow := hrow.store j ((48 : Int) + (d : Nat))
            have hLen : (full1.set j ((48 : Int) + (d : Nat))).length = c := by rw [List.length_set]; exact hlen
            have hBel := hbel.setCell HB.out (p := ⟨g, j, none⟩) (.int .u8 ((48 : Int) + (d : Nat)))
            have hNew : S1 i0 r n K dot0 last0 x0 pre y x iN last dot j (full1.set j ((48 : Int) + (d : Nat))) := by
              have h := S1.go0 HP.out hlen hS (fun h => hj h.symm) (by omega)
              rw [← hy] at h
              rw [show (48 : Int) + (d : Nat) = 48 by omega]
              exact h

            have HX := Aside0.mk (And.intro hRow (And.intro hLen (And.intro hBel (show y < 9000000000000000000 by have := HBd.out; omega))))
            have HN := Aside0.mk hNew
            have HU := Aside0.mk (show y < gk by omega)
            have hM := HP.out.hm
            have hB4 := HBd.out
            have p33 : (0 : Int) < (gk : Int) := by omega
            have p34 : 0 < gk := by omega
            have p35 : (gk : Int) / 10 = (y : Int) ∧ -9000000000000000000 ≤ (y : Int) ∧ (y : Int) ≤ 9000000000000000000 := by omega
            have p36 : 10 * (y : Int) = 10 * (y : Int) ∧ -9000000000000000000 ≤ 10 * (y : Int) ∧ 10 * (y : Int) ≤ 9000000000000000000 := by omega
            have p37 : (gk : Int) - 10 * (y : Int) = (d : Int) ∧ -9000000000000000000 ≤ (d : Int) ∧ (d : Int) ≤ 9000000000000000000 := by omega
            have p38 : ¬ ((0 : Int) < (d : Int)) := by omega
            have p39 : ¬ (0 < d) := by omega
            have p40 : (j : Int) < (N : Int) := by omega
            have p41 : (0 : Int) ≤ (j : Int) := by omega
            have p42 : j < N := by omega
            have p43 : (j : Int) - 1 = (j : Int) - 1 ∧ -9000000000000000000 ≤ (j : Int) - 1 ∧ (j : Int) - 1 ≤ 9000000000000000000 := by omega
            have p44 : ¬ ((j : Int) = (dot : Int)) := by omega
            have p45 : ¬ (j = dot) := by omega
            have t33 := eq_true p33
            have d33 : decide ((0 : Int) < (gk : Int)) = true := decide_eq_true p33
            have t34 := eq_true p34
            have d34 : decide (0 < gk) = true := decide_eq_true p34
            have my := w64 p35.1 p35.2.1 p35.2.2
            have t36 := w64 p36.1 p36.2.1 p36.2.2
            have md := w64 p37.1 p37.2.1 p37.2.2
            have t38 := eq_false p38
            have d38 : decide ((0 : Int) < (d : Int)) = false := decide_eq_false p38
            have t39 := eq_false p39
            have d39 : decide (0 < d) = false := decide_eq_false p39
            have t40 := eq_true p40
            have d40 : decide ((j : Int) < (N : Int)) = true := decide_eq_true p40
            have t41 := eq_true p41
            have d41 : decide ((0 : Int) ≤ (j : Int)) = true := decide_eq_true p41
            have t42 := eq_true p42
            have d42 : decide (j < N) = true := decide_eq_true p42
            have mk := w64 p43.1 p43.2.1 p43.2.2
            have t44 := eq_false p44
            have s44 : ((j : Int) == (dot : Int)) = false := beq_eq_false_iff_ne.mpr p44
            have r44 : ((j : Int) != (dot : Int)) = true := bne_iff_ne.mpr p44
            have t45 := eq_false p45
            have d45 : decide (j = dot) = false := decide_eq_false p45
            clear hM hB4 p33 p34 p35 p36 p37 p38 p39 p40 p41 p42 p43 p44 p45
            have m7 := u8a hd10
            have m8 := u8b hd10
            clear hz hd hy hpl hN1 hNc hrow hlen hbel hRow hLen hBel hNew hS hyd hd10 hgk hlt hj
            go_wp2_with (fail)
            go_roundg y
            case measure => exact HU.out
            case rel => exact ⟨x, iN, last, dot, j, (j : Int) - 1, (full1.set j ((48 : Int) + (d : Nat))), by first | with_reducible rfl | (simp only [my, md, mk]; done) | exact congrArg (Value.int IntKind.i64) (Int.natCast_succ _).symm, by first | with_reducible rfl | (simp only [my, md, mk]; done) | exact congrArg (Value.int IntKind.i64) (Int.natCast_succ _).symm, by first | with_reducible rfl | (simp only [my, md, mk]; done) | exact congrArg (Value.int IntKind.i64) (Int.natCast_succ _).symm, by first | with_reducible rfl | (simp only [my, md, mk]; done) | exact congrArg (Value.int IntKind.i64) (Int.natCast_succ _).symm, by first | with_reducible rfl | (simp only [my, md, mk]; done) | exact congrArg (Value.int IntKind.i64) (Int.natCast_succ _).symm, by first | with_reducible rfl | (simp only [my, md, mk]; done) | exact congrArg (Value.int IntKind.i64) (Int.natCast_succ _).symm, ⟨rfl, HX.out⟩, .inl ⟨rfl, HN⟩⟩
          · by_cases hb4 : dot < j
            · by_cases hx0 : x < 0
              · obtain ⟨jd, hjd⟩ : ∃ jd : Nat, j = jd + 1 := ⟨j - 1, by omega⟩
                obtain ⟨e, he⟩ : ∃ e : Nat, e = j - dot := ⟨_, rfl⟩
                obtain ⟨x2, hx2⟩ : ∃ x2 : Int, x2 = x - (e : Int) := ⟨_, rfl⟩
                by_cases hll : lenI x2 = lenI x
                · have hce := hrow.cell jd (by omega)
                  have hfe := hrow.frozen jd
                  have hRow := hrow.store jd ((48 : Int) + (d : Nat))
                  have hLen : (full1.set jd ((48 : Int) + (d : Nat))).length = c := by rw [List.length_set]; exact hlen
                  have hBel := hbel.setCell HB.out (p := ⟨g, jd, none⟩) (.int .u8 ((48 : Int) + (d : Nat)))
                  have hNew : S2 i0 r N pre y x2 j jd j jd (full1.set jd ((48 : Int) + (d : Nat))) := by
                    have h := S1.moved HP.out hlen (show S1 i0 r n K dot0 last0 x0 pre gk x iN last dot (jd + 2) full1 by rw [show jd + 2 = j + 1 by omega]; exact hS) (by omega) (by omega) hx0 x2 (by omega) hll
                    rw [← hy, ← hd, ← hjd] at h
                    exact h

                  have HX := Aside0.mk (fun nd : Nat => And.intro ((hrow.drewN nd).store jd ((48 : Int) + (d : Nat))) (And.intro hLen (And.intro ((pw_below_drewN hbel nd).setCell HB.out (p := ⟨g, jd, none⟩) (.int .u8 ((48 : Int) + (d : Nat)))) (show y < 9000000000000000000 by have := HBd.out; omega))))
                  have HN := Aside0.mk hNew
                  have HU := Aside0.mk (show y < gk by omega)
                  have hM0 := HP.out.hm
                  have HLA := Aside0.mk (fun W : World => HLen.out W x2 (by omega))
                  have HLB := Aside0.mk (fun W : World => HLen.out W x (by omega))
                  generalize hq1 : lenI x2 = q1 at *
                  generalize hq2 : lenI x = q2 at *
                  have HQ2 := Aside0.mk (And.intro hq1 hq2)
                  clear hM0
                  have hM := HP.out.hm
                  have hB4 := HBd.out
                  have p63 : (0 : Int) < (gk : Int) := by omega
                  have p64 : 0 < gk := by omega
                  have p65 : (gk : Int) / 10 = (y : Int) ∧ -9000000000000000000 ≤ (y : Int) ∧ (y : Int) ≤ 9000000000000000000 := by omega
                  have p66 : 10 * (y : Int) = 10 * (y : Int) ∧ -9000000000000000000 ≤ 10 * (y : Int) ∧ 10 * (y : Int) ≤ 9000000000000000000 := by omega
                  have p67 : (gk : Int) - 10 * (y : Int) = (d : Int) ∧ -9000000000000000000 ≤ (d : Int) ∧ (d : Int) ≤ 9000000000000000000 := by omega
                  have p68 : (0 : Int) < (d : Int) := by omega
                  have p69 : 0 < d := by omega
                  have p70 : (jd : Int) < (N : Int) := by omega
                  have p71 : (0 : Int) ≤ (jd : Int) := by omega
                  have p72 : jd < N := by omega
                  have p73 : (jd : Int) - 1 = (jd : Int) - 1 ∧ -9000000000000000000 ≤ (jd : Int) - 1 ∧ (jd : Int) - 1 ≤ 9000000000000000000 := by omega
                  have p74 : ¬ ((j : Int) = (dot : Int)) := by omega
                  have p75 : ¬ (j = dot) := by omega
                  have p76 : (dot : Int) < (j : Int) := by omega
                  have p77 : dot < j := by omega
                  have p78 : (j : Int) + 1 = (j : Int) + 1 ∧ -9000000000000000000 ≤ (j : Int) + 1 ∧ (j : Int) + 1 ≤ 9000000000000000000 := by omega
                  have p79 : (j : Int) + 1 - 1 = (j : Int) ∧ -9000000000000000000 ≤ (j : Int) ∧ (j : Int) ≤ 9000000000000000000 := by omega
                  have p80 : (j : Int) - 1 = (jd : Int) ∧ -9000000000000000000 ≤ (jd : Int) ∧ (jd : Int) ≤ 9000000000000000000 := by omega
                  have p81 : (q1 : Int) = (q2 : Int) := by omega
                  have p82 : q1 = q2 := by omega
                  have p83 : (j : Int) = (j : Int) ∧ -9000000000000000000 ≤ (j : Int) ∧ (j : Int) ≤ 9000000000000000000 := by omega
                  have p84 : x < 0 := by omega
                  have p85 : (j : Int) - (dot : Int) = (e : Int) ∧ -9000000000000000000 ≤ (e : Int) ∧ (e : Int) ≤ 9000000000000000000 := by omega
                  have p86 : x - (e : Int) = x2 ∧ -9000000000000000000 ≤ x2 ∧ x2 ≤ 9000000000000000000 := by omega
                  have t63 := eq_true p63
                  have d63 : decide ((0 : Int) < (gk : Int)) = true := decide_eq_true p63
                  have t64 := eq_true p64
                  have d64 : decide (0 < gk) = true := decide_eq_true p64
                  have my := w64 p65.1 p65.2.1 p65.2.2
                  have t66 := w64 p66.1 p66.2.1 p66.2.2
                  have md := w64 p67.1 p67.2.1 p67.2.2
                  have t68 := eq_true p68
                  have d68 : decide ((0 : Int) < (d : Int)) = true := decide_eq_true p68
                  have t69 := eq_true p69
                  have d69 : decide (0 < d) = true := decide_eq_true p69
                  have t70 := eq_true p70
                  have d70 : decide ((jd : Int) < (N : Int)) = true := decide_eq_true p70
                  have t71 := eq_true p71
                  have d71 : decide ((0 : Int) ≤ (jd : Int)) = true := decide_eq_true p71
                  have t72 := eq_true p72
                  have d72 : decide (jd < N) = true := decide_eq_true p72
                  have mk := w64 p73.1 p73.2.1 p73.2.2
                  have t74 := eq_false p74
                  have s74 : ((j : Int) == (dot : Int)) = false := beq_eq_false_iff_ne.mpr p74
                  have r74 : ((j : Int) != (dot : Int)) = true := bne_iff_ne.mpr p74
                  have t75 := eq_false p75
                  have d75 : decide (j = dot) = false := decide_eq_false p75
                  have t76 := eq_true p76
                  have d76 : decide ((dot : Int) < (j : Int)) = true := decide_eq_true p76
                  have t77 := eq_true p77
                  have d77 : decide (dot < j) = true := decide_eq_true p77
                  have mi := w64 p78.1 p78.2.1 p78.2.2
                  have mi2 := w64 p79.1 p79.2.1 p79.2.2
                  have mj := w64 p80.1 p80.2.1 p80.2.2
                  have t81 := eq_true p81
                  have s81 : ((q1 : Int) == (q2 : Int)) = true := beq_iff_eq.mpr p81
                  have r81 : ((q1 : Int) != (q2 : Int)) = false := by rw [bne, s81]; rfl
                  have t82 := eq_true p82
                  have d82 : decide (q1 = q2) = true := decide_eq_true p82
                  have mj3 := w64 p83.1 p83.2.1 p83.2.2
                  have t84 := eq_true p84
                  have d84 : decide (x < 0) = true := decide_eq_true p84
                  have t85 := w64 p85.1 p85.2.1 p85.2.2
                  have mx := w64 p86.1 p86.2.1 p86.2.2
                  clear hM hB4 p63 p64 p65 p66 p67 p68 p69 p70 p71 p72 p73 p74 p75 p76 p77 p78 p79 p80 p81 p82 p83 p84 p85 p86
                  have m7 := u8a hd10
                  have m8 := u8b hd10
                  clear hz hd hy hpl hN1 hNc hb4 hx0 hjd he hx2 hll hq1 hq2 hrow hlen hbel hRow hLen hBel hNew hS hyd hd10 hgk hlt hj
                  go_wp2_with (first | (go_at_call 29; with_reducible refine (HLA.out _).mono ?_; rintro e w' ⟨rfl, ⟨nd1, rfl⟩⟩) | (go_at_call 29; with_reducible refine (HLB.out _).mono ?_; rintro e w' ⟨rfl, ⟨nd2, rfl⟩⟩))
                  go_roundg y
                  case measure => exact HU.out
                  case rel => exact ⟨x2, j, jd, j, jd, (jd : Int) - 1, (full1.set jd ((48 : Int) + (d : Nat))), by first | with_reducible rfl | (simp only [my, md, mk, mi, mi2, mj, mj3, mx]; done) | exact congrArg (Value.int IntKind.i64) (Int.natCast_succ _).symm, by first | with_reducible rfl | (simp only [my, md, mk, mi, mi2, mj, mj3, mx]; done) | exact congrArg (Value.int IntKind.i64) (Int.natCast_succ _).symm, by first | with_reducible rfl | (simp only [my, md, mk, mi, mi2, mj, mj3, mx]; done) | exact congrArg (Value.int IntKind.i64) (Int.natCast_succ _).symm, by first | with_reducible rfl | (simp only [my, md, mk, mi, mi2, mj, mj3, mx]; done) | exact congrArg (Value.int IntKind.i64) (Int.natCast_succ _).symm, by first | with_reducible rfl | (simp only [my, md, mk, mi, mi2, mj, mj3, mx]; done) | exact congrArg (Value.int IntKind.i64) (Int.natCast_succ _).symm, by first | with_reducible rfl | (simp only [my, md, mk, mi, mi2, mj, mj3, mx]; done) | exact congrArg (Value.int IntKind.i64) (Int.natCast_succ _).symm, ⟨rfl, HX.out _⟩, .inr ⟨rfl, HN⟩⟩
                · have hce := hrow.cell j (by omega)
                  have hfe := hrow.frozen j
                  have hRow := hrow.store j ((48 : Int) + (d : Nat))
                  have hLen : (full1.set j ((48 : Int) + (d : Nat))).length = c := by rw [List.length_set]; exact hlen
                  have hBel := hbel.setCell HB.out (p := ⟨g, j, none⟩) (.int .u8 ((48 : Int) + (d : Nat)))
                  have hNew : S2 i0 r N pre y x (j + 1) j dot j (full1.set j ((48 : Int) + (d : Nat))) := by
                    have h := S1.behind HP.out hlen hS hb4 (by omega)
                    rw [← hy] at h
                    rw [← hd] at h
                    exact h

                  have HX := Aside0.mk (fun nd : Nat => And.intro ((hrow.drewN nd).store j ((48 : Int) + (d : Nat))) (And.intro hLen (And.intro ((pw_below_drewN hbel nd).setCell HB.out (p := ⟨g, j, none⟩) (.int .u8 ((48 : Int) + (d : Nat)))) (show y < 9000000000000000000 by have := HBd.out; omega))))
                  have HN := Aside0.mk hNew
                  have HU := Aside0.mk (show y < gk by omega)
                  have hM0 := HP.out.hm
                  have HLA := Aside0.mk (fun W : World => HLen.out W x2 (by omega))
                  have HLB := Aside0.mk (fun W : World => HLen.out W x (by omega))
                  generalize hq1 : lenI x2 = q1 at *
                  generalize hq2 : lenI x = q2 at *
                  have HQ2 := Aside0.mk (And.intro hq1 hq2)
                  clear hM0
                  have hM := HP.out.hm
                  have hB4 := HBd.out
                  have p87 : (0 : Int) < (gk : Int) := by omega
                  have p88 : 0 < gk := by omega
                  have p89 : (gk : Int) / 10 = (y : Int) ∧ -9000000000000000000 ≤ (y : Int) ∧ (y : Int) ≤ 9000000000000000000 := by omega
                  have p90 : 10 * (y : Int) = 10 * (y : Int) ∧ -9000000000000000000 ≤ 10 * (y : Int) ∧ 10 * (y : Int) ≤ 9000000000000000000 := by omega
                  have p91 : (gk : Int) - 10 * (y : Int) = (d : Int) ∧ -9000000000000000000 ≤ (d : Int) ∧ (d : Int) ≤ 9000000000000000000 := by omega
                  have p92 : (0 : Int) < (d : Int) := by omega
                  have p93 : 0 < d := by omega
                  have p94 : (j : Int) < (N : Int) := by omega
                  have p95 : (0 : Int) ≤ (j : Int) := by omega
                  have p96 : j < N := by omega
                  have p97 : (j : Int) - 1 = (j : Int) - 1 ∧ -9000000000000000000 ≤ (j : Int) - 1 ∧ (j : Int) - 1 ≤ 9000000000000000000 := by omega
                  have p98 : ¬ ((j : Int) = (dot : Int)) := by omega
                  have p99 : ¬ (j = dot) := by omega
                  have p100 : (dot : Int) < (j : Int) := by omega
                  have p101 : dot < j := by omega
                  have p102 : (j : Int) + 1 = ((j + 1 : Nat) : Int) ∧ -9000000000000000000 ≤ ((j + 1 : Nat) : Int) ∧ ((j + 1 : Nat) : Int) ≤ 9000000000000000000 := by omega
                  have p103 : ¬ ((q1 : Int) = (q2 : Int)) := by omega
                  have p104 : ¬ (q1 = q2) := by omega
                  have p105 : x < 0 := by omega
                  have p106 : (j : Int) - (dot : Int) = (e : Int) ∧ -9000000000000000000 ≤ (e : Int) ∧ (e : Int) ≤ 9000000000000000000 := by omega
                  have p107 : x - (e : Int) = x2 ∧ -9000000000000000000 ≤ x2 ∧ x2 ≤ 9000000000000000000 := by omega
                  have t87 := eq_true p87
                  have d87 : decide ((0 : Int) < (gk : Int)) = true := decide_eq_true p87
                  have t88 := eq_true p88
                  have d88 : decide (0 < gk) = true := decide_eq_true p88
                  have my := w64 p89.1 p89.2.1 p89.2.2
                  have t90 := w64 p90.1 p90.2.1 p90.2.2
                  have md := w64 p91.1 p91.2.1 p91.2.2
                  have t92 := eq_true p92
                  have d92 : decide ((0 : Int) < (d : Int)) = true := decide_eq_true p92
                  have t93 := eq_true p93
                  have d93 : decide (0 < d) = true := decide_eq_true p93
                  have t94 := eq_true p94
                  have d94 : decide ((j : Int) < (N : Int)) = true := decide_eq_true p94
                  have t95 := eq_true p95
                  have d95 : decide ((0 : Int) ≤ (j : Int)) = true := decide_eq_true p95
                  have t96 := eq_true p96
                  have d96 : decide (j < N) = true := decide_eq_true p96
                  have mk := w64 p97.1 p97.2.1 p97.2.2
                  have t98 := eq_false p98
                  have s98 : ((j : Int) == (dot : Int)) = false := beq_eq_false_iff_ne.mpr p98
                  have r98 : ((j : Int) != (dot : Int)) = true := bne_iff_ne.mpr p98
                  have t99 := eq_false p99
                  have d99 : decide (j = dot) = false := decide_eq_false p99
                  have t100 := eq_true p100
                  have d100 : decide ((dot : Int) < (j : Int)) = true := decide_eq_true p100
                  have t101 := eq_true p101
                  have d101 : decide (dot < j) = true := decide_eq_true p101
                  have mi := w64 p102.1 p102.2.1 p102.2.2
                  have t103 := eq_false p103
                  have s103 : ((q1 : Int) == (q2 : Int)) = false := beq_eq_false_iff_ne.mpr p103
                  have r103 : ((q1 : Int) != (q2 : Int)) = true := bne_iff_ne.mpr p103
                  have t104 := eq_false p104
                  have d104 : decide (q1 = q2) = false := decide_eq_false p104
                  have t105 := eq_true p105
                  have d105 : decide (x < 0) = true := decide_eq_true p105
                  have t106 := w64 p106.1 p106.2.1 p106.2.2
                  have mx := w64 p107.1 p107.2.1 p107.2.2
                  clear hM hB4 p87 p88 p89 p90 p91 p92 p93 p94 p95 p96 p97 p98 p99 p100 p101 p102 p103 p104 p105 p106 p107
                  have m7 := u8a hd10
                  have m8 := u8b hd10
                  clear hjd hz hd hy hpl hN1 hNc hb4 hx0 he hx2 hll hq1 hq2 hrow hlen hbel hRow hLen hBel hNew hS hyd hd10 hgk hlt hj
                  go_wp2_with (first | (go_at_call 29; with_reducible refine (HLA.out _).mono ?_; rintro e w' ⟨rfl, ⟨nd1, rfl⟩⟩) | (go_at_call 29; with_reducible refine (HLB.out _).mono ?_; rintro e w' ⟨rfl, ⟨nd2, rfl⟩⟩))
                  go_roundg y
                  case measure => exact HU.out
                  case rel => exact ⟨x, (j + 1), j, dot, j, (j : Int) - 1, (full1.set j ((48 : Int) + (d : Nat))), by first | with_reducible rfl | (simp only [my, md, mk, mi, mx]; done) | exact congrArg (Value.int IntKind.i64) (Int.natCast_succ _).symm, by first | with_reducible rfl | (simp only [my, md, mk, mi, mx]; done) | exact congrArg (Value.int IntKind.i64) (Int.natCast_succ _).symm, by first | with_reducible rfl | (simp only [my, md, mk, mi, mx]; done) | exact congrArg (Value.int IntKind.i64) (Int.natCast_succ _).symm, by first | with_reducible rfl | (simp only [my, md, mk, mi, mx]; done) | exact congrArg (Value.int IntKind.i64) (Int.natCast_succ _).symm, by first | with_reducible rfl | (simp only [my, md, mk, mi, mx]; done) | exact congrArg (Value.int IntKind.i64) (Int.natCast_succ _).symm, by first | with_reducible rfl | (simp only [my, md, mk, mi, mx]; done) | exact congrArg (Value.int IntKind.i64) (Int.natCast_succ _).symm, ⟨rfl, HX.out _⟩, .inr ⟨rfl, HN⟩⟩
              · have hce := hrow.cell j (by omega)
                have hfe := hrow.frozen j
                have hRow := hrow.store j ((48 : Int) + (d : Nat))
                have hLen : (full1.set j ((48 : Int) + (d : Nat))).length = c := by rw [List.length_set]; exact hlen
                have hBel := hbel.setCell HB.out (p := ⟨g, j, none⟩) (.int .u8 ((48 : Int) + (d : Nat)))
                have hNew : S2 i0 r N pre y x (j + 1) j dot j (full1.set j ((48 : Int) + (d : Nat))) := by
                  have h := S1.behind HP.out hlen hS hb4 (by omega)
                  rw [← hy] at h
                  rw [← hd] at h
                  exact h

                have HX := Aside0.mk (And.intro hRow (And.intro hLen (And.intro hBel (show y < 9000000000000000000 by have := HBd.out; omega))))
                have HN := Aside0.mk hNew
                have HU := Aside0.mk (show y < gk by omega)
                have hM := HP.out.hm
                have hB4 := HBd.out
                have p46 : (0 : Int) < (gk : Int) := by omega
                have p47 : 0 < gk := by omega
                have p48 : (gk : Int) / 10 = (y : Int) ∧ -9000000000000000000 ≤ (y : Int) ∧ (y : Int) ≤ 9000000000000000000 := by omega
                have p49 : 10 * (y : Int) = 10 * (y : Int) ∧ -9000000000000000000 ≤ 10 * (y : Int) ∧ 10 * (y : Int) ≤ 9000000000000000000 := by omega
                have p50 : (gk : Int) - 10 * (y : Int) = (d : Int) ∧ -9000000000000000000 ≤ (d : Int) ∧ (d : Int) ≤ 9000000000000000000 := by omega
                have p51 : (0 : Int) < (d : Int) := by omega
                have p52 : 0 < d := by omega
                have p53 : (j : Int) < (N : Int) := by omega
                have p54 : (0 : Int) ≤ (j : Int) := by omega
                have p55 : j < N := by omega
                have p56 : (j : Int) - 1 = (j : Int) - 1 ∧ -9000000000000000000 ≤ (j : Int) - 1 ∧ (j : Int) - 1 ≤ 9000000000000000000 := by omega
                have p57 : ¬ ((j : Int) = (dot : Int)) := by omega
                have p58 : ¬ (j = dot) := by omega
                have p59 : (dot : Int) < (j : Int) := by omega
                have p60 : dot < j := by omega
                have p61 : (j : Int) + 1 = ((j + 1 : Nat) : Int) ∧ -9000000000000000000 ≤ ((j + 1 : Nat) : Int) ∧ ((j + 1 : Nat) : Int) ≤ 9000000000000000000 := by omega
                have p62 : ¬ (x < 0) := by omega
                have t46 := eq_true p46
                have d46 : decide ((0 : Int) < (gk : Int)) = true := decide_eq_true p46
                have t47 := eq_true p47
                have d47 : decide (0 < gk) = true := decide_eq_true p47
                have my := w64 p48.1 p48.2.1 p48.2.2
                have t49 := w64 p49.1 p49.2.1 p49.2.2
                have md := w64 p50.1 p50.2.1 p50.2.2
                have t51 := eq_true p51
                have d51 : decide ((0 : Int) < (d : Int)) = true := decide_eq_true p51
                have t52 := eq_true p52
                have d52 : decide (0 < d) = true := decide_eq_true p52
                have t53 := eq_true p53
                have d53 : decide ((j : Int) < (N : Int)) = true := decide_eq_true p53
                have t54 := eq_true p54
                have d54 : decide ((0 : Int) ≤ (j : Int)) = true := decide_eq_true p54
                have t55 := eq_true p55
                have d55 : decide (j < N) = true := decide_eq_true p55
                have mk := w64 p56.1 p56.2.1 p56.2.2
                have t57 := eq_false p57
                have s57 : ((j : Int) == (dot : Int)) = false := beq_eq_false_iff_ne.mpr p57
                have r57 : ((j : Int) != (dot : Int)) = true := bne_iff_ne.mpr p57
                have t58 := eq_false p58
                have d58 : decide (j = dot) = false := decide_eq_false p58
                have t59 := eq_true p59
                have d59 : decide ((dot : Int) < (j : Int)) = true := decide_eq_true p59
                have t60 := eq_true p60
                have d60 : decide (dot < j) = true := decide_eq_true p60
                have mi := w64 p61.1 p61.2.1 p61.2.2
                have t62 := eq_false p62
                have d62 : decide (x < 0) = false := decide_eq_false p62
                clear hM hB4 p46 p47 p48 p49 p50 p51 p52 p53 p54 p55 p56 p57 p58 p59 p60 p61 p62
                have m7 := u8a hd10
                have m8 := u8b hd10
                clear hz hd hy hpl hN1 hNc hb4 hx0 hrow hlen hbel hRow hLen hBel hNew hS hyd hd10 hgk hlt hj
                go_wp2_with (fail)
                go_roundg y
                case measure => exact HU.out
                case rel => exact ⟨x, (j + 1), j, dot, j, (j : Int) - 1, (full1.set j ((48 : Int) + (d : Nat))), by first | with_reducible rfl | (simp only [my, md, mk, mi]; done) | exact congrArg (Value.int IntKind.i64) (Int.natCast_succ _).symm, by first | with_reducible rfl | (simp only [my, md, mk, mi]; done) | exact congrArg (Value.int IntKind.i64) (Int.natCast_succ _).symm, by first | with_reducible rfl | (simp only [my, md, mk, mi]; done) | exact congrArg (Value.int IntKind.i64) (Int.natCast_succ _).symm, by first | with_reducible rfl | (simp only [my, md, mk, mi]; done) | exact congrArg (Value.int IntKind.i64) (Int.natCast_succ _).symm, by first | with_reducible rfl | (simp only [my, md, mk, mi]; done) | exact congrArg (Value.int IntKind.i64) (Int.natCast_succ _).symm, by first | with_reducible rfl | (simp only [my, md, mk, mi]; done) | exact congrArg (Value.int IntKind.i64) (Int.natCast_succ _).symm, ⟨rfl, HX.out⟩, .inr ⟨rfl, HN⟩⟩
            · have hce := hrow.cell j (by omega)
              have hfe := hrow.frozen j
              have hRow := hrow.store j ((48 : Int) + (d : Nat))
              have hLen : (full1.set j ((48 : Int) + (d : Nat))).length = c := by rw [List.length_set]; exact hlen
              have hBel := hbel.setCell HB.out (p := ⟨g, j, none⟩) (.int .u8 ((48 : Int) + (d : Nat)))
              have hNew : S2 i0 r N pre y x dot j dot j (full1.set j ((48 : Int) + (d : Nat))) := by
                have h := S1.ahead HP.out hlen hS (by omega) (by omega)
                rw [← hy] at h
                rw [← hd] at h
                exact h

              have HX := Aside0.mk (And.intro hRow (And.intro hLen (And.intro hBel (show y < 9000000000000000000 by have := HBd.out; omega))))
              have HN := Aside0.mk hNew
              have HU := Aside0.mk (show y < gk by omega)
              have hM := HP.out.hm
              have hB4 := HBd.out
              have p108 : (0 : Int) < (gk : Int) := by omega
              have p109 : 0 < gk := by omega
              have p110 : (gk : Int) / 10 = (y : Int) ∧ -9000000000000000000 ≤ (y : Int) ∧ (y : Int) ≤ 9000000000000000000 := by omega
              have p111 : 10 * (y : Int) = 10 * (y : Int) ∧ -9000000000000000000 ≤ 10 * (y : Int) ∧ 10 * (y : Int) ≤ 9000000000000000000 := by omega
              have p112 : (gk : Int) - 10 * (y : Int) = (d : Int) ∧ -9000000000000000000 ≤ (d : Int) ∧ (d : Int) ≤ 9000000000000000000 := by omega
              have p113 : (0 : Int) < (d : Int) := by omega
              have p114 : 0 < d := by omega
              have p115 : (j : Int) < (N : Int) := by omega
              have p116 : (0 : Int) ≤ (j : Int) := by omega
              have p117 : j < N := by omega
              have p118 : (j : Int) - 1 = (j : Int) - 1 ∧ -9000000000000000000 ≤ (j : Int) - 1 ∧ (j : Int) - 1 ≤ 9000000000000000000 := by omega
              have p119 : ¬ ((j : Int) = (dot : Int)) := by omega
              have p120 : ¬ (j = dot) := by omega
              have p121 : ¬ ((dot : Int) < (j : Int)) := by omega
              have p122 : ¬ (dot < j) := by omega
              have t108 := eq_true p108
              have d108 : decide ((0 : Int) < (gk : Int)) = true := decide_eq_true p108
              have t109 := eq_true p109
              have d109 : decide (0 < gk) = true := decide_eq_true p109
              have my := w64 p110.1 p110.2.1 p110.2.2
              have t111 := w64 p111.1 p111.2.1 p111.2.2
              have md := w64 p112.1 p112.2.1 p112.2.2
              have t113 := eq_true p113
              have d113 : decide ((0 : Int) < (d : Int)) = true := decide_eq_true p113
              have t114 := eq_true p114
              have d114 : decide (0 < d) = true := decide_eq_true p114
              have t115 := eq_true p115
              have d115 : decide ((j : Int) < (N : Int)) = true := decide_eq_true p115
              have t116 := eq_true p116
              have d116 : decide ((0 : Int) ≤ (j : Int)) = true := decide_eq_true p116
              have t117 := eq_true p117
              have d117 : decide (j < N) = true := decide_eq_true p117
              have mk := w64 p118.1 p118.2.1 p118.2.2
              have t119 := eq_false p119
              have s119 : ((j : Int) == (dot : Int)) = false := beq_eq_false_iff_ne.mpr p119
              have r119 : ((j : Int) != (dot : Int)) = true := bne_iff_ne.mpr p119
              have t120 := eq_false p120
              have d120 : decide (j = dot) = false := decide_eq_false p120
              have t121 := eq_false p121
              have d121 : decide ((dot : Int) < (j : Int)) = false := decide_eq_false p121
              have t122 := eq_false p122
              have d122 : decide (dot < j) = false := decide_eq_false p122
              clear hM hB4 p108 p109 p110 p111 p112 p113 p114 p115 p116 p117 p118 p119 p120 p121 p122
              have m7 := u8a hd10
              have m8 := u8b hd10
              clear hz hd hy hpl hN1 hNc hb4 hrow hlen hbel hRow hLen hBel hNew hS hyd hd10 hgk hlt hj
              go_wp2_with (fail)
              go_roundg y
              case measure => exact HU.out
              case rel => exact ⟨x, dot, j, dot, j, (j : Int) - 1, (full1.set j ((48 : Int) + (d : Nat))), by first | with_reducible rfl | (simp only [my, md, mk]; done) | exact congrArg (Value.int IntKind.i64) (Int.natCast_succ _).symm, by first | with_reducible rfl | (simp only [my, md, mk]; done) | exact congrArg (Value.int IntKind.i64) (Int.natCast_succ _).symm, by first | with_reducible rfl | (simp only [my, md, mk]; done) | exact congrArg (Value.int IntKind.i64) (Int.natCast_succ _).symm, by first | with_reducible rfl | (simp only [my, md, mk]; done) | exact congrArg (Value.int IntKind.i64) (Int.natCast_succ _).symm, by first | with_reducible rfl | (simp only [my, md, mk]; done) | exact congrArg (Value.int IntKind.i64) (Int.natCast_succ _).symm, by first | with_reducible rfl | (simp only [my, md, mk]; done) | exact congrArg (Value.int IntKind.i64) (Int.natCast_succ _).symm, ⟨rfl, HX.out⟩, .inr ⟨rfl, HN⟩⟩
      · have hS := HS2.out
        obtain ⟨hjv, hrow, hlen, hbel, hgk9⟩ := HI.out
        have HBd := Aside0.mk hgk9
        have hN1 := HP.out.hN
        have hNc := HP.out.hc
        have hpl := HP.out.hpl
        by_cases hg0 : gk = 0
        · subst hg0
          have HX := Aside0.mk (And.intro hjv (And.intro hrow (And.intro hlen hbel)))
          clear hrow hlen hbel hS hjv hgk9 HI hN1 hNc hpl
          go_wp2_with (fail)
          go_meet
          case rel => exact ⟨x, iN, last, dot, jj, jv, full1, rfl, rfl, rfl, rfl, rfl, HX, HS2⟩
        · have hlt := hS.lt hpl hg0
          obtain ⟨y, hy⟩ : ∃ y : Nat, y = gk / 10 := ⟨_, rfl⟩
          obtain ⟨d, hd⟩ : ∃ d : Nat, d = gk % 10 := ⟨_, rfl⟩
          have hd10 : d < 10 := by omega
          have hyd : gk = 10 * y + d := by omega
          have hgk := hg0
          obtain ⟨j, rfl⟩ : ∃ j, jj = j + 1 := ⟨jj - 1, by omega⟩
          obtain rfl : jv = (j : Int) := by omega
          have HQ := Aside0.mk (And.intro hy hd)
          clear hjv hgk9
          by_cases hj : j = dot
          · subst hj
            obtain ⟨jd, hjd⟩ : ∃ jd : Nat, j = jd + 1 := ⟨j - 1, by omega⟩
            have hS' : S2 i0 r N pre gk x iN last j (jd + 2) full1 := by rw [show jd + 2 = j + 1 by omega]; exact hS
            have HJ := Aside0.mk hjd
            have hRd := hrow.store j 46
            have hcd := hrow.cell j (by omega)
            have hfd := hrow.frozen j
            have hce := hRd.cell jd (by rw [List.length_set]; omega)
            have hfe := hRd.frozen jd
            have hRow := hRd.store jd ((48 : Int) + (d : Nat))
            have hLen : ((full1.set j 46).set jd ((48 : Int) + (d : Nat))).length = c := by rw [List.length_set, List.length_set]; exact hlen
            have hBel := (hbel.setCell HB.out (p := ⟨g, j, none⟩) (.int .u8 46)).setCell HB.out (p := ⟨g, jd, none⟩) (.int .u8 ((48 : Int) + (d : Nat)))
            have hNew : S2 i0 r N pre y x iN last j jd ((full1.set j 46).set jd ((48 : Int) + (d : Nat))) := by
              have h := S2.hit hpl hlen hNc hS' hjd hgk
              rw [← hy] at h
              rw [← hd] at h
              rw [hjd] at h ⊢
              exact h

            have HX := Aside0.mk (And.intro hRow (And.intro hLen (And.intro hBel (show y < 9000000000000000000 by have := HBd.out; omega))))
            have HN := Aside0.mk hNew
            have HU := Aside0.mk (show y < gk by omega)
            have hM := HP.out.hm
            have hB4 := HBd.out
            have p123 : (0 : Int) < (gk : Int) := by omega
            have p124 : 0 < gk := by omega
            have p125 : (gk : Int) / 10 = (y : Int) ∧ -9000000000000000000 ≤ (y : Int) ∧ (y : Int) ≤ 9000000000000000000 := by omega
            have p126 : 10 * (y : Int) = 10 * (y : Int) ∧ -9000000000000000000 ≤ 10 * (y : Int) ∧ 10 * (y : Int) ≤ 9000000000000000000 := by omega
            have p127 : (gk : Int) - 10 * (y : Int) = (d : Int) ∧ -9000000000000000000 ≤ (d : Int) ∧ (d : Int) ≤ 9000000000000000000 := by omega
            have p128 : (j : Int) < (N : Int) := by omega
            have p129 : (0 : Int) ≤ (j : Int) := by omega
            have p130 : j < N := by omega
            have p131 : (jd : Int) < (N : Int) := by omega
            have p132 : (0 : Int) ≤ (jd : Int) := by omega
            have p133 : jd < N := by omega
            have p134 : (jd : Int) - 1 = (jd : Int) - 1 ∧ -9000000000000000000 ≤ (jd : Int) - 1 ∧ (jd : Int) - 1 ≤ 9000000000000000000 := by omega
            have p135 : (j : Int) - 1 = (jd : Int) ∧ -9000000000000000000 ≤ (jd : Int) ∧ (jd : Int) ≤ 9000000000000000000 := by omega
            have t123 := eq_true p123
            have d123 : decide ((0 : Int) < (gk : Int)) = true := decide_eq_true p123
            have t124 := eq_true p124
            have d124 : decide (0 < gk) = true := decide_eq_true p124
            have my := w64 p125.1 p125.2.1 p125.2.2
            have t126 := w64 p126.1 p126.2.1 p126.2.2
            have md := w64 p127.1 p127.2.1 p127.2.2
            have t128 := eq_true p128
            have d128 : decide ((j : Int) < (N : Int)) = true := decide_eq_true p128
            have t129 := eq_true p129
            have d129 : decide ((0 : Int) ≤ (j : Int)) = true := decide_eq_true p129
            have t130 := eq_true p130
            have d130 : decide (j < N) = true := decide_eq_true p130
            have t131 := eq_true p131
            have d131 : decide ((jd : Int) < (N : Int)) = true := decide_eq_true p131
            have t132 := eq_true p132
            have d132 : decide ((0 : Int) ≤ (jd : Int)) = true := decide_eq_true p132
            have t133 := eq_true p133
            have d133 : decide (jd < N) = true := decide_eq_true p133
            have mk := w64 p134.1 p134.2.1 p134.2.2
            have mj := w64 p135.1 p135.2.1 p135.2.2
            clear hM hB4 p123 p124 p125 p126 p127 p128 p129 p130 p131 p132 p133 p134 p135
            have m7 := u8a hd10
            have m8 := u8b hd10
            clear hjd hS' hd hy hpl hN1 hNc hg0 hrow hlen hbel hRow hLen hBel hNew hS hyd hd10 hgk hlt hRd
            go_wp2_with (fail)
            go_roundg y
            case measure => exact HU.out
            case rel => exact ⟨x, iN, last, j, jd, (jd : Int) - 1, ((full1.set j 46).set jd ((48 : Int) + (d : Nat))), by first | with_reducible rfl | (simp only [my, md, mk, mj]; done) | exact congrArg (Value.int IntKind.i64) (Int.natCast_succ _).symm, by first | with_reducible rfl | (simp only [my, md, mk, mj]; done) | exact congrArg (Value.int IntKind.i64) (Int.natCast_succ _).symm, by first | with_reducible rfl | (simp only [my, md, mk, mj]; done) | exact congrArg (Value.int IntKind.i64) (Int.natCast_succ _).symm, by first | with_reducible rfl | (simp only [my, md, mk, mj]; done) | exact congrArg (Value.int IntKind.i64) (Int.natCast_succ _).symm, by first | with_reducible rfl | (simp only [my, md, mk, mj]; done) | exact congrArg (Value.int IntKind.i64) (Int.natCast_succ _).symm, by first | with_reducible rfl | (simp only [my, md, mk, mj]; done) | exact congrArg (Value.int IntKind.i64) (Int.natCast_succ _).symm, ⟨rfl, HX.out⟩, .inr ⟨rfl, HN⟩⟩
          · have hce := hrow.cell j (by omega)
            have hfe := hrow.frozen j
            have hRow := hrow.store j ((48 : Int) + (d : Nat))
            have hLen : (full1.set j ((48 : Int) + (d : Nat))).length = c := by rw [List.length_set]; exact hlen
            have hBel := hbel.setCell HB.out (p := ⟨g, j, none⟩) (.int .u8 ((48 : Int) + (d : Nat)))
            have hNew : S2 i0 r N pre y x iN last dot j (full1.set j ((48 : Int) + (d : Nat))) := by
              have h := S2.go hpl hlen hNc hS (fun h => hj h.symm) hgk
              rw [← hy] at h
              rw [← hd] at h
              exact h

            have HX := Aside0.mk (And.intro hRow (And.intro hLen (And.intro hBel (show y < 9000000000000000000 by have := HBd.out; omega))))
            have HN := Aside0.mk hNew
            have HU := Aside0.mk (show y < gk by omega)
            have hM := HP.out.hm
            have hB4 := HBd.out
            have p136 : (0 : Int) < (gk : Int) := by omega
            have p137 : 0 < gk := by omega
            have p138 : (gk : Int) / 10 = (y : Int) ∧ -9000000000000000000 ≤ (y : Int) ∧ (y : Int) ≤ 9000000000000000000 := by omega
            have p139 : 10 * (y : Int) = 10 * (y : Int) ∧ -9000000000000000000 ≤ 10 * (y : Int) ∧ 10 * (y : Int) ≤ 9000000000000000000 := by omega
            have p140 : (gk : Int) - 10 * (y : Int) = (d : Int) ∧ -9000000000000000000 ≤ (d : Int) ∧ (d : Int) ≤ 9000000000000000000 := by omega
            have p141 : (j : Int) < (N : Int) := by omega
            have p142 : (0 : Int) ≤ (j : Int) := by omega
            have p143 : j < N := by omega
            have p144 : (j : Int) - 1 = (j : Int) - 1 ∧ -9000000000000000000 ≤ (j : Int) - 1 ∧ (j : Int) - 1 ≤ 9000000000000000000 := by omega
            have p145 : ¬ ((j : Int) = (dot : Int)) := by omega
            have p146 : ¬ (j = dot) := by omega
            have t136 := eq_true p136
            have d136 : decide ((0 : Int) < (gk : Int)) = true := decide_eq_true p136
            have t137 := eq_true p137
            have d137 : decide (0 < gk) = true := decide_eq_true p137
            have my := w64 p138.1 p138.2.1 p138.2.2
            have t139 := w64 p139.1 p139.2.1 p139.2.2
            have md := w64 p140.1 p140.2.1 p140.2.2
            have t141 := eq_true p141
            have d141 : decide ((j : Int) < (N : Int)) = true := decide_eq_true p141
            have t142 := eq_true p142
            have d142 : decide ((0 : Int) ≤ (j : Int)) = true := decide_eq_true p142
            have t143 := eq_true p143
            have d143 : decide (j < N) = true := decide_eq_true p143
            have mk := w64 p144.1 p144.2.1 p144.2.2
            have t145 := eq_false p145
            have s145 : ((j : Int) == (dot : Int)) = false := beq_eq_false_iff_ne.mpr p145
            have r145 : ((j : Int) != (dot : Int)) = true := bne_iff_ne.mpr p145
            have t146 := eq_false p146
            have d146 : decide (j = dot) = false := decide_eq_false p146
            clear hM hB4 p136 p137 p138 p139 p140 p141 p142 p143 p144 p145 p146
            have m7 := u8a hd10
            have m8 := u8b hd10
            clear hd hy hpl hN1 hNc hg0 hrow hlen hbel hRow hLen hBel hNew hS hyd hd10 hgk hlt hj
            go_wp2_with (fail)
            go_roundg y
            case measure => exact HU.out
            case rel => exact ⟨x, iN, last, dot, j, (j : Int) - 1, (full1.set j ((48 : Int) + (d : Nat))), by first | with_reducible rfl | (simp only [my, md, mk]; done) | exact congrArg (Value.int IntKind.i64) (Int.natCast_succ _).symm, by first | with_reducible rfl | (simp only [my, md, mk]; done) | exact congrArg (Value.int IntKind.i64) (Int.natCast_succ _).symm, by first | with_reducible rfl | (simp only [my, md, mk]; done) | exact congrArg (Value.int IntKind.i64) (Int.natCast_succ _).symm, by first | with_reducible rfl | (simp only [my, md, mk]; done) | exact congrArg (Value.int IntKind.i64) (Int.natCast_succ _).symm, by first | with_reducible rfl | (simp only [my, md, mk]; done) | exact congrArg (Value.int IntKind.i64) (Int.natCast_succ _).symm, by first | with_reducible rfl | (simp only [my, md, mk]; done) | exact congrArg (Value.int IntKind.i64) (Int.natCast_succ _).symm, ⟨rfl, HX.out⟩, .inr ⟨rfl, HN⟩⟩
  case rest =>
    obtain ⟨x, iN, last, dot, jj, jv, full1, rfl, rfl, rfl, rfl, rfl, HX, HS2⟩ := hcut
    obtain ⟨h1, h2, h3, h4⟩ := HX.out
    have hP := HP.out
    refine use_k (by assumption) ?_
    rcases S2.fin hP.hpl hP.hm HS2.out with ⟨rfl, rfl, k3, k4, k5, suf, k6, k7, k8⟩ | ⟨rfl, k2, k3, k4⟩
    · obtain rfl : jv = ((dot + r : Nat) : Int) := by omega
      exact part24b _ h2 h3 h4 hP.hpl HB.out hP.hc hP.hm k8 k6 k7 k5 k4
    · exact part24a _ h2 h3 h4 hP.hpl k2 h1 HB.out hP.hc hP.hm k4 k3
end Go.Proofs.YtmpgbakkpbmpiaaDoor.AF
/- AppendFloat: the sign, the places. -/
namespace Go.Proofs.YtmpgbakkpbmpiaaDoor.AF
open Go.RowKit Go.Proofs.YtmpgbakkpbmpiaaDoorW.PrintWords Go.Proofs.YtmpgbakkpbmpiaaDoorW.PrintLast Go.Proofs.YtmpgbakkpbmpiaaDoorW.PrintMore
open PFl Brow Dig AD
set_option linter.unusedVariables false
set_option linter.unusedSimpArgs false

/-- The sign. -/
def sgn (ng : Bool) : List Int := if ng then [45] else []
set_option maxHeartbeats 4000000 in
set_option maxRecDepth 100000 in
theorem part18 {g m0 i0 r n K z N dot0 last0 ML base : Nat} {x0 P : Int} {ng : Bool} {full l : List Int} {w0 : World} {u1 u3 u4 u5 u6 u10 u12 u14 u25 u26 u27 u28 u29 u30 u31 u32 u33 u34 u35 u36 u37 u38 u39 u40 u41 u42 u43 u44 u45 u46 u47 u48 u49 u50 u51 u52 u53 u54 u55 u56 u57 u58 u59 u60 u61 u62 u63 u64 u65 u66 u67 u68 u69 u70 u71 u72 u73 u74 u75 u76 u77 u78 u79 u80 u81 u82 u83 u84 u85 u86 u87 u88 u89 u90 u91 u92 u93 u94 u95 u96 u97 u98 u99 u100 u101 u102 u103 u104 u105 u106 : Value} (W : World) (hr : Row 5 W g full) (hNf : N ≤ full.length) (htk : full.take l.length = l) (hmx : full.length ≤ maxLen) (hb : base ≤ g) (hw0 : Below base w0 W) (hln : l.length ≤ 100000000000) (hbd : ML ≤ 100 ∧ N ≤ 1000000000000 ∧ -100 ≤ P ∧ P ≤ 100 ∧ -100 ≤ x0 ∧ x0 ≤ 100 ∧ m0 < 9000000000000000000) (hi0 : i0 = l.length + ng.toNat) (hlast : last0 = i0 + ML) (hdot : (dot0 : Int) = (last0 : Int) - P - x0) (hP : Par i0 r n K N full.length dot0 last0 x0 (l ++ sgn ng)) (hz : m0 = n * 10 ^ z ∧ last0 = i0 + r + K + z) :
    Code.wp Tryd.prog (rest 18 body22) (bodyPost Tryd.prog Tryd.f22 fun e w' => ∃ (v' : Value) (M E : List Int), e = .returned v' ∧ MantOK M ∧ ExpOK E ∧ Bs 5 w' base v' (l ++ sgn ng ++ M ++ E) ∧ Below base w0 w') ⟨#[.slice (some ⟨g, 0, none⟩) N full.length, u1, .int .i64 P, u3, u4, u5, u6, .bool ng, .int .i64 (m0 : Int), .int .i64 (ML : Int), u10, .int .i64 x0, u12, .int .i64 (l.length : Int), u14, undef, undef, undef, undef, undef, undef, undef, undef, undef, undef, u25, u26, u27, u28, u29, u30, u31, u32, u33, u34, u35, u36, u37, u38, u39, u40, u41, u42, u43, u44, u45, u46, u47, u48, u49, u50, u51, u52, u53, u54, u55, u56, u57, u58, u59, u60, u61, u62, u63, u64, u65, u66, u67, u68, u69, u70, u71, u72, u73, u74, u75, u76, u77, u78, u79, u80, u81, u82, u83, u84, u85, u86, u87, u88, u89, u90, u91, u92, u93, u94, u95, u96, u97, u98, u99, u100, u101, u102, u103, u104, u105, u106, undef, undef, undef, undef, undef, undef, undef, undef, undef, undef, undef, undef, undef, undef, undef, undef, undef, undef, undef, undef, undef, undef, undef, undef, undef, undef, undef, undef, undef, undef, undef, undef, undef, undef, undef, undef, undef, undef, undef, undef, undef, undef, undef, undef, undef, undef, undef, undef, undef, undef, undef, undef, undef, undef, undef, undef, undef, undef, undef, undef, undef, undef, undef, undef, undef, undef, undef, undef, undef, undef, undef, undef, undef, undef, undef, undef, undef, undef, undef, undef, undef, undef, undef, undef, undef, undef, undef, undef, undef, undef, undef, undef, undef, undef, undef, undef, undef, undef, undef, undef, undef, undef, undef, undef, undef, undef, undef, undef, undef, undef, undef, undef, undef, undef, undef, undef, undef, undef, undef, undef, undef, undef, undef, undef, undef, undef, undef, undef, undef, undef, undef, undef, undef, undef, undef, undef, undef, undef, undef, undef, undef, undef, undef, undef, undef, undef, undef, undef, undef, undef, undef, undef, undef, undef, undef, undef, undef, undef, undef], []⟩ W := by
  conv => arg 2; whnf
  have HR := Aside0.mk hr
  have HNf := Aside0.mk hNf
  have HTk := Aside0.mk htk
  have HMx := Aside0.mk hmx
  have HB := Aside0.mk hb
  have HW0 := Aside0.mk hw0
  have HLn := Aside0.mk hln
  have HBd := Aside0.mk hbd
  have HPar := Aside0.mk hP
  have HZz := Aside0.mk hz
  obtain ⟨pp, hp1⟩ : ∃ pp : Int, pp = (last0 : Int) - P := ⟨_, rfl⟩
  clear hr hNf htk hmx hb hw0 hln hbd hP hz
  cases ng
  · obtain rfl : i0 = l.length := hi0
    have he : l.length = l.length + 0 ∧ last0 = l.length + ML ∧ (dot0 : Int) = (last0 : Int) - P - x0 ∧ pp = (last0 : Int) - P ∧ last0 + 1 ≤ N := by
      have z1 : false.toNat = 0 := rfl
      have z2 : true.toNat = 1 := rfl
      have z3 := (HPar.out).hN
      omega
    have HE := Aside0.mk he
    have HX := Aside0.mk (show Row 5 W g full ∧ full.length = full.length ∧ full.take l.length = l ++ sgn false ∧ Below base w0 W from ⟨HR.out, rfl, by rw [he.1, show sgn false = [] from rfl, List.append_nil]; exact HTk.out, HW0.out⟩)
    clear he hlast hdot hp1
    have hLn := HLn.out
    have hBd := HBd.out
    have hm1 := HE.out
    have p1 : (l.length : Int) = (l.length : Int) ∧ -9000000000000000000 ≤ (l.length : Int) ∧ (l.length : Int) ≤ 9000000000000000000 := by omega
    have p2 : (l.length : Int) + (ML : Int) = (last0 : Int) ∧ -9000000000000000000 ≤ (last0 : Int) ∧ (last0 : Int) ≤ 9000000000000000000 := by omega
    have p3 : (last0 : Int) - P = (pp : Int) ∧ -9000000000000000000 ≤ (pp : Int) ∧ (pp : Int) ≤ 9000000000000000000 := by omega
    have p4 : (pp : Int) - x0 = (dot0 : Int) ∧ -9000000000000000000 ≤ (dot0 : Int) ∧ (dot0 : Int) ≤ 9000000000000000000 := by omega
    have t1 := w64 p1.1 p1.2.1 p1.2.2
    have ma := w64 p2.1 p2.2.1 p2.2.2
    have mp := w64 p3.1 p3.2.1 p3.2.2
    have mb := w64 p4.1 p4.2.1 p4.2.2
    clear hLn hBd hm1 p1 p2 p3 p4
    go_upto_region 39 with (fail)
    rw [ma]
    go_cut [17] from 116 to 120 (fun v17 wc => v17 = .int .i64 (dot0 : Int) ∧ Aside0 (wc = W))
    case first =>
      go_wp2_with (fail)
      go_meet
      case rel => exact ⟨by first | with_reducible rfl | (simp only [ma, mp, mb]; done), ⟨rfl⟩⟩
    case rest =>
      obtain ⟨rfl, HWc⟩ := hcut
      obtain rfl := HWc.out
      clear t1 ma mp mb
      refine use_k (by assumption) ?_
      obtain ⟨h1, h2, h3, h4⟩ := HX.out
      have hP := HPar.out
      have hl3 : full.take l.length = l ++ sgn false := h3
      refine Code.wp_mono (bodyPost_mono ?_) (part22 _ h1 h2 h4 HB.out hP HBd.out.2.2.2.2.2.2 ⟨rfl, rfl, rfl, rfl, Nat.le_refl _, z, HZz.out.1, .inl ⟨by have := HZz.out.2; omega, by have := hP.hdl; omega, ⟨by rw [hP.hpl]; exact h3, by rw [List.drop_of_length_le (by rw [List.length_take]; omega)], by rw [h2]; have := hP.hN; have := hP.hc; omega, by rw [hP.hpl]; have := HE.out; omega, rfl⟩⟩⟩)
      rintro e w' ⟨full', M, E, rfl, k1, k2, k3, k4, k5, k6⟩
      have hl9 : (l ++ sgn false ++ M ++ E).length = l.length + M.length + E.length := by rw [List.length_append, List.length_append, hP.hpl]
      have hle : l.length + M.length + E.length ≤ full'.length := by
        have h9 := congrArg List.length k3
        rw [hl9, List.length_take] at h9
        omega
      exact ⟨_, M, E, rfl, k4, k5, ⟨g, full', by rw [hl9, k1], HB.out, k2, by rw [hl9]; exact hle, by rw [k1]; exact HMx.out, by rw [hl9]; exact k3⟩, k6⟩
  · have he : i0 = l.length + 1 ∧ last0 = i0 + ML ∧ (dot0 : Int) = (last0 : Int) - P - x0 ∧ pp = (last0 : Int) - P ∧ last0 + 1 ≤ N := by
      have z1 : false.toNat = 0 := rfl
      have z2 : true.toNat = 1 := rfl
      have z3 := (HPar.out).hN
      omega
    have HE := Aside0.mk he
    have HX := Aside0.mk (show Row 5 (W.setCell ⟨g, l.length, none⟩ (.int .u8 45)) g (full.set l.length 45) ∧ (full.set l.length 45).length = full.length ∧ (full.set l.length 45).take i0 = l ++ sgn true ∧ Below base w0 (W.setCell ⟨g, l.length, none⟩ (.int .u8 45)) from ⟨HR.out.store _ _, List.length_set, by rw [he.1, List.take_add_one, List.take_set_of_le (Nat.le_refl _), HTk.out, List.getElem?_set_self (by have := HNf.out; omega)]; rfl, HW0.out.setCell HB.out _⟩)
    clear he hi0 hlast hdot hp1
    have hce := HR.out.cell l.length (by have := HNf.out; have := HE.out; omega)
    have hfe := HR.out.frozen l.length
    have hNl : l.length < N := by have := HE.out; omega
    have hLn := HLn.out
    have hBd := HBd.out
    have hm1 := HE.out
    have p5 : (l.length : Int) < (N : Int) := by omega
    have p6 : (0 : Int) ≤ (l.length : Int) := by omega
    have p7 : l.length < N := by omega
    have p8 : (l.length : Int) + 1 = (i0 : Int) ∧ -9000000000000000000 ≤ (i0 : Int) ∧ (i0 : Int) ≤ 9000000000000000000 := by omega
    have p9 : (i0 : Int) + (ML : Int) = (last0 : Int) ∧ -9000000000000000000 ≤ (last0 : Int) ∧ (last0 : Int) ≤ 9000000000000000000 := by omega
    have p10 : (last0 : Int) - P = (pp : Int) ∧ -9000000000000000000 ≤ (pp : Int) ∧ (pp : Int) ≤ 9000000000000000000 := by omega
    have p11 : (pp : Int) - x0 = (dot0 : Int) ∧ -9000000000000000000 ≤ (dot0 : Int) ∧ (dot0 : Int) ≤ 9000000000000000000 := by omega
    have t5 := eq_true p5
    have d5 : decide ((l.length : Int) < (N : Int)) = true := decide_eq_true p5
    have t6 := eq_true p6
    have d6 : decide ((0 : Int) ≤ (l.length : Int)) = true := decide_eq_true p6
    have t7 := eq_true p7
    have d7 : decide (l.length < N) = true := decide_eq_true p7
    have mi := w64 p8.1 p8.2.1 p8.2.2
    have ma := w64 p9.1 p9.2.1 p9.2.2
    have mp := w64 p10.1 p10.2.1 p10.2.2
    have mb := w64 p11.1 p11.2.1 p11.2.2
    clear hLn hBd hm1 p5 p6 p7 p8 p9 p10 p11
    go_upto_region 39 with (fail)
    rw [mi]
    try rw [ma]
    go_cut [17] from 116 to 120 (fun v17 wc => v17 = .int .i64 (dot0 : Int) ∧ Aside0 (wc = (W.setCell ⟨g, l.length, none⟩ (.int .u8 45))))
    case first =>
      go_wp2_with (fail)
      go_meet
      case rel => exact ⟨by first | with_reducible rfl | (simp only [mi, ma, mp, mb]; done), ⟨rfl⟩⟩
    case rest =>
      obtain ⟨rfl, HWc⟩ := hcut
      obtain rfl := HWc.out
      clear t5 d5 t6 d6 t7 d7 mi ma mp mb hce hfe
      refine use_k (by assumption) ?_
      obtain ⟨h1, h2, h3, h4⟩ := HX.out
      have hP := HPar.out
      have hl3 : (full.set l.length 45).take i0 = l ++ sgn true := h3
      refine Code.wp_mono (bodyPost_mono ?_) (part22 _ h1 h2 h4 HB.out hP HBd.out.2.2.2.2.2.2 ⟨rfl, rfl, rfl, rfl, Nat.le_refl _, z, HZz.out.1, .inl ⟨by have := HZz.out.2; omega, by have := hP.hdl; omega, ⟨by rw [hP.hpl]; exact h3, by rw [List.drop_of_length_le (by rw [List.length_take]; omega)], by rw [h2]; have := hP.hN; have := hP.hc; omega, by rw [hP.hpl]; have := HE.out; omega, rfl⟩⟩⟩)
      rintro e w' ⟨full', M, E, rfl, k1, k2, k3, k4, k5, k6⟩
      have hl9 : (l ++ sgn true ++ M ++ E).length = i0 + M.length + E.length := by rw [List.length_append, List.length_append, hP.hpl]
      have hle : i0 + M.length + E.length ≤ full'.length := by
        have h9 := congrArg List.length k3
        rw [hl9, List.length_take] at h9
        omega
      exact ⟨_, M, E, rfl, k4, k5, ⟨g, full', by rw [hl9, k1], HB.out, k2, by rw [hl9]; exact hle, by rw [k1]; exact HMx.out, by rw [hl9]; exact k3⟩, k6⟩
end Go.Proofs.YtmpgbakkpbmpiaaDoor.AF
/- AppendFloat: room. -/
namespace Go.Proofs.YtmpgbakkpbmpiaaDoor.AF
open Go.RowKit Go.Proofs.YtmpgbakkpbmpiaaDoorW.PrintWords Go.Proofs.YtmpgbakkpbmpiaaDoorW.PrintLast Go.Proofs.YtmpgbakkpbmpiaaDoorW.PrintMore
open PFl Brow Dig AD
set_option linter.unusedVariables false
set_option linter.unusedSimpArgs false

set_option maxHeartbeats 4000000 in
set_option maxRecDepth 100000 in
theorem part14 {g m0 i0 r n K z N dot0 last0 ML EL base : Nat} {x0 P : Int} {ng : Bool} {full l : List Int} {w0 : World} {u1 u3 u4 u5 u6 u10 u25 u26 u27 u28 u29 u30 u31 u32 u33 u34 u35 u36 u37 u38 u39 u40 u41 u42 u43 u44 u45 u46 u47 u48 u49 u50 u51 u52 u53 u54 u55 u56 u57 u58 u59 u60 u61 u62 u63 u64 u65 u66 u67 u68 u69 u70 u71 u72 u73 u74 u75 u76 u77 u78 u79 u80 u81 u82 u83 : Value} (W : World) (hr : Row 5 W g full) (hl : l.length ≤ full.length) (htk : full.take l.length = l) (hmx : full.length ≤ maxLen) (hb : base ≤ g) (hbs : base ≤ W.heap.size) (hw0 : Below base w0 W) (hln : l.length ≤ 100000000000) (hbd : ML ≤ 100 ∧ EL ≤ 100 ∧ -100 ≤ P ∧ P ≤ 100 ∧ -100 ≤ x0 ∧ x0 ≤ 100 ∧ m0 < 9000000000000000000) (hN : N = l.length + (1 + ML + EL + ng.toNat)) (hi0 : i0 = l.length + ng.toNat) (hlast : last0 = i0 + ML) (hdot : (dot0 : Int) = (last0 : Int) - P - x0) (hP : ∀ c, N ≤ c → Par i0 r n K N c dot0 last0 x0 (l ++ sgn ng)) (hz : m0 = n * 10 ^ z ∧ last0 = i0 + r + K + z) :
    Code.wp Tryd.prog (rest 14 body22) (bodyPost Tryd.prog Tryd.f22 fun e w' => ∃ (v' : Value) (M E : List Int), e = .returned v' ∧ MantOK M ∧ ExpOK E ∧ Bs 5 w' base v' (l ++ sgn ng ++ M ++ E) ∧ Below base w0 w') ⟨#[.slice (some ⟨g, 0, none⟩) l.length full.length, u1, .int .i64 P, u3, u4, u5, u6, .bool ng, .int .i64 (m0 : Int), .int .i64 (ML : Int), u10, .int .i64 x0, .int .i64 (EL : Int), undef, undef, undef, undef, undef, undef, undef, undef, undef, undef, undef, undef, u25, u26, u27, u28, u29, u30, u31, u32, u33, u34, u35, u36, u37, u38, u39, u40, u41, u42, u43, u44, u45, u46, u47, u48, u49, u50, u51, u52, u53, u54, u55, u56, u57, u58, u59, u60, u61, u62, u63, u64, u65, u66, u67, u68, u69, u70, u71, u72, u73, u74, u75, u76, u77, u78, u79, u80, u81, u82, u83, undef, undef, undef, undef, undef, undef, undef, undef, undef, undef, undef, undef, undef, undef, undef, undef, undef, undef, undef, undef, undef, undef, undef, undef, undef, undef, undef, undef, undef, undef, undef, undef, undef, undef, undef, undef, undef, undef, undef, undef, undef, undef, undef, undef, undef, undef, undef, undef, undef, undef, undef, undef, undef, undef, undef, undef, undef, undef, undef, undef, undef, undef, undef, undef, undef, undef, undef, undef, undef, undef, undef, undef, undef, undef, undef, undef, undef, undef, undef, undef, undef, undef, undef, undef, undef, undef, undef, undef, undef, undef, undef, undef, undef, undef, undef, undef, undef, undef, undef, undef, undef, undef, undef, undef, undef, undef, undef, undef, undef, undef, undef, undef, undef, undef, undef, undef, undef, undef, undef, undef, undef, undef, undef, undef, undef, undef, undef, undef, undef, undef, undef, undef, undef, undef, undef, undef, undef, undef, undef, undef, undef, undef, undef, undef, undef, undef, undef, undef, undef, undef, undef, undef, undef, undef, undef, undef, undef, undef, undef, undef, undef, undef, undef, undef, undef, undef, undef, undef, undef, undef, undef, undef, undef, undef, undef, undef, undef, undef, undef, undef, undef, undef], []⟩ W := by
  conv => arg 2; whnf
  have HR := Aside0.mk hr
  have HLe := Aside0.mk hl
  have HTk := Aside0.mk htk
  have HMx := Aside0.mk hmx
  have HB := Aside0.mk hb
  have HBs := Aside0.mk hbs
  have HW0 := Aside0.mk hw0
  have HLn := Aside0.mk hln
  have HBd := Aside0.mk hbd
  have HPar := Aside0.mk hP
  have HZz := Aside0.mk hz
  obtain ⟨ml1, hml1⟩ : ∃ ml1 : Nat, ml1 = 1 + ML := ⟨_, rfl⟩
  obtain ⟨ml2, hml2⟩ : ∃ ml2 : Nat, ml2 = ml1 + EL := ⟨_, rfl⟩
  obtain ⟨rm, hrm⟩ : ∃ rm : Nat, rm = ml2 + ng.toNat := ⟨_, rfl⟩
  clear hr hl htk hmx hb hbs hw0 hln hbd hP hz
  cases ng
  · by_cases hroom : full.length < N
    · have he : ml1 = 1 + ML ∧ ml2 = ml1 + EL ∧ rm = ml2 + 0 ∧ N = l.length + rm := by
        have z1 : false.toNat = 0 := rfl
        have z2 : true.toNat = 1 := rfl
        omega
      have HE := Aside0.mk he
      have HSum := Aside0.mk (And.intro hi0 (And.intro hlast hdot))
      have HRm := Aside0.mk (show 0 < rm ∧ full.length < l.length + rm ∧ l.length + rm ≤ 1000000000000 from by have hb1 := HBd.out; have hb3 := HLn.out; omega)
      clear he hN hi0 hlast hdot hml1 hml2 hrm
      have hLn := HLn.out
      have hBd := HBd.out
      have hm1 := HE.out
      have p1 : 1 + (ML : Int) = (ml1 : Int) ∧ -9000000000000000000 ≤ (ml1 : Int) ∧ (ml1 : Int) ≤ 9000000000000000000 := by omega
      have p2 : (ml1 : Int) + (EL : Int) = (rm : Int) ∧ -9000000000000000000 ≤ (rm : Int) ∧ (rm : Int) ≤ 9000000000000000000 := by omega
      have p3 : (rm : Int) = (rm : Int) ∧ -9000000000000000000 ≤ (rm : Int) ∧ (rm : Int) ≤ 9000000000000000000 := by omega
      have p4 : (l.length : Int) + (rm : Int) = (N : Int) ∧ -9000000000000000000 ≤ (N : Int) ∧ (N : Int) ≤ 9000000000000000000 := by omega
      have p5 : (full.length : Int) < (N : Int) := by omega
      have p6 : full.length < N := by omega
      have p7 : (full.length : Int) < (l.length : Int) + (rm : Int) := by omega
      have m1a := w64 p1.1 p1.2.1 p1.2.2
      have mrm := w64 p2.1 p2.2.1 p2.2.2
      have mr := w64 p3.1 p3.2.1 p3.2.2
      have mN := w64 p4.1 p4.2.1 p4.2.2
      have t5 := eq_true p5
      have d5 : decide ((full.length : Int) < (N : Int)) = true := decide_eq_true p5
      have t6 := eq_true p6
      have dRm : decide (full.length < N) = true := decide_eq_true p6
      have t7 := eq_true p7
      have d7 : decide ((full.length : Int) < (l.length : Int) + (rm : Int)) = true := decide_eq_true p7
      clear hLn hBd hm1 p1 p2 p3 p4 p5 p6 p7
      clear hroom
      go_upto_if 98 with (fail)
      rw [mrm]
      try rw [m1a]
      try rw [mN]
      try rw [dRm]
      go_cut [0] from 99 to 106 (fun v0 wc => ∃ (g2 : Nat) (full2 : List Int), v0 = .slice (some ⟨g2, 0, none⟩) N full2.length ∧ Aside0 (Row 5 wc g2 full2 ∧ base ≤ g2 ∧ N ≤ full2.length ∧ full2.length ≤ maxLen ∧ full2.take l.length = l ∧ Below base w0 wc))
      case first =>
        go_wp2_with (at_builtin; refine wpList_zeros _ rfl (.tmp 99) (.tmp 100) 22 3 5 base rfl Tryd.underlying22 Tryd.underlying3 PFnNumberFloatLength.info5 g full l rfl HR.out HLe.out HTk.out .i64 rm rfl HRm.out.1 HRm.out.2.1 (by have hb2 := HRm.out.2.2; clear m1a mrm mr mN t5 d5 t6 dRm t7 d7; omega) HBs.out ?_; intro full' w' h1 h2 h3 h4 h5; have HZ := Aside0.mk (And.intro h1 (And.intro h2 (And.intro h3 (And.intro h4 h5)))); clear h1 h2 h3 h4 h5)
        go_meet
        case rel => exact ⟨_, full', by rw [HE.out.2.2.2], ⟨HZ.out.1, HBs.out, by rw [HE.out.2.2.2]; exact HZ.out.2.1, HZ.out.2.2.1, HZ.out.2.2.2.1, HW0.out.trans (HZ.out.2.2.2.2.mono HBs.out)⟩⟩
      case rest =>
        obtain ⟨g2, full2, rfl, HX⟩ := hcut
        clear m1a mrm mr mN t5 d5 t6 dRm t7 d7
        refine use_k (by assumption) ?_
        obtain ⟨h1, h2, h3, h4, h5, h6⟩ := HX.out
        exact part18 (ng := false) _ h1 h3 h5 h4 h2 h6 HLn.out (by have hb1 := HBd.out; have hb2 := HE.out; have hb3 := HLn.out; omega) HSum.out.1 HSum.out.2.1 HSum.out.2.2 (HPar.out _ h3) HZz.out
    · have he : ml1 = 1 + ML ∧ ml2 = ml1 + EL ∧ rm = ml2 + 0 ∧ N = l.length + rm := by
        have z1 : false.toNat = 0 := rfl
        have z2 : true.toNat = 1 := rfl
        omega
      have HE := Aside0.mk he
      have HSum := Aside0.mk (And.intro hi0 (And.intro hlast hdot))
      have HRm := Aside0.mk hroom
      clear he hN hi0 hlast hdot hml1 hml2 hrm
      have hLn := HLn.out
      have hBd := HBd.out
      have hm1 := HE.out
      have p8 : 1 + (ML : Int) = (ml1 : Int) ∧ -9000000000000000000 ≤ (ml1 : Int) ∧ (ml1 : Int) ≤ 9000000000000000000 := by omega
      have p9 : (ml1 : Int) + (EL : Int) = (rm : Int) ∧ -9000000000000000000 ≤ (rm : Int) ∧ (rm : Int) ≤ 9000000000000000000 := by omega
      have p10 : (rm : Int) = (rm : Int) ∧ -9000000000000000000 ≤ (rm : Int) ∧ (rm : Int) ≤ 9000000000000000000 := by omega
      have p11 : (l.length : Int) + (rm : Int) = (N : Int) ∧ -9000000000000000000 ≤ (N : Int) ∧ (N : Int) ≤ 9000000000000000000 := by omega
      have p12 : ¬ ((full.length : Int) < (N : Int)) := by omega
      have p13 : ¬ (full.length < N) := by omega
      have p14 : ¬ ((full.length : Int) < (l.length : Int) + (rm : Int)) := by omega
      have p15 : N ≤ full.length := by omega
      have p16 : (N : Int) ≤ (full.length : Int) := by omega
      have p17 : (0 : Int) ≤ (N : Int) := by omega
      have p18 : (l.length : Int) + (rm : Int) ≤ (full.length : Int) := by omega
      have p19 : (0 : Int) ≤ (l.length : Int) + (rm : Int) := by omega
      have m1a := w64 p8.1 p8.2.1 p8.2.2
      have mrm := w64 p9.1 p9.2.1 p9.2.2
      have mr := w64 p10.1 p10.2.1 p10.2.2
      have mN := w64 p11.1 p11.2.1 p11.2.2
      have t12 := eq_false p12
      have d12 : decide ((full.length : Int) < (N : Int)) = false := decide_eq_false p12
      have t13 := eq_false p13
      have dRm : decide (full.length < N) = false := decide_eq_false p13
      have t14 := eq_false p14
      have d14 : decide ((full.length : Int) < (l.length : Int) + (rm : Int)) = false := decide_eq_false p14
      have t15 := eq_true p15
      have d15 : decide (N ≤ full.length) = true := decide_eq_true p15
      have t16 := eq_true p16
      have d16 : decide ((N : Int) ≤ (full.length : Int)) = true := decide_eq_true p16
      have t17 := eq_true p17
      have d17 : decide ((0 : Int) ≤ (N : Int)) = true := decide_eq_true p17
      have t18 := eq_true p18
      have d18 : decide ((l.length : Int) + (rm : Int) ≤ (full.length : Int)) = true := decide_eq_true p18
      have t19 := eq_true p19
      have d19 : decide ((0 : Int) ≤ (l.length : Int) + (rm : Int)) = true := decide_eq_true p19
      clear hLn hBd hm1 p8 p9 p10 p11 p12 p13 p14 p15 p16 p17 p18 p19
      clear hroom
      go_upto_if 98 with (fail)
      rw [mrm]
      try rw [m1a]
      try rw [mN]
      try rw [dRm]
      go_cut [0] from 99 to 106 (fun v0 wc => ∃ (g2 : Nat) (full2 : List Int), v0 = .slice (some ⟨g2, 0, none⟩) N full2.length ∧ Aside0 (Row 5 wc g2 full2 ∧ base ≤ g2 ∧ N ≤ full2.length ∧ full2.length ≤ maxLen ∧ full2.take l.length = l ∧ Below base w0 wc))
      case first =>
        go_wp2_with (fail)
        go_meet
        case rel => exact ⟨g, full, by first | with_reducible rfl | (simp only [mN, Int.toNat_natCast]; done), ⟨HR.out, HB.out, Nat.le_of_not_lt HRm.out, HMx.out, HTk.out, HW0.out⟩⟩
      case rest =>
        obtain ⟨g2, full2, rfl, HX⟩ := hcut
        clear m1a mrm mr mN t12 d12 t13 dRm t14 d14 t15 d15 t16 d16 t17 d17 t18 d18 t19 d19
        refine use_k (by assumption) ?_
        obtain ⟨h1, h2, h3, h4, h5, h6⟩ := HX.out
        exact part18 (ng := false) _ h1 h3 h5 h4 h2 h6 HLn.out (by have hb1 := HBd.out; have hb2 := HE.out; have hb3 := HLn.out; omega) HSum.out.1 HSum.out.2.1 HSum.out.2.2 (HPar.out _ h3) HZz.out
  · by_cases hroom : full.length < N
    · have he : ml1 = 1 + ML ∧ ml2 = ml1 + EL ∧ rm = ml2 + 1 ∧ N = l.length + rm := by
        have z1 : false.toNat = 0 := rfl
        have z2 : true.toNat = 1 := rfl
        omega
      have HE := Aside0.mk he
      have HSum := Aside0.mk (And.intro hi0 (And.intro hlast hdot))
      have HRm := Aside0.mk (show 0 < rm ∧ full.length < l.length + rm ∧ l.length + rm ≤ 1000000000000 from by have hb1 := HBd.out; have hb3 := HLn.out; omega)
      clear he hN hi0 hlast hdot hml1 hml2 hrm
      have hLn := HLn.out
      have hBd := HBd.out
      have hm1 := HE.out
      have p20 : 1 + (ML : Int) = (ml1 : Int) ∧ -9000000000000000000 ≤ (ml1 : Int) ∧ (ml1 : Int) ≤ 9000000000000000000 := by omega
      have p21 : (ml1 : Int) + (EL : Int) = (ml2 : Int) ∧ -9000000000000000000 ≤ (ml2 : Int) ∧ (ml2 : Int) ≤ 9000000000000000000 := by omega
      have p22 : (ml2 : Int) + 1 = (rm : Int) ∧ -9000000000000000000 ≤ (rm : Int) ∧ (rm : Int) ≤ 9000000000000000000 := by omega
      have p23 : (rm : Int) = (rm : Int) ∧ -9000000000000000000 ≤ (rm : Int) ∧ (rm : Int) ≤ 9000000000000000000 := by omega
      have p24 : (l.length : Int) + (rm : Int) = (N : Int) ∧ -9000000000000000000 ≤ (N : Int) ∧ (N : Int) ≤ 9000000000000000000 := by omega
      have p25 : (full.length : Int) < (N : Int) := by omega
      have p26 : full.length < N := by omega
      have p27 : (full.length : Int) < (l.length : Int) + (rm : Int) := by omega
      have m1a := w64 p20.1 p20.2.1 p20.2.2
      have mrm2 := w64 p21.1 p21.2.1 p21.2.2
      have mrm := w64 p22.1 p22.2.1 p22.2.2
      have mr := w64 p23.1 p23.2.1 p23.2.2
      have mN := w64 p24.1 p24.2.1 p24.2.2
      have t25 := eq_true p25
      have d25 : decide ((full.length : Int) < (N : Int)) = true := decide_eq_true p25
      have t26 := eq_true p26
      have dRm : decide (full.length < N) = true := decide_eq_true p26
      have t27 := eq_true p27
      have d27 : decide ((full.length : Int) < (l.length : Int) + (rm : Int)) = true := decide_eq_true p27
      clear hLn hBd hm1 p20 p21 p22 p23 p24 p25 p26 p27
      clear hroom
      go_upto_if 98 with (fail)
      rw [mrm]
      try rw [m1a]
      try rw [mrm2]
      try rw [mN]
      try rw [dRm]
      go_cut [0] from 99 to 106 (fun v0 wc => ∃ (g2 : Nat) (full2 : List Int), v0 = .slice (some ⟨g2, 0, none⟩) N full2.length ∧ Aside0 (Row 5 wc g2 full2 ∧ base ≤ g2 ∧ N ≤ full2.length ∧ full2.length ≤ maxLen ∧ full2.take l.length = l ∧ Below base w0 wc))
      case first =>
        go_wp2_with (at_builtin; refine wpList_zeros _ rfl (.tmp 99) (.tmp 100) 22 3 5 base rfl Tryd.underlying22 Tryd.underlying3 PFnNumberFloatLength.info5 g full l rfl HR.out HLe.out HTk.out .i64 rm rfl HRm.out.1 HRm.out.2.1 (by have hb2 := HRm.out.2.2; clear m1a mrm2 mrm mr mN t25 d25 t26 dRm t27 d27; omega) HBs.out ?_; intro full' w' h1 h2 h3 h4 h5; have HZ := Aside0.mk (And.intro h1 (And.intro h2 (And.intro h3 (And.intro h4 h5)))); clear h1 h2 h3 h4 h5)
        go_meet
        case rel => exact ⟨_, full', by rw [HE.out.2.2.2], ⟨HZ.out.1, HBs.out, by rw [HE.out.2.2.2]; exact HZ.out.2.1, HZ.out.2.2.1, HZ.out.2.2.2.1, HW0.out.trans (HZ.out.2.2.2.2.mono HBs.out)⟩⟩
      case rest =>
        obtain ⟨g2, full2, rfl, HX⟩ := hcut
        clear m1a mrm2 mrm mr mN t25 d25 t26 dRm t27 d27
        refine use_k (by assumption) ?_
        obtain ⟨h1, h2, h3, h4, h5, h6⟩ := HX.out
        exact part18 (ng := true) _ h1 h3 h5 h4 h2 h6 HLn.out (by have hb1 := HBd.out; have hb2 := HE.out; have hb3 := HLn.out; omega) HSum.out.1 HSum.out.2.1 HSum.out.2.2 (HPar.out _ h3) HZz.out
    · have he : ml1 = 1 + ML ∧ ml2 = ml1 + EL ∧ rm = ml2 + 1 ∧ N = l.length + rm := by
        have z1 : false.toNat = 0 := rfl
        have z2 : true.toNat = 1 := rfl
        omega
      have HE := Aside0.mk he
      have HSum := Aside0.mk (And.intro hi0 (And.intro hlast hdot))
      have HRm := Aside0.mk hroom
      clear he hN hi0 hlast hdot hml1 hml2 hrm
      have hLn := HLn.out
      have hBd := HBd.out
      have hm1 := HE.out
      have p28 : 1 + (ML : Int) = (ml1 : Int) ∧ -9000000000000000000 ≤ (ml1 : Int) ∧ (ml1 : Int) ≤ 9000000000000000000 := by omega
      have p29 : (ml1 : Int) + (EL : Int) = (ml2 : Int) ∧ -9000000000000000000 ≤ (ml2 : Int) ∧ (ml2 : Int) ≤ 9000000000000000000 := by omega
      have p30 : (ml2 : Int) + 1 = (rm : Int) ∧ -9000000000000000000 ≤ (rm : Int) ∧ (rm : Int) ≤ 9000000000000000000 := by omega
      have p31 : (rm : Int) = (rm : Int) ∧ -9000000000000000000 ≤ (rm : Int) ∧ (rm : Int) ≤ 9000000000000000000 := by omega
      have p32 : (l.length : Int) + (rm : Int) = (N : Int) ∧ -9000000000000000000 ≤ (N : Int) ∧ (N : Int) ≤ 9000000000000000000 := by omega
      have p33 : ¬ ((full.length : Int) < (N : Int)) := by omega
      have p34 : ¬ (full.length < N) := by omega
      have p35 : ¬ ((full.length : Int) < (l.length : Int) + (rm : Int)) := by omega
      have p36 : N ≤ full.length := by omega
      have p37 : (N : Int) ≤ (full.length : Int) := by omega
      have p38 : (0 : Int) ≤ (N : Int) := by omega
      have p39 : (l.length : Int) + (rm : Int) ≤ (full.length : Int) := by omega
      have p40 : (0 : Int) ≤ (l.length : Int) + (rm : Int) := by omega
      have m1a := w64 p28.1 p28.2.1 p28.2.2
      have mrm2 := w64 p29.1 p29.2.1 p29.2.2
      have mrm := w64 p30.1 p30.2.1 p30.2.2
      have mr := w64 p31.1 p31.2.1 p31.2.2
      have mN := w64 p32.1 p32.2.1 p32.2.2
      have t33 := eq_false p33
      have d33 : decide ((full.length : Int) < (N : Int)) = false := decide_eq_false p33
      have t34 := eq_false p34
      have dRm : decide (full.length < N) = false := decide_eq_false p34
      have t35 := eq_false p35
      have d35 : decide ((full.length : Int) < (l.length : Int) + (rm : Int)) = false := decide_eq_false p35
      have t36 := eq_true p36
      have d36 : decide (N ≤ full.length) = true := decide_eq_true p36
      have t37 := eq_true p37
      have d37 : decide ((N : Int) ≤ (full.length : Int)) = true := decide_eq_true p37
      have t38 := eq_true p38
      have d38 : decide ((0 : Int) ≤ (N : Int)) = true := decide_eq_true p38
      have t39 := eq_true p39
      have d39 : decide ((l.length : Int) + (rm : Int) ≤ (full.length : Int)) = true := decide_eq_true p39
      have t40 := eq_true p40
      have d40 : decide ((0 : Int) ≤ (l.length : Int) + (rm : Int)) = true := decide_eq_true p40
      clear hLn hBd hm1 p28 p29 p30 p31 p32 p33 p34 p35 p36 p37 p38 p39 p40
      clear hroom
      go_upto_if 98 with (fail)
      rw [mrm]
      try rw [m1a]
      try rw [mrm2]
      try rw [mN]
      try rw [dRm]
      go_cut [0] from 99 to 106 (fun v0 wc => ∃ (g2 : Nat) (full2 : List Int), v0 = .slice (some ⟨g2, 0, none⟩) N full2.length ∧ Aside0 (Row 5 wc g2 full2 ∧ base ≤ g2 ∧ N ≤ full2.length ∧ full2.length ≤ maxLen ∧ full2.take l.length = l ∧ Below base w0 wc))
      case first =>
        go_wp2_with (fail)
        go_meet
        case rel => exact ⟨g, full, by first | with_reducible rfl | (simp only [mN, Int.toNat_natCast]; done), ⟨HR.out, HB.out, Nat.le_of_not_lt HRm.out, HMx.out, HTk.out, HW0.out⟩⟩
      case rest =>
        obtain ⟨g2, full2, rfl, HX⟩ := hcut
        clear m1a mrm2 mrm mr mN t33 d33 t34 dRm t35 d35 t36 d36 t37 d37 t38 d38 t39 d39 t40 d40
        refine use_k (by assumption) ?_
        obtain ⟨h1, h2, h3, h4, h5, h6⟩ := HX.out
        exact part18 (ng := true) _ h1 h3 h5 h4 h2 h6 HLn.out (by have hb1 := HBd.out; have hb2 := HE.out; have hb3 := HLn.out; omega) HSum.out.1 HSum.out.2.1 HSum.out.2.2 (HPar.out _ h3) HZz.out
end Go.Proofs.YtmpgbakkpbmpiaaDoor.AF
/- AppendFloat: the kinds of exponent. -/
namespace Go.Proofs.YtmpgbakkpbmpiaaDoor.AF
open Go.RowKit Go.Proofs.YtmpgbakkpbmpiaaDoorW.PrintWords Go.Proofs.YtmpgbakkpbmpiaaDoorW.PrintLast Go.Proofs.YtmpgbakkpbmpiaaDoorW.PrintMore
open PFl Brow Dig AD
set_option linter.unusedVariables false
set_option linter.unusedSimpArgs false

theorem lenI_small {e : Int} (h : e.natAbs ≤ 99) : lenI e ≤ 3 := by
  unfold lenI
  have h1 := digs_len e.natAbs
  have h3 : (Dig.digs e.natAbs).length ≤ 2 := by
    rcases Nat.lt_or_ge 2 (Dig.digs e.natAbs).length with hlt | hge
    · exfalso
      have h4 := Nat.pow_le_pow_right (n := 10) (by decide) (show 2 ≤ (Dig.digs e.natAbs).length - 1 by omega)
      have h5 : (10 : Nat) ^ 2 = 100 := by decide
      rcases Nat.eq_zero_or_pos e.natAbs with h0 | h0
      · rw [h0, digs_small (by decide)] at hlt
        exact absurd hlt (by decide)
      · have := h1.2.2 h0
        omega
    · exact hge
  split <;> omega
set_option maxHeartbeats 4000000 in
set_option maxRecDepth 100000 in
theorem part11 {g m0 n K z L base : Nat} {P mx : Int} {ng : Bool} {full l : List Int} {w0 : World} {u1 u3 u4 u5 u6 u25 u26 u27 u28 u29 u30 u31 u32 u33 u34 u35 u36 u37 u38 u39 u40 u41 u42 u43 u44 u45 u46 u47 u48 u49 u50 u51 u52 u53 u54 u55 u56 u57 u58 u59 u60 u61 u62 : Value} (W : World) (hr : Row 5 W g full) (hl : l.length ≤ full.length) (htk : full.take l.length = l) (hmx : full.length ≤ maxLen) (hb : base ≤ g) (hbs : base ≤ W.heap.size) (hw0 : Below base w0 W) (hln : l.length ≤ 100000000000) (hbd : L ≤ 25 ∧ -60 ≤ P ∧ P ≤ 60 ∧ m0 < 9000000000000000000) (hmx0 : mx = (L : Int) - P - 1) (hz : m0 = n * 10 ^ z ∧ L = K + z) (hK : (D n).length = K) (hn : n % 10 ≠ 0) :
    Code.wp Tryd.prog (rest 11 body22) (bodyPost Tryd.prog Tryd.f22 fun e w' => ∃ (v' : Value) (M E : List Int), e = .returned v' ∧ MantOK M ∧ ExpOK E ∧ Bs 5 w' base v' (l ++ sgn ng ++ M ++ E) ∧ Below base w0 w') ⟨#[.slice (some ⟨g, 0, none⟩) l.length full.length, u1, .int .i64 P, u3, u4, u5, u6, .bool ng, .int .i64 (m0 : Int), .int .i64 (L : Int), .int .i64 mx, undef, undef, undef, undef, undef, undef, undef, undef, undef, undef, undef, undef, undef, undef, u25, u26, u27, u28, u29, u30, u31, u32, u33, u34, u35, u36, u37, u38, u39, u40, u41, u42, u43, u44, u45, u46, u47, u48, u49, u50, u51, u52, u53, u54, u55, u56, u57, u58, u59, u60, u61, u62, undef, undef, undef, undef, undef, undef, undef, undef, undef, undef, undef, undef, undef, undef, undef, undef, undef, undef, undef, undef, undef, undef, undef, undef, undef, undef, undef, undef, undef, undef, undef, undef, undef, undef, undef, undef, undef, undef, undef, undef, undef, undef, undef, undef, undef, undef, undef, undef, undef, undef, undef, undef, undef, undef, undef, undef, undef, undef, undef, undef, undef, undef, undef, undef, undef, undef, undef, undef, undef, undef, undef, undef, undef, undef, undef, undef, undef, undef, undef, undef, undef, undef, undef, undef, undef, undef, undef, undef, undef, undef, undef, undef, undef, undef, undef, undef, undef, undef, undef, undef, undef, undef, undef, undef, undef, undef, undef, undef, undef, undef, undef, undef, undef, undef, undef, undef, undef, undef, undef, undef, undef, undef, undef, undef, undef, undef, undef, undef, undef, undef, undef, undef, undef, undef, undef, undef, undef, undef, undef, undef, undef, undef, undef, undef, undef, undef, undef, undef, undef, undef, undef, undef, undef, undef, undef, undef, undef, undef, undef, undef, undef, undef, undef, undef, undef, undef, undef, undef, undef, undef, undef, undef, undef, undef, undef, undef, undef, undef, undef, undef, undef, undef, undef, undef, undef, undef, undef, undef, undef, undef, undef, undef, undef, undef, undef, undef, undef, undef, undef, undef, undef, undef, undef], []⟩ W := by
  conv => arg 2; whnf
  have HR := Aside0.mk hr
  have HLe := Aside0.mk hl
  have HTk := Aside0.mk htk
  have HMx := Aside0.mk hmx
  have HB := Aside0.mk hb
  have HBs := Aside0.mk hbs
  have HW0 := Aside0.mk hw0
  have HLn := Aside0.mk hln
  have HZ := Aside0.mk hz
  have HK := Aside0.mk (And.intro hK hn)
  have HK1 := Aside0.mk (show 1 ≤ K from by
    have h2 := D_len (q := n) (by intro h; rw [h] at hn; exact hn rfl)
    omega)
  have HLen := Aside0.mk (fun (W : World) (y : Int) (hy : y.natAbs < 9223372036854775808) => PFnNumberDecimalNear.tdstrconv_LenInt.calls y _ W (lenI_eq y hy))
  have hq99 : lenI mx ≤ 3 ∧ lenI 0 ≤ 3 := ⟨lenI_small (by omega), lenI_small (by decide)⟩
  obtain ⟨i0, hi0⟩ : ∃ i0 : Nat, i0 = l.length + ng.toNat := ⟨_, rfl⟩
  have HPl := Aside0.mk (show (l ++ sgn ng).length = i0 ∧ i0 = l.length + ng.toNat from ⟨by rw [List.length_append, hi0]; cases ng <;> rfl, hi0⟩)
  have hng : ng.toNat ≤ 1 := by cases ng <;> decide
  have HBd := Aside0.mk (And.intro hbd (And.intro hq99 (And.intro hng (And.intro hi0 hmx0))))
  clear hr hl htk hmx hb hbs hw0 hln hz hK hn hbd hq99 hng hi0 hmx0
  by_cases c1 : 0 < mx
  · by_cases c2 : P < 0
    · have HLA := Aside0.mk (fun W : World => HLen.out W mx (by have hb := HBd.out; omega))
      generalize hq : lenI mx = q at *
      obtain ⟨dt, hdt⟩ : ∃ dt : Nat, dt = i0 + 1 := ⟨_, rfl⟩
      have hp1 := HPl.out
      have hPar : ∀ c, (l.length + (1 + L + (1 + q) + ng.toNat)) ≤ c → Par i0 0 n K (l.length + (1 + L + (1 + q) + ng.toNat)) c dt (i0 + L) mx (l ++ sgn ng) := fun c hc => by
        have hb := HBd.out
        have hl := HLn.out
        have hk := HK.out
        have hK1 := HK1.out
        have hz9 := HZ.out.2
        exact ⟨hp1.1, hk.1, hk.2, by omega, by omega, .inr ⟨by rw [hq]; omega, by omega⟩, by omega, by omega, by omega, by omega, hc⟩
      have hdot : (dt : Int) = ((i0 + L : Nat) : Int) - P - mx := by have hb := HBd.out; have hK1 := HK1.out; omega
      have hzz : m0 = n * 10 ^ z ∧ i0 + L = i0 + 0 + K + z := ⟨HZ.out.1, by have hb := HBd.out; have hz := HZ.out.2; have hK1 := HK1.out; omega⟩
      have hb9 : L ≤ 100 ∧ (1 + q) ≤ 100 ∧ -100 ≤ P ∧ P ≤ 100 ∧ -100 ≤ mx ∧ mx ≤ 100 ∧ m0 < 9000000000000000000 := by have hb := HBd.out; omega
      have HFin := Aside0.mk (And.intro hPar (And.intro hdot (And.intro hzz (And.intro hb9 hp1.2))))
      have hBd := HBd.out
      have hLn := HLn.out
      have p1 : 0 < mx := by omega
      have p2 : P < 0 := by omega
      have p3 : 1 + (q : Int) = ((1 + q : Nat) : Int) ∧ -9000000000000000000 ≤ ((1 + q : Nat) : Int) ∧ ((1 + q : Nat) : Int) ≤ 9000000000000000000 := by omega
      have t1 := eq_true p1
      have d1 : decide (0 < mx) = true := decide_eq_true p1
      have t2 := eq_true p2
      have d2 : decide (P < 0) = true := decide_eq_true p2
      have mq := w64 p3.1 p3.2.1 p3.2.2
      clear hBd hLn p1 p2 p3
      clear c1 c2 hPar hdot hzz hb9 hp1 hdt hq
      go_upto_if 64 with (fail)
      go_cut [9, 11, 12] from 65 to 83 (fun v9 v11 v12 wc => v9 = .int .i64 ((L : Nat) : Int) ∧ v11 = .int .i64 mx ∧ v12 = .int .i64 (((1 + q) : Nat) : Int) ∧ Aside0 (∃ nd, wc = W.drewN nd))
      case first =>
        go_wp2_with (first | (go_at_call 29; with_reducible refine (HLA.out _).mono ?_; rintro e w' ⟨rfl, ⟨nd1, rfl⟩⟩))
        go_meet
        case rel => exact ⟨by first | with_reducible rfl | (simp only [mq]; done) | exact congrArg (Value.int IntKind.i64) (Int.natCast_add _ _).symm | rfl, by first | with_reducible rfl | (simp only [mq]; done) | exact congrArg (Value.int IntKind.i64) (Int.natCast_add _ _).symm | rfl, by first | with_reducible rfl | (simp only [mq]; done) | exact congrArg (Value.int IntKind.i64) (Int.natCast_add _ _).symm | rfl, ⟨nd1, rfl⟩⟩
      case rest =>
        obtain ⟨rfl, rfl, rfl, HW⟩ := hcut
        obtain ⟨nd, rfl⟩ := HW.out
        clear t1 d1 t2 d2 mq
        refine use_k (by assumption) ?_
        exact part14 _ (HR.out.drewN nd) HLe.out HTk.out HMx.out HB.out HBs.out (pw_below_drewN HW0.out nd) HLn.out HFin.out.2.2.2.1 rfl HFin.out.2.2.2.2 rfl HFin.out.2.1 HFin.out.1 HFin.out.2.2.1
    · have HLA := Aside0.mk (fun W : World => HLen.out W (0 : Int) (by have hb := HBd.out; omega))
      generalize hq : lenI (0 : Int) = q at *
      obtain ⟨dt, hdt⟩ : ∃ dt : Nat, dt = i0 + (L - P.toNat) := ⟨_, rfl⟩
      have hp1 := HPl.out
      have hPar : ∀ c, (l.length + (1 + L + (1 + q) + ng.toNat)) ≤ c → Par i0 0 n K (l.length + (1 + L + (1 + q) + ng.toNat)) c dt (i0 + L) (0 : Int) (l ++ sgn ng) := fun c hc => by
        have hb := HBd.out
        have hl := HLn.out
        have hk := HK.out
        have hK1 := HK1.out
        have hz9 := HZ.out.2
        exact ⟨hp1.1, hk.1, hk.2, by omega, by omega, .inl rfl, by omega, by omega, by omega, by omega, hc⟩
      have hdot : (dt : Int) = ((i0 + L : Nat) : Int) - P - (0 : Int) := by have hb := HBd.out; have hK1 := HK1.out; omega
      have hzz : m0 = n * 10 ^ z ∧ i0 + L = i0 + 0 + K + z := ⟨HZ.out.1, by have hb := HBd.out; have hz := HZ.out.2; have hK1 := HK1.out; omega⟩
      have hb9 : L ≤ 100 ∧ (1 + q) ≤ 100 ∧ -100 ≤ P ∧ P ≤ 100 ∧ -100 ≤ (0 : Int) ∧ (0 : Int) ≤ 100 ∧ m0 < 9000000000000000000 := by have hb := HBd.out; omega
      have HFin := Aside0.mk (And.intro hPar (And.intro hdot (And.intro hzz (And.intro hb9 hp1.2))))
      have hBd := HBd.out
      have hLn := HLn.out
      have p4 : 0 < mx := by omega
      have p5 : ¬ (P < 0) := by omega
      have p6 : 1 + (q : Int) = ((1 + q : Nat) : Int) ∧ -9000000000000000000 ≤ ((1 + q : Nat) : Int) ∧ ((1 + q : Nat) : Int) ≤ 9000000000000000000 := by omega
      have t4 := eq_true p4
      have d4 : decide (0 < mx) = true := decide_eq_true p4
      have t5 := eq_false p5
      have d5 : decide (P < 0) = false := decide_eq_false p5
      have mq := w64 p6.1 p6.2.1 p6.2.2
      clear hBd hLn p4 p5 p6
      clear c1 c2 hPar hdot hzz hb9 hp1 hdt hq
      go_upto_if 64 with (fail)
      go_cut [9, 11, 12] from 65 to 83 (fun v9 v11 v12 wc => v9 = .int .i64 ((L : Nat) : Int) ∧ v11 = .int .i64 (0 : Int) ∧ v12 = .int .i64 (((1 + q) : Nat) : Int) ∧ Aside0 (∃ nd, wc = W.drewN nd))
      case first =>
        go_wp2_with (first | (go_at_call 29; with_reducible refine (HLA.out _).mono ?_; rintro e w' ⟨rfl, ⟨nd1, rfl⟩⟩))
        go_meet
        case rel => exact ⟨by first | with_reducible rfl | (simp only [mq]; done) | exact congrArg (Value.int IntKind.i64) (Int.natCast_add _ _).symm | rfl, by first | with_reducible rfl | (simp only [mq]; done) | exact congrArg (Value.int IntKind.i64) (Int.natCast_add _ _).symm | rfl, by first | with_reducible rfl | (simp only [mq]; done) | exact congrArg (Value.int IntKind.i64) (Int.natCast_add _ _).symm | rfl, ⟨nd1, rfl⟩⟩
      case rest =>
        obtain ⟨rfl, rfl, rfl, HW⟩ := hcut
        obtain ⟨nd, rfl⟩ := HW.out
        clear t4 d4 t5 d5 mq
        refine use_k (by assumption) ?_
        exact part14 _ (HR.out.drewN nd) HLe.out HTk.out HMx.out HB.out HBs.out (pw_below_drewN HW0.out nd) HLn.out HFin.out.2.2.2.1 rfl HFin.out.2.2.2.2 rfl HFin.out.2.1 HFin.out.1 HFin.out.2.2.1
  · by_cases c2 : mx < -3
    · have HLA := Aside0.mk (fun W : World => HLen.out W mx (by have hb := HBd.out; omega))
      generalize hq : lenI mx = q at *
      obtain ⟨dt, hdt⟩ : ∃ dt : Nat, dt = i0 + 1 := ⟨_, rfl⟩
      have hp1 := HPl.out
      have hPar : ∀ c, (l.length + (1 + L + (1 + q) + ng.toNat)) ≤ c → Par i0 0 n K (l.length + (1 + L + (1 + q) + ng.toNat)) c dt (i0 + L) mx (l ++ sgn ng) := fun c hc => by
        have hb := HBd.out
        have hl := HLn.out
        have hk := HK.out
        have hK1 := HK1.out
        have hz9 := HZ.out.2
        exact ⟨hp1.1, hk.1, hk.2, by omega, by omega, .inr ⟨by rw [hq]; omega, by omega⟩, by omega, by omega, by omega, by omega, hc⟩
      have hdot : (dt : Int) = ((i0 + L : Nat) : Int) - P - mx := by have hb := HBd.out; have hK1 := HK1.out; omega
      have hzz : m0 = n * 10 ^ z ∧ i0 + L = i0 + 0 + K + z := ⟨HZ.out.1, by have hb := HBd.out; have hz := HZ.out.2; have hK1 := HK1.out; omega⟩
      have hb9 : L ≤ 100 ∧ (1 + q) ≤ 100 ∧ -100 ≤ P ∧ P ≤ 100 ∧ -100 ≤ mx ∧ mx ≤ 100 ∧ m0 < 9000000000000000000 := by have hb := HBd.out; omega
      have HFin := Aside0.mk (And.intro hPar (And.intro hdot (And.intro hzz (And.intro hb9 hp1.2))))
      have hBd := HBd.out
      have hLn := HLn.out
      have p7 : ¬ (0 < mx) := by omega
      have p8 : mx < -3 := by omega
      have p9 : 1 + (q : Int) = ((1 + q : Nat) : Int) ∧ -9000000000000000000 ≤ ((1 + q : Nat) : Int) ∧ ((1 + q : Nat) : Int) ≤ 9000000000000000000 := by omega
      have t7 := eq_false p7
      have d7 : decide (0 < mx) = false := decide_eq_false p7
      have t8 := eq_true p8
      have d8 : decide (mx < -3) = true := decide_eq_true p8
      have mq := w64 p9.1 p9.2.1 p9.2.2
      clear hBd hLn p7 p8 p9
      clear c1 c2 hPar hdot hzz hb9 hp1 hdt hq
      go_upto_if 64 with (fail)
      go_cut [9, 11, 12] from 65 to 83 (fun v9 v11 v12 wc => v9 = .int .i64 ((L : Nat) : Int) ∧ v11 = .int .i64 mx ∧ v12 = .int .i64 (((1 + q) : Nat) : Int) ∧ Aside0 (∃ nd, wc = W.drewN nd))
      case first =>
        go_wp2_with (first | (go_at_call 29; with_reducible refine (HLA.out _).mono ?_; rintro e w' ⟨rfl, ⟨nd1, rfl⟩⟩))
        go_meet
        case rel => exact ⟨by first | with_reducible rfl | (simp only [mq]; done) | exact congrArg (Value.int IntKind.i64) (Int.natCast_add _ _).symm | rfl, by first | with_reducible rfl | (simp only [mq]; done) | exact congrArg (Value.int IntKind.i64) (Int.natCast_add _ _).symm | rfl, by first | with_reducible rfl | (simp only [mq]; done) | exact congrArg (Value.int IntKind.i64) (Int.natCast_add _ _).symm | rfl, ⟨nd1, rfl⟩⟩
      case rest =>
        obtain ⟨rfl, rfl, rfl, HW⟩ := hcut
        obtain ⟨nd, rfl⟩ := HW.out
        clear t7 d7 t8 d8 mq
        refine use_k (by assumption) ?_
        exact part14 _ (HR.out.drewN nd) HLe.out HTk.out HMx.out HB.out HBs.out (pw_below_drewN HW0.out nd) HLn.out HFin.out.2.2.2.1 rfl HFin.out.2.2.2.2 rfl HFin.out.2.1 HFin.out.1 HFin.out.2.2.1
    · by_cases c3 : mx < -1
      · obtain ⟨rr, hrr⟩ : ∃ rr : Nat, rr = P.toNat - L := ⟨_, rfl⟩
        obtain ⟨dt, hdt⟩ : ∃ dt : Nat, dt = i0 := ⟨_, rfl⟩
        have hp1 := HPl.out
        have hPar : ∀ c, (l.length + (1 + (L + rr) + 0 + ng.toNat)) ≤ c → Par i0 rr n K (l.length + (1 + (L + rr) + 0 + ng.toNat)) c dt (i0 + (L + rr)) (0 : Int) (l ++ sgn ng) := fun c hc => by
          have hb := HBd.out
          have hl := HLn.out
          have hk := HK.out
          have hK1 := HK1.out
          have hz9 := HZ.out.2
          exact ⟨hp1.1, hk.1, hk.2, by omega, by omega, .inl rfl, by omega, by omega, by omega, by omega, hc⟩
        have hdot : (dt : Int) = ((i0 + (L + rr) : Nat) : Int) - P - (0 : Int) := by have hb := HBd.out; have hK1 := HK1.out; omega
        have hzz : m0 = n * 10 ^ z ∧ i0 + (L + rr) = i0 + rr + K + z := ⟨HZ.out.1, by have hb := HBd.out; have hz := HZ.out.2; have hK1 := HK1.out; omega⟩
        have hb9 : (L + rr) ≤ 100 ∧ 0 ≤ 100 ∧ -100 ≤ P ∧ P ≤ 100 ∧ -100 ≤ (0 : Int) ∧ (0 : Int) ≤ 100 ∧ m0 < 9000000000000000000 := by have hb := HBd.out; omega
        have HFin := Aside0.mk (And.intro hPar (And.intro hdot (And.intro hzz (And.intro hb9 hp1.2))))
        have hBd := HBd.out
        have hLn := HLn.out
        have p10 : ¬ (0 < mx) := by omega
        have p11 : ¬ (mx < -3) := by omega
        have p12 : mx < -1 := by omega
        have p13 : -mx = -mx ∧ -9000000000000000000 ≤ -mx ∧ -mx ≤ 9000000000000000000 := by omega
        have p14 : -mx - 1 = (rr : Int) ∧ -9000000000000000000 ≤ (rr : Int) ∧ (rr : Int) ≤ 9000000000000000000 := by omega
        have p15 : (L : Int) + (rr : Int) = ((L + rr : Nat) : Int) ∧ -9000000000000000000 ≤ ((L + rr : Nat) : Int) ∧ ((L + rr : Nat) : Int) ≤ 9000000000000000000 := by omega
        have p16 : (L : Int) + (-mx - 1) = ((L + rr : Nat) : Int) ∧ -9000000000000000000 ≤ ((L + rr : Nat) : Int) ∧ ((L + rr : Nat) : Int) ≤ 9000000000000000000 := by omega
        have t10 := eq_false p10
        have d10 : decide (0 < mx) = false := decide_eq_false p10
        have t11 := eq_false p11
        have d11 : decide (mx < -3) = false := decide_eq_false p11
        have t12 := eq_true p12
        have d12 : decide (mx < -1) = true := decide_eq_true p12
        have t13 := w64 p13.1 p13.2.1 p13.2.2
        have t14 := w64 p14.1 p14.2.1 p14.2.2
        have mr := w64 p15.1 p15.2.1 p15.2.2
        have mr2 := w64 p16.1 p16.2.1 p16.2.2
        clear hBd hLn p10 p11 p12 p13 p14 p15 p16
        clear hrr hPar hdot hzz hb9 hp1 hdt
        go_upto_if 64 with (fail)
        go_cut [9, 11, 12] from 65 to 83 (fun v9 v11 v12 wc => v9 = .int .i64 (((L + rr) : Nat) : Int) ∧ v11 = .int .i64 (0 : Int) ∧ v12 = .int .i64 ((0 : Nat) : Int) ∧ Aside0 (∃ nd, wc = W.drewN nd))
        case first =>
          go_wp2_with (fail)
          go_meet
          case rel => exact ⟨by first | with_reducible rfl | (simp only [mr, mr2]; done) | exact congrArg (Value.int IntKind.i64) (Int.natCast_add _ _).symm | rfl, by first | with_reducible rfl | (simp only [mr, mr2]; done) | exact congrArg (Value.int IntKind.i64) (Int.natCast_add _ _).symm | rfl, by first | with_reducible rfl | (simp only [mr, mr2]; done) | exact congrArg (Value.int IntKind.i64) (Int.natCast_add _ _).symm | rfl, ⟨0, rfl⟩⟩
        case rest =>
          obtain ⟨rfl, rfl, rfl, HW⟩ := hcut
          obtain ⟨nd, rfl⟩ := HW.out
          clear t10 d10 t11 d11 t12 d12 t13 t14 mr mr2
          refine use_k (by assumption) ?_
          exact part14 _ (HR.out.drewN nd) HLe.out HTk.out HMx.out HB.out HBs.out (pw_below_drewN HW0.out nd) HLn.out HFin.out.2.2.2.1 rfl HFin.out.2.2.2.2 rfl HFin.out.2.1 HFin.out.1 HFin.out.2.2.1
      · obtain ⟨dt, hdt⟩ : ∃ dt : Nat, dt = i0 + (1 + mx).toNat := ⟨_, rfl⟩
        have hp1 := HPl.out
        have hPar : ∀ c, (l.length + (1 + L + 0 + ng.toNat)) ≤ c → Par i0 0 n K (l.length + (1 + L + 0 + ng.toNat)) c dt (i0 + L) (0 : Int) (l ++ sgn ng) := fun c hc => by
          have hb := HBd.out
          have hl := HLn.out
          have hk := HK.out
          have hK1 := HK1.out
          have hz9 := HZ.out.2
          exact ⟨hp1.1, hk.1, hk.2, by omega, by omega, .inl rfl, by omega, by omega, by omega, by omega, hc⟩
        have hdot : (dt : Int) = ((i0 + L : Nat) : Int) - P - (0 : Int) := by have hb := HBd.out; have hK1 := HK1.out; omega
        have hzz : m0 = n * 10 ^ z ∧ i0 + L = i0 + 0 + K + z := ⟨HZ.out.1, by have hb := HBd.out; have hz := HZ.out.2; have hK1 := HK1.out; omega⟩
        have hb9 : L ≤ 100 ∧ 0 ≤ 100 ∧ -100 ≤ P ∧ P ≤ 100 ∧ -100 ≤ (0 : Int) ∧ (0 : Int) ≤ 100 ∧ m0 < 9000000000000000000 := by have hb := HBd.out; omega
        have HFin := Aside0.mk (And.intro hPar (And.intro hdot (And.intro hzz (And.intro hb9 hp1.2))))
        have hBd := HBd.out
        have hLn := HLn.out
        have p17 : ¬ (0 < mx) := by omega
        have p18 : ¬ (mx < -3) := by omega
        have p19 : ¬ (mx < -1) := by omega
        have t17 := eq_false p17
        have d17 : decide (0 < mx) = false := decide_eq_false p17
        have t18 := eq_false p18
        have d18 : decide (mx < -3) = false := decide_eq_false p18
        have t19 := eq_false p19
        have d19 : decide (mx < -1) = false := decide_eq_false p19
        clear hBd hLn p17 p18 p19
        clear c3 c1 c2 hPar hdot hzz hb9 hp1 hdt
        go_upto_if 64 with (fail)
        go_cut [9, 11, 12] from 65 to 83 (fun v9 v11 v12 wc => v9 = .int .i64 ((L : Nat) : Int) ∧ v11 = .int .i64 (0 : Int) ∧ v12 = .int .i64 ((0 : Nat) : Int) ∧ Aside0 (∃ nd, wc = W.drewN nd))
        case first =>
          go_wp2_with (fail)
          go_meet
          case rel => exact ⟨rfl, rfl, rfl, ⟨0, rfl⟩⟩
        case rest =>
          obtain ⟨rfl, rfl, rfl, HW⟩ := hcut
          obtain ⟨nd, rfl⟩ := HW.out
          clear t17 d17 t18 d18 t19 d19
          refine use_k (by assumption) ?_
          exact part14 _ (HR.out.drewN nd) HLe.out HTk.out HMx.out HB.out HBs.out (pw_below_drewN HW0.out nd) HLn.out HFin.out.2.2.2.1 rfl HFin.out.2.2.2.2 rfl HFin.out.2.1 HFin.out.1 HFin.out.2.2.1
end Go.Proofs.YtmpgbakkpbmpiaaDoor.AF
/- AppendFloat, the call, where the mantissa is not nought. -/
namespace Go.Proofs.YtmpgbakkpbmpiaaDoor.AF
open Go.RowKit Go.Proofs.YtmpgbakkpbmpiaaDoorW.PrintWords Go.Proofs.YtmpgbakkpbmpiaaDoorW.PrintLast Go.Proofs.YtmpgbakkpbmpiaaDoorW.PrintMore
open PFl Brow Dig AD
set_option linter.unusedVariables false
set_option linter.unusedSimpArgs false

theorem digs_25 {n : Nat} (h : n < 9223372036854775808) : (Dig.digs n).length ≤ 25 := by
  have h1 := digs_len n
  rcases Nat.lt_or_ge 25 (Dig.digs n).length with hlt | hge
  · exfalso
    have h4 := Nat.pow_le_pow_right (n := 10) (by decide) (show 25 ≤ (Dig.digs n).length - 1 by omega)
    have h5 : (10 : Nat) ^ 25 = 10000000000000000000000000 := by decide
    rcases Nat.eq_zero_or_pos n with h0 | h0
    · rw [h0, digs_small (by decide)] at hlt
      exact absurd hlt (by decide)
    · have := h1.2.2 h0
      omega
  · exact hge
/-- A number without the noughts at its end. -/
theorem strip (m : Nat) (h : 0 < m) : ∃ n z, m = n * 10 ^ z ∧ n % 10 ≠ 0 ∧ (Dig.digs m).length = (D n).length + z := by
  induction m using Nat.strongRecOn with
  | ind m ih =>
    by_cases h0 : m % 10 = 0
    · obtain ⟨n, z, h1, h2, h3⟩ := ih (m / 10) (by omega) (by omega)
      refine ⟨n, z + 1, ?_, h2, ?_⟩
      · rw [Nat.pow_succ, ← Nat.mul_assoc, ← h1]; omega
      · rw [digs_big (by omega), List.length_append, List.length_singleton, h3]; omega
    · refine ⟨m, 0, by simp, h0, ?_⟩
      unfold D
      rw [if_neg (by omega)]
      rfl
set_option maxHeartbeats 4000000 in
set_option maxRecDepth 100000 in
theorem float_pos (w : World) (g : Nat) (full l : List Int) (base p f fa pwv gg m0 : Nat) (t P : Int) (hr : Row 5 w g full) (hl : l.length ≤ full.length) (htk : full.take l.length = l) (hmx : full.length ≤ maxLen) (hb : base ≤ g) (hbs : base ≤ w.heap.size) (hln : l.length ≤ 100000000000)
    (hp : p ≤ 8) (hP : wrap64 ((p : Int) - t) = P) (hP2 : -60 ≤ P ∧ P ≤ 60) (hm0 : 0 < m0 ∧ m0 < 9000000000000000000)
    (hnan : ∀ W : World, Calls Tryd.prog 28 #[.float .f64 f] W fun e w' => e = .returned (.bool false) ∧ Drawn0 W w')
    (hinf : ∀ W : World, Calls Tryd.prog 25 #[.float .f64 f, .int .i64 0] W fun e w' => e = .returned (.bool false) ∧ Drawn0 W w')
    (ho : (FloatKind.f64.format.order f 0 == some .lt) = false) (hfa : fa = f)
    (hexp : ∀ W : World, Calls Tryd.prog 30 #[.float .f64 fa] W fun e w' => e = .returned (.int .i64 t) ∧ Drawn0 W w')
    (hpow : ∀ W : World, W.heap = w.heap → Calls Tryd.prog 24 #[.int .i64 P] W fun e w' => e = .returned (.float .f64 pwv) ∧ Drawn0 W w')
    (e1 : FloatKind.f64.format.mul fa pwv = some gg)
    (hcv : ∀ W : World, (convert 25 2 (.float .f64 gg)).run Tryd.prog W = .ok (.int .i64 (m0 : Int)) W) :
    Calls Tryd.prog 22 #[.slice (some ⟨g, 0, none⟩) l.length full.length, .float .f64 f, .int .i64 p] w fun e w' =>
      ∃ (v' : Value) (M E : List Int), e = .returned v' ∧ MantOK M ∧ ExpOK E ∧ Bs 5 w' base v' (l ++ sgn false ++ M ++ E) ∧ Below base w w' := by
  subst hfa
  have HNan := Aside0.mk hnan
  have HInf := Aside0.mk hinf
  have HPow := Aside0.mk hpow
  have HExp := Aside0.mk hexp
  obtain ⟨L, hL⟩ : ∃ L : Nat, L = (Dig.digs m0).length := ⟨_, rfl⟩
  have HLen := Aside0.mk (fun W : World => show Calls Tryd.prog 29 #[.int .i64 (m0 : Int)] W (fun e w' => e = .returned (.int .i64 (L : Int)) ∧ Drawn0 W w') from by rw [hL]; exact PFnNumberDecimalNear.tdstrconv_LenInt.calls _ _ W (lenInt_eq m0 (by omega)))
  obtain ⟨n, z, hz1, hz2, hz3⟩ := strip m0 hm0.1
  have hL25 : L ≤ 25 := by rw [hL]; exact digs_25 (by omega)
  obtain ⟨mx, hmx0⟩ : ∃ mx : Int, mx = (L : Int) - P - 1 := ⟨_, rfl⟩
  have HBd := Aside0.mk (And.intro hL25 (And.intro hP2 (And.intro hm0 hmx0)))
  have HB2 := Aside0.mk (show L ≤ 25 ∧ -60 ≤ P ∧ P ≤ 60 ∧ m0 < 9000000000000000000 from ⟨hL25, hP2.1, hP2.2, hm0.2⟩)
  have HSt := Aside0.mk (And.intro hz1 (And.intro hz2 (hL.trans hz3)))
  have HPe := Aside0.mk hP
  have hmul : ∀ W : World, (binOp .mul 25 (.float .f64 fa) (.float .f64 pwv)).run Tryd.prog W = .ok (.float .f64 gg) W := fun W => run_float_arith W .mul 25 .f64 _ _ gg e1
  have d1 := eq_false (show ¬ (p : Int) < 0 by omega)
  have d2 := eq_false (show ¬ (17 : Int) < (p : Int) by omega)
  have d3 : decide ((p : Int) < 0) = false := decide_eq_false (by omega)
  have d4 : decide ((17 : Int) < (p : Int)) = false := decide_eq_false (by omega)
  have d5 := eq_false (show ¬ 17 < p by omega)
  have o2 := eq_false (show ¬ FloatKind.f64.format.order fa 0 = some .lt from fun h => by rw [h] at ho; cases ho)
  have HArg := Aside0.mk (And.intro hr (And.intro hl (And.intro htk (And.intro hmx (And.intro hb (And.intro hbs hln))))))
  clear e1 hr hl htk hmx hb hbs hln hp hnan hinf hexp hpow hL hL25 hmx0 hP2 hm0 hz1 hz2 hz3
  have hb0 := HBd.out
  have p1 : ¬ ((m0 : Int) = 0) := by omega
  have p2 : ¬ (m0 = 0) := by omega
  have p3 : (L : Int) - P = (L : Int) - P ∧ -9000000000000000000 ≤ (L : Int) - P ∧ (L : Int) - P ≤ 9000000000000000000 := by omega
  have p4 : (L : Int) - P - 1 = mx ∧ -9000000000000000000 ≤ mx ∧ mx ≤ 9000000000000000000 := by omega
  have t1 := eq_false p1
  have s1 : ((m0 : Int) == 0) = false := beq_eq_false_iff_ne.mpr p1
  have r1 : ((m0 : Int) != 0) = true := bne_iff_ne.mpr p1
  have t2 := eq_false p2
  have d2 : decide (m0 = 0) = false := decide_eq_false p2
  have t3 := w64 p3.1 p3.2.1 p3.2.2
  have mmx := w64 p4.1 p4.2.1 p4.2.2
  clear hb0 p1 p2 p3 p4
  go_enter Tryd.func22, Tryd.ntmps22
  go_upto_if 59 with (first | (go_at_call 28; refine (HNan.out _).mono ?_; rintro e w' ⟨rfl, ⟨nd, rfl⟩⟩) | (go_at_call 25; refine (HInf.out _).mono ?_; rintro e w' ⟨rfl, ⟨nd2, rfl⟩⟩) | (go_at_call 30; refine (HExp.out _).mono ?_; rintro e w' ⟨rfl, ⟨nd3, rfl⟩⟩) | (go_at_call 24; refine (HPow.out (World.drewN w _) rfl).mono ?_; rintro e w' ⟨rfl, ⟨nd4, rfl⟩⟩) | (go_at_call 29; refine (HLen.out _).mono ?_; rintro e w' ⟨rfl, ⟨nd5, rfl⟩⟩))
  rw [mmx]
  go_cut [6] from 60 to 62 (fun v6 wc => Aside0 (∃ m, wc = w.drewN m))
  case first =>
    go_wp2_with (fail)
    go_meet
    case rel => exact ⟨_, rfl⟩
  case rest =>
    have HX := hcut
    obtain ⟨m, rfl⟩ := HX.out
    obtain ⟨hr, hl, htk, hmx, hb, hbs, hln⟩ := HArg.out
    refine use_k (by assumption) ?_
    exact part11 _ (hr.drewN m) hl htk hmx hb hbs (pw_below_drewN (Below.refl _ _) m) hln HB2.out HBd.out.2.2.2 ⟨HSt.out.1, HSt.out.2.2⟩ rfl HSt.out.2.1
set_option maxHeartbeats 4000000 in
set_option maxRecDepth 100000 in
theorem float_neg (w : World) (g : Nat) (full l : List Int) (base p f fa pwv gg m0 : Nat) (t P : Int) (hr : Row 5 w g full) (hl : l.length ≤ full.length) (htk : full.take l.length = l) (hmx : full.length ≤ maxLen) (hb : base ≤ g) (hbs : base ≤ w.heap.size) (hln : l.length ≤ 100000000000)
    (hp : p ≤ 8) (hP : wrap64 ((p : Int) - t) = P) (hP2 : -60 ≤ P ∧ P ≤ 60) (hm0 : 0 < m0 ∧ m0 < 9000000000000000000)
    (hnan : ∀ W : World, Calls Tryd.prog 28 #[.float .f64 f] W fun e w' => e = .returned (.bool false) ∧ Drawn0 W w')
    (hinf : ∀ W : World, Calls Tryd.prog 25 #[.float .f64 f, .int .i64 0] W fun e w' => e = .returned (.bool false) ∧ Drawn0 W w')
    (ho : FloatKind.f64.format.order f 0 = some .lt) (hfa : fa = Op.negFloat .f64 f)
    (hexp : ∀ W : World, Calls Tryd.prog 30 #[.float .f64 fa] W fun e w' => e = .returned (.int .i64 t) ∧ Drawn0 W w')
    (hpow : ∀ W : World, W.heap = w.heap → Calls Tryd.prog 24 #[.int .i64 P] W fun e w' => e = .returned (.float .f64 pwv) ∧ Drawn0 W w')
    (e1 : FloatKind.f64.format.mul fa pwv = some gg)
    (hcv : ∀ W : World, (convert 25 2 (.float .f64 gg)).run Tryd.prog W = .ok (.int .i64 (m0 : Int)) W) :
    Calls Tryd.prog 22 #[.slice (some ⟨g, 0, none⟩) l.length full.length, .float .f64 f, .int .i64 p] w fun e w' =>
      ∃ (v' : Value) (M E : List Int), e = .returned v' ∧ MantOK M ∧ ExpOK E ∧ Bs 5 w' base v' (l ++ sgn true ++ M ++ E) ∧ Below base w w' := by
  have hneg : ∀ W : World, (Op.unary .neg (.float .f64 f)).run Tryd.prog W = .ok (.float .f64 fa) W := fun W => by rw [hfa]; rfl
  clear hfa
  have HNan := Aside0.mk hnan
  have HInf := Aside0.mk hinf
  have HPow := Aside0.mk hpow
  have HExp := Aside0.mk hexp
  obtain ⟨L, hL⟩ : ∃ L : Nat, L = (Dig.digs m0).length := ⟨_, rfl⟩
  have HLen := Aside0.mk (fun W : World => show Calls Tryd.prog 29 #[.int .i64 (m0 : Int)] W (fun e w' => e = .returned (.int .i64 (L : Int)) ∧ Drawn0 W w') from by rw [hL]; exact PFnNumberDecimalNear.tdstrconv_LenInt.calls _ _ W (lenInt_eq m0 (by omega)))
  obtain ⟨n, z, hz1, hz2, hz3⟩ := strip m0 hm0.1
  have hL25 : L ≤ 25 := by rw [hL]; exact digs_25 (by omega)
  obtain ⟨mx, hmx0⟩ : ∃ mx : Int, mx = (L : Int) - P - 1 := ⟨_, rfl⟩
  have HBd := Aside0.mk (And.intro hL25 (And.intro hP2 (And.intro hm0 hmx0)))
  have HB2 := Aside0.mk (show L ≤ 25 ∧ -60 ≤ P ∧ P ≤ 60 ∧ m0 < 9000000000000000000 from ⟨hL25, hP2.1, hP2.2, hm0.2⟩)
  have HSt := Aside0.mk (And.intro hz1 (And.intro hz2 (hL.trans hz3)))
  have HPe := Aside0.mk hP
  have hmul : ∀ W : World, (binOp .mul 25 (.float .f64 fa) (.float .f64 pwv)).run Tryd.prog W = .ok (.float .f64 gg) W := fun W => run_float_arith W .mul 25 .f64 _ _ gg e1
  have d1 := eq_false (show ¬ (p : Int) < 0 by omega)
  have d2 := eq_false (show ¬ (17 : Int) < (p : Int) by omega)
  have d3 : decide ((p : Int) < 0) = false := decide_eq_false (by omega)
  have d4 : decide ((17 : Int) < (p : Int)) = false := decide_eq_false (by omega)
  have d5 := eq_false (show ¬ 17 < p by omega)
  have HArg := Aside0.mk (And.intro hr (And.intro hl (And.intro htk (And.intro hmx (And.intro hb (And.intro hbs hln))))))
  clear e1 hr hl htk hmx hb hbs hln hp hnan hinf hexp hpow hL hL25 hmx0 hP2 hm0 hz1 hz2 hz3
  have hb0 := HBd.out
  have p1 : ¬ ((m0 : Int) = 0) := by omega
  have p2 : ¬ (m0 = 0) := by omega
  have p3 : (L : Int) - P = (L : Int) - P ∧ -9000000000000000000 ≤ (L : Int) - P ∧ (L : Int) - P ≤ 9000000000000000000 := by omega
  have p4 : (L : Int) - P - 1 = mx ∧ -9000000000000000000 ≤ mx ∧ mx ≤ 9000000000000000000 := by omega
  have t1 := eq_false p1
  have s1 : ((m0 : Int) == 0) = false := beq_eq_false_iff_ne.mpr p1
  have r1 : ((m0 : Int) != 0) = true := bne_iff_ne.mpr p1
  have t2 := eq_false p2
  have d2 : decide (m0 = 0) = false := decide_eq_false p2
  have t3 := w64 p3.1 p3.2.1 p3.2.2
  have mmx := w64 p4.1 p4.2.1 p4.2.2
  clear hb0 p1 p2 p3 p4
  go_enter Tryd.func22, Tryd.ntmps22
  go_upto_if 59 with (first | (go_at_call 28; refine (HNan.out _).mono ?_; rintro e w' ⟨rfl, ⟨nd, rfl⟩⟩) | (go_at_call 25; refine (HInf.out _).mono ?_; rintro e w' ⟨rfl, ⟨nd2, rfl⟩⟩) | (go_at_call 30; refine (HExp.out _).mono ?_; rintro e w' ⟨rfl, ⟨nd3, rfl⟩⟩) | (go_at_call 24; refine (HPow.out (World.drewN w _) rfl).mono ?_; rintro e w' ⟨rfl, ⟨nd4, rfl⟩⟩) | (go_at_call 29; refine (HLen.out _).mono ?_; rintro e w' ⟨rfl, ⟨nd5, rfl⟩⟩))
  rw [mmx]
  go_cut [6] from 60 to 62 (fun v6 wc => Aside0 (∃ m, wc = w.drewN m))
  case first =>
    go_wp2_with (fail)
    go_meet
    case rel => exact ⟨_, rfl⟩
  case rest =>
    have HX := hcut
    obtain ⟨m, rfl⟩ := HX.out
    obtain ⟨hr, hl, htk, hmx, hb, hbs, hln⟩ := HArg.out
    refine use_k (by assumption) ?_
    exact part11 _ (hr.drewN m) hl htk hmx hb hbs (pw_below_drewN (Below.refl _ _) m) hln HB2.out HBd.out.2.2.2 ⟨HSt.out.1, HSt.out.2.2⟩ rfl HSt.out.2.1
end Go.Proofs.YtmpgbakkpbmpiaaDoor.AF
