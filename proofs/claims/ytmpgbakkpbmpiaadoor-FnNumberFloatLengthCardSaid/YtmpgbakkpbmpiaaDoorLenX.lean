/- FnNumberFloatLength: the walk and the plain law joined. -/
import Derived.Test.YtmpgbakkpbmpiaaDoorLenW
import Derived.Test.YtmpgbakkpbmpiaaDoorPfG
namespace Go.Proofs.YtmpgbakkpbmpiaaDoor.LenW
open Go.RowKit Go.Proofs.YtmpgbakkpbmpiaaDoorW.PrintWords Go.Proofs.YtmpgbakkpbmpiaaDoorW.PrintLast Go.Proofs.YtmpgbakkpbmpiaaDoorW.PrintMore
open NumL PFnNumberFloatLength Brow
theorem mark_le {l : List Int} {s d1 dl : Nat} (hS : Shape l s d1 dl) (hE : dl < l.length → Expo l dl) (h : dl < l.length) {m : Int} (hm : Mark l l.length m) : m ≤ dl := by
  rcases hm with ⟨-, b⟩ | ⟨j, rfl, hj, hc⟩
  · exact absurd (hS.fin h) (b dl h)
  · rcases Nat.lt_or_ge dl j with hlt | hge
    · exfalso
      obtain ⟨t, ht, htl, hd⟩ := hE h
      by_cases htj : t ≤ j
      · have := hd j htj hj
        omega
      · rcases ht with ht | ⟨ht, hs⟩
        · omega
        · obtain rfl : j = dl + 1 := by omega
          omega
    · omega
theorem law (w : World) (A : Option Addr) (c : Nat) (l : List Int) (hr : Kd.C (Kd.int .u8) w A l.length l) (hc : l.length ≤ c) (ht : Tab.Tabs w) (h0 : T0 w) :
    Calls Tryd.prog 3 #[.slice A l.length c] w fun e w' => e = .returned (.bool true) ∧ Below w.heap.size w w' := by
  by_cases hlong : l.length > 2147483647
  · exact law_long w A c l hlong
  have hl : l.length ≤ 2147483647 := by omega
  refine law_main w A c l hr hc hl ht h0 ?_
  intro m hm h12 h40 w2 hr2 ht2 h02 hn
  obtain ⟨n, hnl, hne, hk⟩ := hn
  obtain ⟨n', hk', -, -, hs⟩ := number_tot l hl
  have e : n = n' := Option.some.inj ((hk _ (Nat.le_refl _)).symm.trans (hk' _ (Nat.le_refl _)))
  subst e
  obtain ⟨s, d1, dl, hS, hE⟩ := hs hnl hne
  refine read_calls w2 A c l s d1 dl (fun w A c hr hc ht h0 => PFl.parse_calls w A c l s d1 dl hr hc h40 hS (fun hlt => ?_) ht h0) hr2 h40 ht2 h02
  have hmd := mark_le hS hE hlt hm
  exact expo_pint l dl (hE hlt) (by omega)
end Go.Proofs.YtmpgbakkpbmpiaaDoor.LenW
