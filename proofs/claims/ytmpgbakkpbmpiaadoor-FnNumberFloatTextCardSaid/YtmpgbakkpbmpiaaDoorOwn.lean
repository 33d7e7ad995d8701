/- impl.own: the bytes in new memory, the row known whole. -/
import Derived.Test.YtmpgbakkpbmpiaaDoorPFnNumberFloatLengthx0
import Derived.Test.YtmpgbakkpbmpiaaDoorBrow
namespace Go.Proofs.YtmpgbakkpbmpiaaDoor.Brow
open Go.RowKit Go.Proofs.YtmpgbakkpbmpiaaDoorW.PrintWords Go.Proofs.YtmpgbakkpbmpiaaDoorW.PrintLast Go.Proofs.YtmpgbakkpbmpiaaDoorW.PrintMore
set_option linter.unusedVariables false
set_option maxHeartbeats 400000 in
theorem own_calls (A : Option Addr) (c : Nat) (l : List Int) (w : World) (hr : Kd.C (Kd.int .u8) w A l.length l) (hl : l.length ≤ 140737488355328) :
    Calls Tryd.prog 19 #[.slice A l.length c] w fun e w' => ∃ v, e = .returned v ∧ Bs 5 w' w.heap.size v l ∧ Below w.heap.size w w' := by
  have HR := Aside0.mk hr
  have HL := Aside0.mk hl
  clear hr hl
  go_enter Tryd.func19, Tryd.ntmps19
  go_wp2_with (at_builtin; refine wpList_append _ rfl (.tmp 3) (.tmp 4) 22 5 w.heap.size rfl Tryd.underlying22 PFnNumberFloatLength.info5 (.slice (some ⟨w.heap.size, 0, none⟩) 0 0) [] rfl ?c1 A c l rfl ?c2 ?c3 ?c4 ?_; (case c1 => exact ⟨w.heap.size, [], rfl, Nat.le_refl _, heap_alloc_new w _, by simp, by simp [maxLen], rfl⟩); (case c2 => exact Kd.C_below HR.out (below_alloc (Below.refl _ _) _)); (case c3 => simpa using HL.out); (case c4 => simp); intro v' w' hv hg hat; have HV := Aside0.mk hv; have HG := Aside0.mk hg; clear hv hg hat)
  go_ret
  refine ⟨_, rfl, by simpa using HV.out, ?_⟩
  exact ((Below.refl _ _).alloc (Nat.le_refl _) _).grown HG.out (by simp) (fun k hk => by simp [Value.ownBlock] at hk; omega)
end Go.Proofs.YtmpgbakkpbmpiaaDoor.Brow
