/- ParseFloat, cut into parts: the words. -/
import Derived.Test.YtmpgbakkpbmpiaaDoorPFnNumberFloatTextx0
import Derived.Test.YtmpgbakkpbmpiaaDoorPow
import Derived.Test.YtmpgbakkpbmpiaaDoorNumL
import Derived.Test.YtmpgbakkpbmpiaaDoorFlt
namespace Go.Proofs.YtmpgbakkpbmpiaaDoor.PFl
open Go.RowKit Go.Proofs.YtmpgbakkpbmpiaaDoorW.PrintWords Go.Proofs.YtmpgbakkpbmpiaaDoorW.PrintLast Go.Proofs.YtmpgbakkpbmpiaaDoorW.PrintMore
open NumL
set_option linter.unusedVariables false
set_option linter.unusedSimpArgs false

def rest : Nat → Code → Code
  | 0, c => c
  | k + 1, .seq _ b => rest k b
  | _, c => c
noncomputable def body18 : Code := (Tryd.f18.body).getD .skip
theorem drawn_tabs {w W : World} (h : Drawn0 w W) (ht : Tab.Tabs w) : Tab.Tabs W := by obtain ⟨n, rfl⟩ := h; exact ht.of_heap rfl
theorem drawn_trans {a b c : World} (h : Drawn0 a b) (h2 : Drawn0 b c) : Drawn0 a c := by
  obtain ⟨n, rfl⟩ := h
  obtain ⟨m, rfl⟩ := h2
  exact Drawn0.step (Drawn0.step (Drawn0.refl a) n) m
end Go.Proofs.YtmpgbakkpbmpiaaDoor.PFl
