/-
  DERIVED. GIVEN WITH THE SEED: THE CARDS: each row of YtmpgbakkpbmpiaaDoorRows.lean that lists a variable, with what it lists TIED to the program's text (the seventh form; the later family's looks); each row that meets fmt, with fmt's text TOLD by the authors' own Lean function (tested against real Go, not proved from fmt's source: count such statements apart). THE CARD IS WHAT COUNTS. Prove the row's statement (the work); the ties are given (YtmpgbakkpbmpiaaDoorTie.lean); close each card by the builder's one call (the guide's Derived/Test/ToyasCard.lean, 'card_holds'). Laid BY PROGRAM, IN A SANDBOX (cutbox-door.mjs). By AI agents, Wed Nov 11 2026. No macro, syntax, notation, axiom, sorry.
-/
import Derived.Test.YtmpgbakkpbmpiaaDoorRows
import GoSem.ClaimSeven
namespace Go.Proofs.YtmpgbakkpbmpiaaDoor
namespace Rows

/-- THE TIED CARD OF 'laws.FnNumberFloatLength'. -/
def fnNumberFloatLengthCard : Claim7 := { stood := { row := fnNumberFloatLengthRow, standIns := [], harness := (true, "45ad6b461c849800e29fcdf0543220b9c74ad2d51f5d1754778b88b2845d5c8c"), looks := false }, kinds := [], alts := [], laidByText := true, laidKinds := [.data, .data, .data, .data], laidTests := true, laidLooks := .later }
def FnNumberFloatLengthCardSaid : Prop := Claim7.holds Tryd.pinned (.plain (OpenSpec.ofChange fnNumberFloatLengthSpec)) fnNumberFloatLengthCard

/-- THE TIED CARD OF 'laws.FnNumberDecimalNear'. -/
def fnNumberDecimalNearCard : Claim7 := { stood := { row := fnNumberDecimalNearRow, standIns := [], harness := (true, "45ad6b461c849800e29fcdf0543220b9c74ad2d51f5d1754778b88b2845d5c8c"), looks := false }, kinds := [], alts := [], laidByText := true, laidKinds := [.data, .data, .data, .data, .data], laidTests := true, laidLooks := .later }
def FnNumberDecimalNearCardSaid : Prop := Claim7.holds Tryd.pinned (.plain (OpenSpec.ofChange fnNumberDecimalNearSpec)) fnNumberDecimalNearCard

/-- THE TIED CARD OF 'laws.FnNumberFloatText'. -/
def fnNumberFloatTextCard : Claim7 := { stood := { row := fnNumberFloatTextRow, standIns := [], harness := (true, "45ad6b461c849800e29fcdf0543220b9c74ad2d51f5d1754778b88b2845d5c8c"), looks := false }, kinds := [], alts := [], laidByText := true, laidKinds := [.data, .data, .data, .data], laidTests := true, laidLooks := .later }
def FnNumberFloatTextCardSaid : Prop := Claim7.holds Tryd.pinned (.plain (OpenSpec.ofChange fnNumberFloatTextSpec)) fnNumberFloatTextCard

/-- THE SECOND FORM's CARD OF 'laws.FnNumberFloatLength'. -/
def fnNumberFloatLengthUptoCard : Claim7 := { stood := { row := fnNumberFloatLengthUptoRow, standIns := [], harness := (true, "45ad6b461c849800e29fcdf0543220b9c74ad2d51f5d1754778b88b2845d5c8c"), looks := false }, kinds := [], alts := [], laidByText := true, laidKinds := [.data, .data, .data, .data], laidTests := true, laidLooks := .later }
def FnNumberFloatLengthUptoCardSaid : Prop := Claim7.holds Tryd.pinned (.plain (OpenSpec.upto fnNumberFloatLengthSpec)) fnNumberFloatLengthUptoCard

/-- THE SECOND FORM's CARD OF 'laws.FnNumberDecimalNear'. -/
def fnNumberDecimalNearUptoCard : Claim7 := { stood := { row := fnNumberDecimalNearUptoRow, standIns := [], harness := (true, "45ad6b461c849800e29fcdf0543220b9c74ad2d51f5d1754778b88b2845d5c8c"), looks := false }, kinds := [], alts := [], laidByText := true, laidKinds := [.data, .data, .data, .data, .data], laidTests := true, laidLooks := .later }
def FnNumberDecimalNearUptoCardSaid : Prop := Claim7.holds Tryd.pinned (.plain (OpenSpec.upto fnNumberDecimalNearSpec)) fnNumberDecimalNearUptoCard

/-- THE SECOND FORM's CARD OF 'laws.FnNumberFloatText'. -/
def fnNumberFloatTextUptoCard : Claim7 := { stood := { row := fnNumberFloatTextUptoRow, standIns := [], harness := (true, "45ad6b461c849800e29fcdf0543220b9c74ad2d51f5d1754778b88b2845d5c8c"), looks := false }, kinds := [], alts := [], laidByText := true, laidKinds := [.data, .data, .data, .data], laidTests := true, laidLooks := .later }
def FnNumberFloatTextUptoCardSaid : Prop := Claim7.holds Tryd.pinned (.plain (OpenSpec.upto fnNumberFloatTextSpec)) fnNumberFloatTextUptoCard
end Rows
end Go.Proofs.YtmpgbakkpbmpiaaDoor
