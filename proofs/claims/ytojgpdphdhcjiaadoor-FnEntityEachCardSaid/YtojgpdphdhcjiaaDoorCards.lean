/-
  DERIVED. GIVEN WITH THE SEED: THE CARDS: each row of YtojgpdphdhcjiaaDoorRows.lean that lists a variable, with what it lists TIED to the program's text (the seventh form; the later family's looks); each row that meets fmt, with fmt's text TOLD by the authors' own Lean function (tested against real Go, not proved from fmt's source: count such statements apart). THE CARD IS WHAT COUNTS. Prove the row's statement (the work); the ties are given (YtojgpdphdhcjiaaDoorTie.lean); close each card by the builder's one call (the guide's Derived/Test/ToyasCard.lean, 'card_holds'). Laid BY PROGRAM, IN A SANDBOX (cutbox-door.mjs). By AI agents, Wed Nov 11 2026. No macro, syntax, notation, axiom, sorry.
-/
import Derived.Test.YtojgpdphdhcjiaaDoorRows
import GoSem.ClaimSeven
namespace Go.Proofs.YtojgpdphdhcjiaaDoor
namespace Rows

/-- THE TIED CARD OF 'laws.FnInput'. -/
def fnInputCard : Claim7 := { stood := { row := fnInputRow, standIns := [], harness := (true, "b2dcb28bf2b35f6486d8bec875e156fb16254f260b1d7918b2c3dc8f813fc229"), looks := true }, kinds := [], alts := [], laidByText := true, laidKinds := [.sentinel], laidTests := true, laidLooks := .later }
def FnInputCardSaid : Prop := Claim7.holds Tryd.pinned (.plain (OpenSpec.ofChange fnInputSpec)) fnInputCard

/-- THE TIED CARD OF 'laws.FnEntityEach'. -/
def fnEntityEachCard : Claim7 := { stood := { row := fnEntityEachRow, standIns := [], harness := (true, "b2dcb28bf2b35f6486d8bec875e156fb16254f260b1d7918b2c3dc8f813fc229"), looks := true }, kinds := [], alts := [], laidByText := true, laidKinds := [.data, .data, .data], laidTests := true, laidLooks := .later }
def FnEntityEachCardSaid : Prop := Claim7.holds Tryd.pinned (.plain (OpenSpec.ofChange fnEntityEachSpec)) fnEntityEachCard

/-- THE SECOND FORM's CARD OF 'laws.FnInput'. -/
def fnInputUptoCard : Claim7 := { stood := { row := fnInputUptoRow, standIns := [], harness := (true, "b2dcb28bf2b35f6486d8bec875e156fb16254f260b1d7918b2c3dc8f813fc229"), looks := true }, kinds := [], alts := [], laidByText := true, laidKinds := [.sentinel], laidTests := true, laidLooks := .later }
def FnInputUptoCardSaid : Prop := Claim7.holds Tryd.pinned (.plain (OpenSpec.upto fnInputSpec)) fnInputUptoCard

/-- THE SECOND FORM's CARD OF 'laws.FnEntityEach'. -/
def fnEntityEachUptoCard : Claim7 := { stood := { row := fnEntityEachUptoRow, standIns := [], harness := (true, "b2dcb28bf2b35f6486d8bec875e156fb16254f260b1d7918b2c3dc8f813fc229"), looks := true }, kinds := [], alts := [], laidByText := true, laidKinds := [.data, .data, .data], laidTests := true, laidLooks := .later }
def FnEntityEachUptoCardSaid : Prop := Claim7.holds Tryd.pinned (.plain (OpenSpec.upto fnEntityEachSpec)) fnEntityEachUptoCard
end Rows
end Go.Proofs.YtojgpdphdhcjiaaDoor
