/-
  DERIVED. GIVEN WITH THE SEED: THE CARDS: each row of YtipfmkfpaglkkaaGreatDoorRows.lean that lists a variable, with what it lists TIED to the program's text (the seventh form; the later family's looks); each row that meets fmt, with fmt's text TOLD by the authors' own Lean function (tested against real Go, not proved from fmt's source: count such statements apart). THE CARD IS WHAT COUNTS. Prove the row's statement (the work); the ties are given (YtipfmkfpaglkkaaGreatDoorTie.lean); close each card by the builder's one call (the guide's Derived/Test/ToyasCard.lean, 'card_holds'). Laid BY PROGRAM, IN A SANDBOX (cutbox-door.mjs). By AI agents, Wed Nov 11 2026. No macro, syntax, notation, axiom, sorry.
-/
import Derived.Test.YtipfmkfpaglkkaaGreatDoorRows
import GoSem.ClaimSeven
namespace Go.Proofs.YtipfmkfpaglkkaaGreatDoor
namespace Rows

/-- THE TIED CARD OF 'laws.FnPyPI'. -/
def fnPyPICard : Claim7 := { stood := { row := fnPyPIRow, standIns := [], harness := (true, "c1413fbb482de09c714e406f2bfb8a3da708e477f4c494873bd610299c7c6839"), looks := true }, kinds := [], alts := [], laidByText := true, laidKinds := [.sentinel, .sentinel, .sentinel, .sentinel], laidTests := true, laidLooks := .later }
def FnPyPICardSaid : Prop := Claim7.holds Tryz.pinned (.plain (OpenSpec.ofChange fnPyPISpec)) fnPyPICard

/-- THE TIED CARD OF 'laws.FnPyPIFilled'. -/
def fnPyPIFilledCard : Claim7 := { stood := { row := fnPyPIFilledRow, standIns := [], harness := (true, "c1413fbb482de09c714e406f2bfb8a3da708e477f4c494873bd610299c7c6839"), looks := true }, kinds := [], alts := [], laidByText := true, laidKinds := [.sentinel, .sentinel, .sentinel, .sentinel], laidTests := true, laidLooks := .later }
def FnPyPIFilledCardSaid : Prop := Claim7.holds Tryz.pinned (.plain (OpenSpec.ofChange fnPyPIFilledSpec)) fnPyPIFilledCard

/-- THE SECOND FORM's CARD OF 'laws.FnPyPI'. -/
def fnPyPIUptoCard : Claim7 := { stood := { row := fnPyPIUptoRow, standIns := [], harness := (true, "c1413fbb482de09c714e406f2bfb8a3da708e477f4c494873bd610299c7c6839"), looks := true }, kinds := [], alts := [], laidByText := true, laidKinds := [.sentinel, .sentinel, .sentinel, .sentinel], laidTests := true, laidLooks := .later }
def FnPyPIUptoCardSaid : Prop := Claim7.holds Tryz.pinned (.plain (OpenSpec.upto fnPyPISpec)) fnPyPIUptoCard

/-- THE SECOND FORM's CARD OF 'laws.FnPyPIFilled'. -/
def fnPyPIFilledUptoCard : Claim7 := { stood := { row := fnPyPIFilledUptoRow, standIns := [], harness := (true, "c1413fbb482de09c714e406f2bfb8a3da708e477f4c494873bd610299c7c6839"), looks := true }, kinds := [], alts := [], laidByText := true, laidKinds := [.sentinel, .sentinel, .sentinel, .sentinel], laidTests := true, laidLooks := .later }
def FnPyPIFilledUptoCardSaid : Prop := Claim7.holds Tryz.pinned (.plain (OpenSpec.upto fnPyPIFilledSpec)) fnPyPIFilledUptoCard
end Rows
end Go.Proofs.YtipfmkfpaglkkaaGreatDoor
