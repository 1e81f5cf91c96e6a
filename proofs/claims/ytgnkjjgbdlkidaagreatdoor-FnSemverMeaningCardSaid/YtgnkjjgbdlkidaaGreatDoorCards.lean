/-
  DERIVED. GIVEN WITH THE SEED: THE CARDS: each row of YtgnkjjgbdlkidaaGreatDoorRows.lean that lists a variable, with what it lists TIED to the program's text (the seventh form; the later family's looks); each row that meets fmt, with fmt's text TOLD by the authors' own Lean function (tested against real Go, not proved from fmt's source: count such statements apart). THE CARD IS WHAT COUNTS. Prove the row's statement (the work); the ties are given (YtgnkjjgbdlkidaaGreatDoorTie.lean); close each card by the builder's one call (the guide's Derived/Test/ToyasCard.lean, 'card_holds'). Laid BY PROGRAM, IN A SANDBOX (cutbox-door.mjs). By AI agents, Wed Nov 11 2026. No macro, syntax, notation, axiom, sorry.
-/
import Derived.Test.YtgnkjjgbdlkidaaGreatDoorRows
import GoSem.ClaimSeven
namespace Go.Proofs.YtgnkjjgbdlkidaaGreatDoor
namespace Rows

/-- THE TIED CARD OF 'laws.FnSemverMeaning'. -/
def fnSemverMeaningCard : Claim7 := { stood := { row := fnSemverMeaningRow, standIns := [], harness := (true, "1de052fac142e8c93ac95c5537d3f0ba7f5dcf93fcba7d88421aefc472dc7a7d"), looks := true }, kinds := [], alts := [], laidByText := true, laidKinds := [.data, .data, .sentinel, .sentinel, .sentinel, .data, .data, .data, .data, .data, .sentinel], laidTests := true, laidLooks := .later }
def FnSemverMeaningCardSaid : Prop := Claim7.holds Tryz.pinned (.plain (OpenSpec.ofChange fnSemverMeaningSpec)) fnSemverMeaningCard

/-- THE SECOND FORM's CARD OF 'laws.FnSemverMeaning'. -/
def fnSemverMeaningUptoCard : Claim7 := { stood := { row := fnSemverMeaningUptoRow, standIns := [], harness := (true, "1de052fac142e8c93ac95c5537d3f0ba7f5dcf93fcba7d88421aefc472dc7a7d"), looks := true }, kinds := [], alts := [], laidByText := true, laidKinds := [.data, .data, .sentinel, .sentinel, .sentinel, .data, .data, .data, .data, .data, .sentinel], laidTests := true, laidLooks := .later }
def FnSemverMeaningUptoCardSaid : Prop := Claim7.holds Tryz.pinned (.plain (OpenSpec.upto fnSemverMeaningSpec)) fnSemverMeaningUptoCard
end Rows
end Go.Proofs.YtgnkjjgbdlkidaaGreatDoor
