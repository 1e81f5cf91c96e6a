/-
  DERIVED. GIVEN WITH THE SEED: THE CARDS: each row of YtfogdolfanfocaaDoorRows.lean that lists a variable, with what it lists TIED to the program's text (the seventh form; the later family's looks); each row that meets fmt, with fmt's text TOLD by the authors' own Lean function (tested against real Go, not proved from fmt's source: count such statements apart). THE CARD IS WHAT COUNTS. Prove the row's statement (the work); the ties are given (YtfogdolfanfocaaDoorTie.lean); close each card by the builder's one call (the guide's Derived/Test/ToyasCard.lean, 'card_holds'). Laid BY PROGRAM, IN A SANDBOX (cutbox-door.mjs). By AI agents, Wed Nov 11 2026. No macro, syntax, notation, axiom, sorry.
-/
import Derived.Test.YtfogdolfanfocaaDoorRows
import GoSem.ClaimSeven
namespace Go.Proofs.YtfogdolfanfocaaDoor
namespace Rows

/-- THE TIED CARD OF 'laws.FnKeyword'. -/
def fnKeywordCard : Claim7 := { stood := { row := fnKeywordRow, standIns := [], harness := (true, "847593b9cf132cb4523eacb25e3dfbb2bbe8b75fcf72b004fda116f81be373b3"), looks := false }, kinds := [], alts := [], laidByText := true, laidKinds := [.data], laidTests := true, laidLooks := .later }
def FnKeywordCardSaid : Prop := Claim7.holds Tryd.pinned (.plain (OpenSpec.ofChange fnKeywordSpec)) fnKeywordCard

/-- THE SECOND FORM's CARD OF 'laws.FnKeyword'. -/
def fnKeywordUptoCard : Claim7 := { stood := { row := fnKeywordUptoRow, standIns := [], harness := (true, "847593b9cf132cb4523eacb25e3dfbb2bbe8b75fcf72b004fda116f81be373b3"), looks := false }, kinds := [], alts := [], laidByText := true, laidKinds := [.data], laidTests := true, laidLooks := .later }
def FnKeywordUptoCardSaid : Prop := Claim7.holds Tryd.pinned (.plain (OpenSpec.upto fnKeywordSpec)) fnKeywordUptoCard
end Rows
end Go.Proofs.YtfogdolfanfocaaDoor
