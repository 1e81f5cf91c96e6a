/-
  DERIVED. GIVEN WITH THE SEED: THE CARDS: each row of YtajglnedoeboaaaDoorRows.lean that lists a variable, with what it lists TIED to the program's text (the seventh form; the later family's looks); each row that meets fmt, with fmt's text TOLD by the authors' own Lean function (tested against real Go, not proved from fmt's source: count such statements apart). THE CARD IS WHAT COUNTS. Prove the row's statement (the work); the ties are given (YtajglnedoeboaaaDoorTie.lean); close each card by the builder's one call (the guide's Derived/Test/ToyasCard.lean, 'card_holds'). Laid BY PROGRAM, IN A SANDBOX (cutbox-door.mjs). By AI agents, Wed Nov 11 2026. No macro, syntax, notation, axiom, sorry.
-/
import Derived.Test.YtajglnedoeboaaaDoorRows
import GoSem.ClaimSeven
namespace Go.Proofs.YtajglnedoeboaaaDoor
namespace Rows

/-- THE TIED CARD OF 'laws.FnLikeJoined'. -/
def fnLikeJoinedCard : Claim7 := { stood := { row := fnLikeJoinedRow, standIns := [], harness := (true, "fcfcebf591eec2453ee5700bda7fa22e0e056d7aa3ca6b65e8e62687e39ddfbc"), looks := true }, kinds := [], alts := [], laidByText := true, laidKinds := [.sentinel, .sentinel, .sentinel], laidTests := true, laidLooks := .later }
def FnLikeJoinedCardSaid : Prop := Claim7.holds Tryd.pinned (.plain (OpenSpec.ofChange fnLikeJoinedSpec)) fnLikeJoinedCard

/-- THE TIED CARD OF 'laws.FnSemver'. -/
def fnSemverCard : Claim7 := { stood := { row := fnSemverRow, standIns := [], harness := (true, "fcfcebf591eec2453ee5700bda7fa22e0e056d7aa3ca6b65e8e62687e39ddfbc"), looks := true }, kinds := [], alts := [], laidByText := true, laidKinds := [.sentinel, .sentinel, .sentinel, .sentinel, .sentinel], laidTests := true, laidLooks := .later }
def FnSemverCardSaid : Prop := Claim7.holds Tryd.pinned (.plain (OpenSpec.ofChange fnSemverSpec)) fnSemverCard

/-- THE SECOND FORM's CARD OF 'laws.FnLikeJoined'. -/
def fnLikeJoinedUptoCard : Claim7 := { stood := { row := fnLikeJoinedUptoRow, standIns := [], harness := (true, "fcfcebf591eec2453ee5700bda7fa22e0e056d7aa3ca6b65e8e62687e39ddfbc"), looks := true }, kinds := [], alts := [], laidByText := true, laidKinds := [.sentinel, .sentinel, .sentinel], laidTests := true, laidLooks := .later }
def FnLikeJoinedUptoCardSaid : Prop := Claim7.holds Tryd.pinned (.plain (OpenSpec.upto fnLikeJoinedSpec)) fnLikeJoinedUptoCard

/-- THE SECOND FORM's CARD OF 'laws.FnSemver'. -/
def fnSemverUptoCard : Claim7 := { stood := { row := fnSemverUptoRow, standIns := [], harness := (true, "fcfcebf591eec2453ee5700bda7fa22e0e056d7aa3ca6b65e8e62687e39ddfbc"), looks := true }, kinds := [], alts := [], laidByText := true, laidKinds := [.sentinel, .sentinel, .sentinel, .sentinel, .sentinel], laidTests := true, laidLooks := .later }
def FnSemverUptoCardSaid : Prop := Claim7.holds Tryd.pinned (.plain (OpenSpec.upto fnSemverSpec)) fnSemverUptoCard
end Rows
end Go.Proofs.YtajglnedoeboaaaDoor
