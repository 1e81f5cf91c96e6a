/-
  DERIVED. GIVEN WITH THE SEED: THE CARDS: each row of YtifneobfjadnkaaDoorRows.lean that lists a variable, with what it lists TIED to the program's text (the seventh form; the later family's looks); each row that meets fmt, with fmt's text TOLD by the authors' own Lean function (tested against real Go, not proved from fmt's source: count such statements apart). THE CARD IS WHAT COUNTS. Prove the row's statement (the work); the ties are given (YtifneobfjadnkaaDoorTie.lean); close each card by the builder's one call (the guide's Derived/Test/ToyasCard.lean, 'card_holds'). Laid BY PROGRAM, IN A SANDBOX (cutbox-door.mjs). By AI agents, Wed Nov 11 2026. No macro, syntax, notation, axiom, sorry.
-/
import Derived.Test.YtifneobfjadnkaaDoorRows
import GoSem.ClaimSeven
namespace Go.Proofs.YtifneobfjadnkaaDoor
namespace Rows

/-- THE TIED CARD OF 'laws.FnPackagist'. -/
def fnPackagistCard : Claim7 := { stood := { row := fnPackagistRow, standIns := [], harness := (true, "c484131029a2fb8a59fb08a14c570c522fe2f71241068f9336f1e56ecc8c0563"), looks := true }, kinds := [], alts := [], laidByText := true, laidKinds := [.data, .data, .data, .sentinel, .sentinel, .sentinel, .sentinel, .sentinel, .sentinel], laidTests := true, laidLooks := .later }
def FnPackagistCardSaid : Prop := Claim7.holds Tryd.pinned (.plain (OpenSpec.ofChange fnPackagistSpec)) fnPackagistCard

/-- THE SECOND FORM's CARD OF 'laws.FnPackagist'. -/
def fnPackagistUptoCard : Claim7 := { stood := { row := fnPackagistUptoRow, standIns := [], harness := (true, "c484131029a2fb8a59fb08a14c570c522fe2f71241068f9336f1e56ecc8c0563"), looks := true }, kinds := [], alts := [], laidByText := true, laidKinds := [.data, .data, .data, .sentinel, .sentinel, .sentinel, .sentinel, .sentinel, .sentinel], laidTests := true, laidLooks := .later }
def FnPackagistUptoCardSaid : Prop := Claim7.holds Tryd.pinned (.plain (OpenSpec.upto fnPackagistSpec)) fnPackagistUptoCard
end Rows
end Go.Proofs.YtifneobfjadnkaaDoor
