/-
  DERIVED. GIVEN WITH THE SEED: THE CARDS: each row of YtajglnedoeboaaaGreatDoorRows.lean that lists a variable, with what it lists TIED to the program's text (the seventh form; the later family's looks); each row that meets fmt, with fmt's text TOLD by the authors' own Lean function (tested against real Go, not proved from fmt's source: count such statements apart). THE CARD IS WHAT COUNTS. Prove the row's statement (the work); the ties are given (YtajglnedoeboaaaGreatDoorTie.lean); close each card by the builder's one call (the guide's Derived/Test/ToyasCard.lean, 'card_holds'). Laid BY PROGRAM, IN A SANDBOX (cutbox-door.mjs). By AI agents, Wed Nov 11 2026. No macro, syntax, notation, axiom, sorry.
-/
import Derived.Test.YtajglnedoeboaaaGreatDoorRows
import GoSem.ClaimSeven
namespace Go.Proofs.YtajglnedoeboaaaGreatDoor
namespace Rows

/-- THE TIED CARD OF 'laws.FnPub'. -/
def fnPubCard : Claim7 := { stood := { row := fnPubRow, standIns := [], harness := (true, "821505de6ba67cfcc56c9e809f6c27a1c2d9f5b3530beba8d55ae601bcb71f5f"), looks := true }, kinds := [], alts := [], laidByText := true, laidKinds := [.sentinel, .sentinel, .sentinel, .sentinel, .sentinel], laidTests := true, laidLooks := .later }
def FnPubCardSaid : Prop := Claim7.holds Tryz.pinned (.plain (OpenSpec.ofChange fnPubSpec)) fnPubCard

/-- THE TIED CARD OF 'laws.FnSemverOrder'. -/
def fnSemverOrderCard : Claim7 := { stood := { row := fnSemverOrderRow, standIns := [], harness := (true, "821505de6ba67cfcc56c9e809f6c27a1c2d9f5b3530beba8d55ae601bcb71f5f"), looks := true }, kinds := [], alts := [], laidByText := true, laidKinds := [.data, .sentinel, .sentinel, .sentinel, .sentinel, .sentinel, .pinned, .pinned], laidTests := true, laidLooks := .later }
def FnSemverOrderCardSaid : Prop := Claim7.holds Tryz.pinned (.plain (OpenSpec.ofChange fnSemverOrderSpec)) fnSemverOrderCard

/-- THE TIED CARD OF 'laws.FnSemverRoads'. -/
def fnSemverRoadsCard : Claim7 := { stood := { row := fnSemverRoadsRow, standIns := [], harness := (true, "821505de6ba67cfcc56c9e809f6c27a1c2d9f5b3530beba8d55ae601bcb71f5f"), looks := true }, kinds := [], alts := [], laidByText := true, laidKinds := [.data, .sentinel, .sentinel, .sentinel, .sentinel, .sentinel, .pinned, .pinned], laidTests := true, laidLooks := .later }
def FnSemverRoadsCardSaid : Prop := Claim7.holds Tryz.pinned (.plain (OpenSpec.ofChange fnSemverRoadsSpec)) fnSemverRoadsCard

/-- THE SECOND FORM's CARD OF 'laws.FnPub'. -/
def fnPubUptoCard : Claim7 := { stood := { row := fnPubUptoRow, standIns := [], harness := (true, "821505de6ba67cfcc56c9e809f6c27a1c2d9f5b3530beba8d55ae601bcb71f5f"), looks := true }, kinds := [], alts := [], laidByText := true, laidKinds := [.sentinel, .sentinel, .sentinel, .sentinel, .sentinel], laidTests := true, laidLooks := .later }
def FnPubUptoCardSaid : Prop := Claim7.holds Tryz.pinned (.plain (OpenSpec.upto fnPubSpec)) fnPubUptoCard

/-- THE SECOND FORM's CARD OF 'laws.FnSemverOrder'. -/
def fnSemverOrderUptoCard : Claim7 := { stood := { row := fnSemverOrderUptoRow, standIns := [], harness := (true, "821505de6ba67cfcc56c9e809f6c27a1c2d9f5b3530beba8d55ae601bcb71f5f"), looks := true }, kinds := [], alts := [], laidByText := true, laidKinds := [.data, .sentinel, .sentinel, .sentinel, .sentinel, .sentinel, .pinned, .pinned], laidTests := true, laidLooks := .later }
def FnSemverOrderUptoCardSaid : Prop := Claim7.holds Tryz.pinned (.plain (OpenSpec.upto fnSemverOrderSpec)) fnSemverOrderUptoCard

/-- THE SECOND FORM's CARD OF 'laws.FnSemverRoads'. -/
def fnSemverRoadsUptoCard : Claim7 := { stood := { row := fnSemverRoadsUptoRow, standIns := [], harness := (true, "821505de6ba67cfcc56c9e809f6c27a1c2d9f5b3530beba8d55ae601bcb71f5f"), looks := true }, kinds := [], alts := [], laidByText := true, laidKinds := [.data, .sentinel, .sentinel, .sentinel, .sentinel, .sentinel, .pinned, .pinned], laidTests := true, laidLooks := .later }
def FnSemverRoadsUptoCardSaid : Prop := Claim7.holds Tryz.pinned (.plain (OpenSpec.upto fnSemverRoadsSpec)) fnSemverRoadsUptoCard
end Rows
end Go.Proofs.YtajglnedoeboaaaGreatDoor
