/-
  DERIVED. GIVEN WITH THE SEED: THE CARDS: each row of YtkcciinapkeaiaaDoorRows.lean that lists a variable, with what it lists TIED to the program's text (the seventh form; the later family's looks); each row that meets fmt, with fmt's text TOLD by the authors' own Lean function (tested against real Go, not proved from fmt's source: count such statements apart). THE CARD IS WHAT COUNTS. Prove the row's statement (the work); the ties are given (YtkcciinapkeaiaaDoorTie.lean); close each card by the builder's one call (the guide's Derived/Test/ToyasCard.lean, 'card_holds'). Laid BY PROGRAM, IN A SANDBOX (cutbox-door.mjs). By AI agents, Wed Nov 11 2026. No macro, syntax, notation, axiom, sorry.
-/
import Derived.Test.YtkcciinapkeaiaaDoorRows
import GoSem.ClaimSeven
namespace Go.Proofs.YtkcciinapkeaiaaDoor
namespace Rows

/-- THE TIED CARD OF 'laws.FnDebianEpochs'. -/
def fnDebianEpochsCard : Claim7 := { stood := { row := fnDebianEpochsRow, standIns := [], harness := (true, "2440441b838c46d2b39f8fac8e7dfcc267944e5cde8ccf6bd7e0017fa4f3283e"), looks := true }, kinds := [], alts := [], laidByText := true, laidKinds := [.data, .sentinel, .listed, .data, .sentinel, .sentinel, .sentinel, .sentinel, .pinned], laidTests := true, laidLooks := .later }
def FnDebianEpochsCardSaid : Prop := Claim7.holds Tryd.pinned (.plain (OpenSpec.ofChange fnDebianEpochsSpec)) fnDebianEpochsCard

/-- THE TIED CARD OF 'laws.FnDebianOrder'. -/
def fnDebianOrderCard : Claim7 := { stood := { row := fnDebianOrderRow, standIns := [], harness := (true, "2440441b838c46d2b39f8fac8e7dfcc267944e5cde8ccf6bd7e0017fa4f3283e"), looks := true }, kinds := [], alts := [], laidByText := true, laidKinds := [.data, .sentinel, .listed, .data, .sentinel, .sentinel, .sentinel, .sentinel, .pinned], laidTests := true, laidLooks := .later }
def FnDebianOrderCardSaid : Prop := Claim7.holds Tryd.pinned (.plain (OpenSpec.ofChange fnDebianOrderSpec)) fnDebianOrderCard

/-- THE TIED CARD OF 'laws.FnDebianPartsOrder'. -/
def fnDebianPartsOrderCard : Claim7 := { stood := { row := fnDebianPartsOrderRow, standIns := [], harness := (true, "2440441b838c46d2b39f8fac8e7dfcc267944e5cde8ccf6bd7e0017fa4f3283e"), looks := true }, kinds := [], alts := [], laidByText := true, laidKinds := [.data, .sentinel, .listed, .data, .sentinel, .sentinel, .sentinel, .sentinel, .pinned], laidTests := true, laidLooks := .later }
def FnDebianPartsOrderCardSaid : Prop := Claim7.holds Tryd.pinned (.plain (OpenSpec.ofChange fnDebianPartsOrderSpec)) fnDebianPartsOrderCard

/-- THE TIED CARD OF 'laws.FnDebian'. -/
def fnDebianCard : Claim7 := { stood := { row := fnDebianRow, standIns := [], harness := (true, "2440441b838c46d2b39f8fac8e7dfcc267944e5cde8ccf6bd7e0017fa4f3283e"), looks := true }, kinds := [], alts := [], laidByText := true, laidKinds := [.data, .sentinel, .listed, .data, .sentinel, .sentinel, .sentinel, .sentinel, .pinned], laidTests := true, laidLooks := .later }
def FnDebianCardSaid : Prop := Claim7.holds Tryd.pinned (.plain (OpenSpec.ofChange fnDebianSpec)) fnDebianCard

/-- THE TIED CARD OF 'laws.FnDebianJoined'. -/
def fnDebianJoinedCard : Claim7 := { stood := { row := fnDebianJoinedRow, standIns := [], harness := (true, "2440441b838c46d2b39f8fac8e7dfcc267944e5cde8ccf6bd7e0017fa4f3283e"), looks := true }, kinds := [], alts := [], laidByText := true, laidKinds := [.data, .sentinel, .listed, .data, .sentinel, .sentinel, .sentinel, .sentinel, .pinned], laidTests := true, laidLooks := .later }
def FnDebianJoinedCardSaid : Prop := Claim7.holds Tryd.pinned (.plain (OpenSpec.ofChange fnDebianJoinedSpec)) fnDebianJoinedCard

/-- THE SECOND FORM's CARD OF 'laws.FnDebianEpochs'. -/
def fnDebianEpochsUptoCard : Claim7 := { stood := { row := fnDebianEpochsUptoRow, standIns := [], harness := (true, "2440441b838c46d2b39f8fac8e7dfcc267944e5cde8ccf6bd7e0017fa4f3283e"), looks := true }, kinds := [], alts := [], laidByText := true, laidKinds := [.data, .sentinel, .listed, .data, .sentinel, .sentinel, .sentinel, .sentinel, .pinned], laidTests := true, laidLooks := .later }
def FnDebianEpochsUptoCardSaid : Prop := Claim7.holds Tryd.pinned (.plain (OpenSpec.upto fnDebianEpochsSpec)) fnDebianEpochsUptoCard

/-- THE SECOND FORM's CARD OF 'laws.FnDebianOrder'. -/
def fnDebianOrderUptoCard : Claim7 := { stood := { row := fnDebianOrderUptoRow, standIns := [], harness := (true, "2440441b838c46d2b39f8fac8e7dfcc267944e5cde8ccf6bd7e0017fa4f3283e"), looks := true }, kinds := [], alts := [], laidByText := true, laidKinds := [.data, .sentinel, .listed, .data, .sentinel, .sentinel, .sentinel, .sentinel, .pinned], laidTests := true, laidLooks := .later }
def FnDebianOrderUptoCardSaid : Prop := Claim7.holds Tryd.pinned (.plain (OpenSpec.upto fnDebianOrderSpec)) fnDebianOrderUptoCard

/-- THE SECOND FORM's CARD OF 'laws.FnDebianPartsOrder'. -/
def fnDebianPartsOrderUptoCard : Claim7 := { stood := { row := fnDebianPartsOrderUptoRow, standIns := [], harness := (true, "2440441b838c46d2b39f8fac8e7dfcc267944e5cde8ccf6bd7e0017fa4f3283e"), looks := true }, kinds := [], alts := [], laidByText := true, laidKinds := [.data, .sentinel, .listed, .data, .sentinel, .sentinel, .sentinel, .sentinel, .pinned], laidTests := true, laidLooks := .later }
def FnDebianPartsOrderUptoCardSaid : Prop := Claim7.holds Tryd.pinned (.plain (OpenSpec.upto fnDebianPartsOrderSpec)) fnDebianPartsOrderUptoCard

/-- THE SECOND FORM's CARD OF 'laws.FnDebian'. -/
def fnDebianUptoCard : Claim7 := { stood := { row := fnDebianUptoRow, standIns := [], harness := (true, "2440441b838c46d2b39f8fac8e7dfcc267944e5cde8ccf6bd7e0017fa4f3283e"), looks := true }, kinds := [], alts := [], laidByText := true, laidKinds := [.data, .sentinel, .listed, .data, .sentinel, .sentinel, .sentinel, .sentinel, .pinned], laidTests := true, laidLooks := .later }
def FnDebianUptoCardSaid : Prop := Claim7.holds Tryd.pinned (.plain (OpenSpec.upto fnDebianSpec)) fnDebianUptoCard

/-- THE SECOND FORM's CARD OF 'laws.FnDebianJoined'. -/
def fnDebianJoinedUptoCard : Claim7 := { stood := { row := fnDebianJoinedUptoRow, standIns := [], harness := (true, "2440441b838c46d2b39f8fac8e7dfcc267944e5cde8ccf6bd7e0017fa4f3283e"), looks := true }, kinds := [], alts := [], laidByText := true, laidKinds := [.data, .sentinel, .listed, .data, .sentinel, .sentinel, .sentinel, .sentinel, .pinned], laidTests := true, laidLooks := .later }
def FnDebianJoinedUptoCardSaid : Prop := Claim7.holds Tryd.pinned (.plain (OpenSpec.upto fnDebianJoinedSpec)) fnDebianJoinedUptoCard
end Rows
end Go.Proofs.YtkcciinapkeaiaaDoor
