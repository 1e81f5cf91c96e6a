/-
  DERIVED. GIVEN WITH THE SEED: THE CARDS: each row of YtciojhhncfnagaaDoorRows.lean that lists a variable, with what it lists TIED to the program's text (the seventh form; the later family's looks); each row that meets fmt, with fmt's text TOLD by the authors' own Lean function (tested against real Go, not proved from fmt's source: count such statements apart). THE CARD IS WHAT COUNTS. Prove the row's statement (the work); the ties are given (YtciojhhncfnagaaDoorTie.lean); close each card by the builder's one call (the guide's Derived/Test/ToyasCard.lean, 'card_holds'). Laid BY PROGRAM, IN A SANDBOX (cutbox-door.mjs). By AI agents, Wed Nov 11 2026. No macro, syntax, notation, axiom, sorry.
-/
import Derived.Test.YtciojhhncfnagaaDoorRows
import GoSem.ClaimSeven
namespace Go.Proofs.YtciojhhncfnagaaDoor
namespace Rows

/-- THE TIED CARD OF 'laws.FnRedHatEpochs'. -/
def fnRedHatEpochsCard : Claim7 := { stood := { row := fnRedHatEpochsRow, standIns := [], harness := (true, "338580cac1c505c51310e0b646a907d28ece51b3c47f7e9b072d9231994f6b7d"), looks := true }, kinds := [], alts := [], laidByText := true, laidKinds := [.sentinel], laidTests := true, laidLooks := .later }
def FnRedHatEpochsCardSaid : Prop := Claim7.holds Tryd.pinned (.plain (OpenSpec.ofChange fnRedHatEpochsSpec)) fnRedHatEpochsCard

/-- THE TIED CARD OF 'laws.FnRedHatOrder'. -/
def fnRedHatOrderCard : Claim7 := { stood := { row := fnRedHatOrderRow, standIns := [], harness := (true, "338580cac1c505c51310e0b646a907d28ece51b3c47f7e9b072d9231994f6b7d"), looks := true }, kinds := [], alts := [], laidByText := true, laidKinds := [.sentinel], laidTests := true, laidLooks := .later }
def FnRedHatOrderCardSaid : Prop := Claim7.holds Tryd.pinned (.plain (OpenSpec.ofChange fnRedHatOrderSpec)) fnRedHatOrderCard

/-- THE TIED CARD OF 'laws.FnRedHatMarks'. -/
def fnRedHatMarksCard : Claim7 := { stood := { row := fnRedHatMarksRow, standIns := [], harness := (true, "338580cac1c505c51310e0b646a907d28ece51b3c47f7e9b072d9231994f6b7d"), looks := true }, kinds := [], alts := [], laidByText := true, laidKinds := [.sentinel], laidTests := true, laidLooks := .later }
def FnRedHatMarksCardSaid : Prop := Claim7.holds Tryd.pinned (.plain (OpenSpec.ofChange fnRedHatMarksSpec)) fnRedHatMarksCard

/-- THE TIED CARD OF 'laws.FnRedHatZeros'. -/
def fnRedHatZerosCard : Claim7 := { stood := { row := fnRedHatZerosRow, standIns := [], harness := (true, "338580cac1c505c51310e0b646a907d28ece51b3c47f7e9b072d9231994f6b7d"), looks := true }, kinds := [], alts := [], laidByText := true, laidKinds := [.sentinel], laidTests := true, laidLooks := .later }
def FnRedHatZerosCardSaid : Prop := Claim7.holds Tryd.pinned (.plain (OpenSpec.ofChange fnRedHatZerosSpec)) fnRedHatZerosCard

/-- THE TIED CARD OF 'laws.FnRedHat'. -/
def fnRedHatCard : Claim7 := { stood := { row := fnRedHatRow, standIns := [], harness := (true, "338580cac1c505c51310e0b646a907d28ece51b3c47f7e9b072d9231994f6b7d"), looks := true }, kinds := [], alts := [], laidByText := true, laidKinds := [.sentinel], laidTests := true, laidLooks := .later }
def FnRedHatCardSaid : Prop := Claim7.holds Tryd.pinned (.plain (OpenSpec.ofChange fnRedHatSpec)) fnRedHatCard

/-- THE SECOND FORM's CARD OF 'laws.FnRedHatEpochs'. -/
def fnRedHatEpochsUptoCard : Claim7 := { stood := { row := fnRedHatEpochsUptoRow, standIns := [], harness := (true, "338580cac1c505c51310e0b646a907d28ece51b3c47f7e9b072d9231994f6b7d"), looks := true }, kinds := [], alts := [], laidByText := true, laidKinds := [.sentinel], laidTests := true, laidLooks := .later }
def FnRedHatEpochsUptoCardSaid : Prop := Claim7.holds Tryd.pinned (.plain (OpenSpec.upto fnRedHatEpochsSpec)) fnRedHatEpochsUptoCard

/-- THE SECOND FORM's CARD OF 'laws.FnRedHatOrder'. -/
def fnRedHatOrderUptoCard : Claim7 := { stood := { row := fnRedHatOrderUptoRow, standIns := [], harness := (true, "338580cac1c505c51310e0b646a907d28ece51b3c47f7e9b072d9231994f6b7d"), looks := true }, kinds := [], alts := [], laidByText := true, laidKinds := [.sentinel], laidTests := true, laidLooks := .later }
def FnRedHatOrderUptoCardSaid : Prop := Claim7.holds Tryd.pinned (.plain (OpenSpec.upto fnRedHatOrderSpec)) fnRedHatOrderUptoCard

/-- THE SECOND FORM's CARD OF 'laws.FnRedHatMarks'. -/
def fnRedHatMarksUptoCard : Claim7 := { stood := { row := fnRedHatMarksUptoRow, standIns := [], harness := (true, "338580cac1c505c51310e0b646a907d28ece51b3c47f7e9b072d9231994f6b7d"), looks := true }, kinds := [], alts := [], laidByText := true, laidKinds := [.sentinel], laidTests := true, laidLooks := .later }
def FnRedHatMarksUptoCardSaid : Prop := Claim7.holds Tryd.pinned (.plain (OpenSpec.upto fnRedHatMarksSpec)) fnRedHatMarksUptoCard

/-- THE SECOND FORM's CARD OF 'laws.FnRedHatZeros'. -/
def fnRedHatZerosUptoCard : Claim7 := { stood := { row := fnRedHatZerosUptoRow, standIns := [], harness := (true, "338580cac1c505c51310e0b646a907d28ece51b3c47f7e9b072d9231994f6b7d"), looks := true }, kinds := [], alts := [], laidByText := true, laidKinds := [.sentinel], laidTests := true, laidLooks := .later }
def FnRedHatZerosUptoCardSaid : Prop := Claim7.holds Tryd.pinned (.plain (OpenSpec.upto fnRedHatZerosSpec)) fnRedHatZerosUptoCard

/-- THE SECOND FORM's CARD OF 'laws.FnRedHat'. -/
def fnRedHatUptoCard : Claim7 := { stood := { row := fnRedHatUptoRow, standIns := [], harness := (true, "338580cac1c505c51310e0b646a907d28ece51b3c47f7e9b072d9231994f6b7d"), looks := true }, kinds := [], alts := [], laidByText := true, laidKinds := [.sentinel], laidTests := true, laidLooks := .later }
def FnRedHatUptoCardSaid : Prop := Claim7.holds Tryd.pinned (.plain (OpenSpec.upto fnRedHatSpec)) fnRedHatUptoCard
end Rows
end Go.Proofs.YtciojhhncfnagaaDoor
