/-
  DERIVED. GIVEN WITH THE SEED: THE CARDS: each row of YtnbokeodgendkaaDoorRows.lean that lists a variable, with what it lists TIED to the program's text (the seventh form; the later family's looks); each row that meets fmt, with fmt's text TOLD by the authors' own Lean function (tested against real Go, not proved from fmt's source: count such statements apart). THE CARD IS WHAT COUNTS. Prove the row's statement (the work); the ties are given (YtnbokeodgendkaaDoorTie.lean); close each card by the builder's one call (the guide's Derived/Test/ToyasCard.lean, 'card_holds'). Laid BY PROGRAM, IN A SANDBOX (cutbox-door.mjs). By AI agents, Wed Nov 11 2026. No macro, syntax, notation, axiom, sorry.
-/
import Derived.Test.YtnbokeodgendkaaDoorRows
import GoSem.ClaimSeven
namespace Go.Proofs.YtnbokeodgendkaaDoor
namespace Rows

/-- THE TIED CARD OF 'laws.FnNumber'. -/
def fnNumberCard : Claim7 := { stood := { row := fnNumberRow, standIns := [], harness := (true, "b4f665ffaae5c4d9ca0cf734815a6622939443d34023e0262ecbb7f68e0ddc78"), looks := true }, kinds := [], alts := [], laidByText := true, laidKinds := [.sentinel, .sentinel, .sentinel, .sentinel], laidTests := true, laidLooks := .later }
def FnNumberCardSaid : Prop := Claim7.holds Tryd.pinned (.plain (OpenSpec.ofChange fnNumberSpec)) fnNumberCard

/-- THE TIED CARD OF 'laws.FnIdentifiers'. -/
def fnIdentifiersCard : Claim7 := { stood := { row := fnIdentifiersRow, standIns := [], harness := (true, "b4f665ffaae5c4d9ca0cf734815a6622939443d34023e0262ecbb7f68e0ddc78"), looks := true }, kinds := [], alts := [], laidByText := true, laidKinds := [.sentinel, .sentinel, .sentinel, .sentinel], laidTests := true, laidLooks := .later }
def FnIdentifiersCardSaid : Prop := Claim7.holds Tryd.pinned (.plain (OpenSpec.ofChange fnIdentifiersSpec)) fnIdentifiersCard

/-- THE TIED CARD OF 'laws.FnLikeJoined'. -/
def fnLikeJoinedCard : Claim7 := { stood := { row := fnLikeJoinedRow, standIns := [], harness := (true, "b4f665ffaae5c4d9ca0cf734815a6622939443d34023e0262ecbb7f68e0ddc78"), looks := true }, kinds := [], alts := [], laidByText := true, laidKinds := [.sentinel, .sentinel, .sentinel], laidTests := true, laidLooks := .later }
def FnLikeJoinedCardSaid : Prop := Claim7.holds Tryd.pinned (.plain (OpenSpec.ofChange fnLikeJoinedSpec)) fnLikeJoinedCard

/-- THE TIED CARD OF 'laws.FnSemver'. -/
def fnSemverCard : Claim7 := { stood := { row := fnSemverRow, standIns := [], harness := (true, "b4f665ffaae5c4d9ca0cf734815a6622939443d34023e0262ecbb7f68e0ddc78"), looks := true }, kinds := [], alts := [], laidByText := true, laidKinds := [.sentinel, .sentinel, .sentinel, .sentinel, .sentinel], laidTests := true, laidLooks := .later }
def FnSemverCardSaid : Prop := Claim7.holds Tryd.pinned (.plain (OpenSpec.ofChange fnSemverSpec)) fnSemverCard

/-- THE SECOND FORM's CARD OF 'laws.FnNumber'. -/
def fnNumberUptoCard : Claim7 := { stood := { row := fnNumberUptoRow, standIns := [], harness := (true, "b4f665ffaae5c4d9ca0cf734815a6622939443d34023e0262ecbb7f68e0ddc78"), looks := true }, kinds := [], alts := [], laidByText := true, laidKinds := [.sentinel, .sentinel, .sentinel, .sentinel], laidTests := true, laidLooks := .later }
def FnNumberUptoCardSaid : Prop := Claim7.holds Tryd.pinned (.plain (OpenSpec.upto fnNumberSpec)) fnNumberUptoCard

/-- THE SECOND FORM's CARD OF 'laws.FnIdentifiers'. -/
def fnIdentifiersUptoCard : Claim7 := { stood := { row := fnIdentifiersUptoRow, standIns := [], harness := (true, "b4f665ffaae5c4d9ca0cf734815a6622939443d34023e0262ecbb7f68e0ddc78"), looks := true }, kinds := [], alts := [], laidByText := true, laidKinds := [.sentinel, .sentinel, .sentinel, .sentinel], laidTests := true, laidLooks := .later }
def FnIdentifiersUptoCardSaid : Prop := Claim7.holds Tryd.pinned (.plain (OpenSpec.upto fnIdentifiersSpec)) fnIdentifiersUptoCard

/-- THE SECOND FORM's CARD OF 'laws.FnLikeJoined'. -/
def fnLikeJoinedUptoCard : Claim7 := { stood := { row := fnLikeJoinedUptoRow, standIns := [], harness := (true, "b4f665ffaae5c4d9ca0cf734815a6622939443d34023e0262ecbb7f68e0ddc78"), looks := true }, kinds := [], alts := [], laidByText := true, laidKinds := [.sentinel, .sentinel, .sentinel], laidTests := true, laidLooks := .later }
def FnLikeJoinedUptoCardSaid : Prop := Claim7.holds Tryd.pinned (.plain (OpenSpec.upto fnLikeJoinedSpec)) fnLikeJoinedUptoCard

/-- THE SECOND FORM's CARD OF 'laws.FnSemver'. -/
def fnSemverUptoCard : Claim7 := { stood := { row := fnSemverUptoRow, standIns := [], harness := (true, "b4f665ffaae5c4d9ca0cf734815a6622939443d34023e0262ecbb7f68e0ddc78"), looks := true }, kinds := [], alts := [], laidByText := true, laidKinds := [.sentinel, .sentinel, .sentinel, .sentinel, .sentinel], laidTests := true, laidLooks := .later }
def FnSemverUptoCardSaid : Prop := Claim7.holds Tryd.pinned (.plain (OpenSpec.upto fnSemverSpec)) fnSemverUptoCard
end Rows
end Go.Proofs.YtnbokeodgendkaaDoor
