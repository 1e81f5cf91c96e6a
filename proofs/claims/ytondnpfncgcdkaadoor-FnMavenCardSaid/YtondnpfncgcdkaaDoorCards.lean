/-
  DERIVED. GIVEN WITH THE SEED: THE CARDS: each row of YtondnpfncgcdkaaDoorRows.lean that lists a variable, with what it lists TIED to the program's text (the seventh form; the later family's looks); each row that meets fmt, with fmt's text TOLD by the authors' own Lean function (tested against real Go, not proved from fmt's source: count such statements apart). THE CARD IS WHAT COUNTS. Prove the row's statement (the work); the ties are given (YtondnpfncgcdkaaDoorTie.lean); close each card by the builder's one call (the guide's Derived/Test/ToyasCard.lean, 'card_holds'). Laid BY PROGRAM, IN A SANDBOX (cutbox-door.mjs). By AI agents, Wed Nov 11 2026. No macro, syntax, notation, axiom, sorry.
-/
import Derived.Test.YtondnpfncgcdkaaDoorRows
import GoSem.ClaimSeven
namespace Go.Proofs.YtondnpfncgcdkaaDoor
namespace Rows

/-- THE TIED CARD OF 'laws.FnTokenLess'. -/
def fnTokenLessCard : Claim7 := { stood := { row := fnTokenLessRow, standIns := [], harness := (true, "1f45a34256bb87c878e34613372b999a31010a69c9b27cedc16c4adab5415b86"), looks := true }, kinds := [], alts := [], laidByText := true, laidKinds := [.sentinel, .sentinel, .sentinel, .sentinel, .data], laidTests := true, laidLooks := .later }
def FnTokenLessCardSaid : Prop := Claim7.holds Tryd.pinned (.plain (OpenSpec.ofChange fnTokenLessSpec)) fnTokenLessCard

/-- THE TIED CARD OF 'laws.FnMaven'. -/
def fnMavenCard : Claim7 := { stood := { row := fnMavenRow, standIns := [], harness := (true, "1f45a34256bb87c878e34613372b999a31010a69c9b27cedc16c4adab5415b86"), looks := true }, kinds := [], alts := [], laidByText := true, laidKinds := [.sentinel, .sentinel, .sentinel, .sentinel, .data], laidTests := true, laidLooks := .later }
def FnMavenCardSaid : Prop := Claim7.holds Tryd.pinned (.plain (OpenSpec.ofChange fnMavenSpec)) fnMavenCard

/-- THE TIED CARD OF 'laws.FnMavenNumbers'. -/
def fnMavenNumbersCard : Claim7 := { stood := { row := fnMavenNumbersRow, standIns := [], harness := (true, "1f45a34256bb87c878e34613372b999a31010a69c9b27cedc16c4adab5415b86"), looks := true }, kinds := [], alts := [], laidByText := true, laidKinds := [.sentinel, .sentinel, .sentinel, .sentinel, .data], laidTests := true, laidLooks := .later }
def FnMavenNumbersCardSaid : Prop := Claim7.holds Tryd.pinned (.plain (OpenSpec.ofChange fnMavenNumbersSpec)) fnMavenNumbersCard

/-- THE SECOND FORM's CARD OF 'laws.FnTokenLess'. -/
def fnTokenLessUptoCard : Claim7 := { stood := { row := fnTokenLessUptoRow, standIns := [], harness := (true, "1f45a34256bb87c878e34613372b999a31010a69c9b27cedc16c4adab5415b86"), looks := true }, kinds := [], alts := [], laidByText := true, laidKinds := [.sentinel, .sentinel, .sentinel, .sentinel, .data], laidTests := true, laidLooks := .later }
def FnTokenLessUptoCardSaid : Prop := Claim7.holds Tryd.pinned (.plain (OpenSpec.upto fnTokenLessSpec)) fnTokenLessUptoCard

/-- THE SECOND FORM's CARD OF 'laws.FnMaven'. -/
def fnMavenUptoCard : Claim7 := { stood := { row := fnMavenUptoRow, standIns := [], harness := (true, "1f45a34256bb87c878e34613372b999a31010a69c9b27cedc16c4adab5415b86"), looks := true }, kinds := [], alts := [], laidByText := true, laidKinds := [.sentinel, .sentinel, .sentinel, .sentinel, .data], laidTests := true, laidLooks := .later }
def FnMavenUptoCardSaid : Prop := Claim7.holds Tryd.pinned (.plain (OpenSpec.upto fnMavenSpec)) fnMavenUptoCard

/-- THE SECOND FORM's CARD OF 'laws.FnMavenNumbers'. -/
def fnMavenNumbersUptoCard : Claim7 := { stood := { row := fnMavenNumbersUptoRow, standIns := [], harness := (true, "1f45a34256bb87c878e34613372b999a31010a69c9b27cedc16c4adab5415b86"), looks := true }, kinds := [], alts := [], laidByText := true, laidKinds := [.sentinel, .sentinel, .sentinel, .sentinel, .data], laidTests := true, laidLooks := .later }
def FnMavenNumbersUptoCardSaid : Prop := Claim7.holds Tryd.pinned (.plain (OpenSpec.upto fnMavenNumbersSpec)) fnMavenNumbersUptoCard
end Rows
end Go.Proofs.YtondnpfncgcdkaaDoor
