/-
  DERIVED. GIVEN WITH THE SEED: THE CARDS: each row of YtmhlmkefnmdbcaaDoorRows.lean that lists a variable, with what it lists TIED to the program's text (the seventh form; the later family's looks); each row that meets fmt, with fmt's text TOLD by the authors' own Lean function (tested against real Go, not proved from fmt's source: count such statements apart). THE CARD IS WHAT COUNTS. Prove the row's statement (the work); the ties are given (YtmhlmkefnmdbcaaDoorTie.lean); close each card by the builder's one call (the guide's Derived/Test/ToyasCard.lean, 'card_holds'). Laid BY PROGRAM, IN A SANDBOX (cutbox-door.mjs). By AI agents, Wed Nov 11 2026. No macro, syntax, notation, axiom, sorry.
-/
import Derived.Test.YtmhlmkefnmdbcaaDoorRows
import GoSem.ClaimSeven
namespace Go.Proofs.YtmhlmkefnmdbcaaDoor
namespace Rows

/-- THE TIED CARD OF 'laws.FnCRANParse'. -/
def fnCRANParseCard : Claim7 := { stood := { row := fnCRANParseRow, standIns := [], harness := (true, "fcea0f5044bac0be2dfb62ece4f298ca7df24bb271c9bd98a25ec07b0e8ce183"), looks := true }, kinds := [], alts := [], laidByText := true, laidKinds := [.sentinel, .sentinel, .sentinel, .sentinel], laidTests := true, laidLooks := .later }
def FnCRANParseCardSaid : Prop := Claim7.holds Tryd.pinned (.plain (OpenSpec.ofChange fnCRANParseSpec)) fnCRANParseCard

/-- THE TIED CARD OF 'laws.FnCRANSorted'. -/
def fnCRANSortedCard : Claim7 := { stood := { row := fnCRANSortedRow, standIns := [], harness := (true, "fcea0f5044bac0be2dfb62ece4f298ca7df24bb271c9bd98a25ec07b0e8ce183"), looks := true }, kinds := [], alts := [], laidByText := true, laidKinds := [.sentinel, .sentinel, .sentinel, .sentinel, .sentinel], laidTests := true, laidLooks := .later }
def FnCRANSortedCardSaid : Prop := Claim7.holds Tryd.pinned (.plain (OpenSpec.ofChange fnCRANSortedSpec)) fnCRANSortedCard

/-- THE TIED CARD OF 'laws.FnCRANLonger'. -/
def fnCRANLongerCard : Claim7 := { stood := { row := fnCRANLongerRow, standIns := [], harness := (true, "fcea0f5044bac0be2dfb62ece4f298ca7df24bb271c9bd98a25ec07b0e8ce183"), looks := true }, kinds := [], alts := [], laidByText := true, laidKinds := [.sentinel, .sentinel, .sentinel, .sentinel, .sentinel], laidTests := true, laidLooks := .later }
def FnCRANLongerCardSaid : Prop := Claim7.holds Tryd.pinned (.plain (OpenSpec.ofChange fnCRANLongerSpec)) fnCRANLongerCard

/-- THE TIED CARD OF 'laws.FnCRANOrder'. -/
def fnCRANOrderCard : Claim7 := { stood := { row := fnCRANOrderRow, standIns := [], harness := (true, "fcea0f5044bac0be2dfb62ece4f298ca7df24bb271c9bd98a25ec07b0e8ce183"), looks := true }, kinds := [], alts := [], laidByText := true, laidKinds := [.sentinel, .sentinel, .sentinel, .sentinel, .sentinel], laidTests := true, laidLooks := .later }
def FnCRANOrderCardSaid : Prop := Claim7.holds Tryd.pinned (.plain (OpenSpec.ofChange fnCRANOrderSpec)) fnCRANOrderCard

/-- THE TIED CARD OF 'laws.FnGemSorted'. -/
def fnGemSortedCard : Claim7 := { stood := { row := fnGemSortedRow, standIns := [], harness := (true, "fcea0f5044bac0be2dfb62ece4f298ca7df24bb271c9bd98a25ec07b0e8ce183"), looks := true }, kinds := [], alts := [], laidByText := true, laidKinds := [.sentinel, .sentinel, .sentinel, .sentinel, .sentinel], laidTests := true, laidLooks := .later }
def FnGemSortedCardSaid : Prop := Claim7.holds Tryd.pinned (.plain (OpenSpec.ofChange fnGemSortedSpec)) fnGemSortedCard

/-- THE TIED CARD OF 'laws.FnRubyBehind'. -/
def fnRubyBehindCard : Claim7 := { stood := { row := fnRubyBehindRow, standIns := [], harness := (true, "fcea0f5044bac0be2dfb62ece4f298ca7df24bb271c9bd98a25ec07b0e8ce183"), looks := true }, kinds := [], alts := [], laidByText := true, laidKinds := [.sentinel, .sentinel, .sentinel, .sentinel, .sentinel], laidTests := true, laidLooks := .later }
def FnRubyBehindCardSaid : Prop := Claim7.holds Tryd.pinned (.plain (OpenSpec.ofChange fnRubyBehindSpec)) fnRubyBehindCard

/-- THE TIED CARD OF 'laws.FnRuby'. -/
def fnRubyCard : Claim7 := { stood := { row := fnRubyRow, standIns := [], harness := (true, "fcea0f5044bac0be2dfb62ece4f298ca7df24bb271c9bd98a25ec07b0e8ce183"), looks := true }, kinds := [], alts := [], laidByText := true, laidKinds := [.sentinel, .sentinel, .sentinel, .sentinel, .sentinel], laidTests := true, laidLooks := .later }
def FnRubyCardSaid : Prop := Claim7.holds Tryd.pinned (.plain (OpenSpec.ofChange fnRubySpec)) fnRubyCard

/-- THE TIED CARD OF 'laws.FnRubyRoads'. -/
def fnRubyRoadsCard : Claim7 := { stood := { row := fnRubyRoadsRow, standIns := [], harness := (true, "fcea0f5044bac0be2dfb62ece4f298ca7df24bb271c9bd98a25ec07b0e8ce183"), looks := true }, kinds := [], alts := [], laidByText := true, laidKinds := [.sentinel, .sentinel, .sentinel, .sentinel, .sentinel], laidTests := true, laidLooks := .later }
def FnRubyRoadsCardSaid : Prop := Claim7.holds Tryd.pinned (.plain (OpenSpec.ofChange fnRubyRoadsSpec)) fnRubyRoadsCard

/-- THE SECOND FORM's CARD OF 'laws.FnCRANParse'. -/
def fnCRANParseUptoCard : Claim7 := { stood := { row := fnCRANParseUptoRow, standIns := [], harness := (true, "fcea0f5044bac0be2dfb62ece4f298ca7df24bb271c9bd98a25ec07b0e8ce183"), looks := true }, kinds := [], alts := [], laidByText := true, laidKinds := [.sentinel, .sentinel, .sentinel, .sentinel], laidTests := true, laidLooks := .later }
def FnCRANParseUptoCardSaid : Prop := Claim7.holds Tryd.pinned (.plain (OpenSpec.upto fnCRANParseSpec)) fnCRANParseUptoCard

/-- THE SECOND FORM's CARD OF 'laws.FnCRANSorted'. -/
def fnCRANSortedUptoCard : Claim7 := { stood := { row := fnCRANSortedUptoRow, standIns := [], harness := (true, "fcea0f5044bac0be2dfb62ece4f298ca7df24bb271c9bd98a25ec07b0e8ce183"), looks := true }, kinds := [], alts := [], laidByText := true, laidKinds := [.sentinel, .sentinel, .sentinel, .sentinel, .sentinel], laidTests := true, laidLooks := .later }
def FnCRANSortedUptoCardSaid : Prop := Claim7.holds Tryd.pinned (.plain (OpenSpec.upto fnCRANSortedSpec)) fnCRANSortedUptoCard

/-- THE SECOND FORM's CARD OF 'laws.FnCRANLonger'. -/
def fnCRANLongerUptoCard : Claim7 := { stood := { row := fnCRANLongerUptoRow, standIns := [], harness := (true, "fcea0f5044bac0be2dfb62ece4f298ca7df24bb271c9bd98a25ec07b0e8ce183"), looks := true }, kinds := [], alts := [], laidByText := true, laidKinds := [.sentinel, .sentinel, .sentinel, .sentinel, .sentinel], laidTests := true, laidLooks := .later }
def FnCRANLongerUptoCardSaid : Prop := Claim7.holds Tryd.pinned (.plain (OpenSpec.upto fnCRANLongerSpec)) fnCRANLongerUptoCard

/-- THE SECOND FORM's CARD OF 'laws.FnCRANOrder'. -/
def fnCRANOrderUptoCard : Claim7 := { stood := { row := fnCRANOrderUptoRow, standIns := [], harness := (true, "fcea0f5044bac0be2dfb62ece4f298ca7df24bb271c9bd98a25ec07b0e8ce183"), looks := true }, kinds := [], alts := [], laidByText := true, laidKinds := [.sentinel, .sentinel, .sentinel, .sentinel, .sentinel], laidTests := true, laidLooks := .later }
def FnCRANOrderUptoCardSaid : Prop := Claim7.holds Tryd.pinned (.plain (OpenSpec.upto fnCRANOrderSpec)) fnCRANOrderUptoCard

/-- THE SECOND FORM's CARD OF 'laws.FnGemSorted'. -/
def fnGemSortedUptoCard : Claim7 := { stood := { row := fnGemSortedUptoRow, standIns := [], harness := (true, "fcea0f5044bac0be2dfb62ece4f298ca7df24bb271c9bd98a25ec07b0e8ce183"), looks := true }, kinds := [], alts := [], laidByText := true, laidKinds := [.sentinel, .sentinel, .sentinel, .sentinel, .sentinel], laidTests := true, laidLooks := .later }
def FnGemSortedUptoCardSaid : Prop := Claim7.holds Tryd.pinned (.plain (OpenSpec.upto fnGemSortedSpec)) fnGemSortedUptoCard

/-- THE SECOND FORM's CARD OF 'laws.FnRubyBehind'. -/
def fnRubyBehindUptoCard : Claim7 := { stood := { row := fnRubyBehindUptoRow, standIns := [], harness := (true, "fcea0f5044bac0be2dfb62ece4f298ca7df24bb271c9bd98a25ec07b0e8ce183"), looks := true }, kinds := [], alts := [], laidByText := true, laidKinds := [.sentinel, .sentinel, .sentinel, .sentinel, .sentinel], laidTests := true, laidLooks := .later }
def FnRubyBehindUptoCardSaid : Prop := Claim7.holds Tryd.pinned (.plain (OpenSpec.upto fnRubyBehindSpec)) fnRubyBehindUptoCard

/-- THE SECOND FORM's CARD OF 'laws.FnRuby'. -/
def fnRubyUptoCard : Claim7 := { stood := { row := fnRubyUptoRow, standIns := [], harness := (true, "fcea0f5044bac0be2dfb62ece4f298ca7df24bb271c9bd98a25ec07b0e8ce183"), looks := true }, kinds := [], alts := [], laidByText := true, laidKinds := [.sentinel, .sentinel, .sentinel, .sentinel, .sentinel], laidTests := true, laidLooks := .later }
def FnRubyUptoCardSaid : Prop := Claim7.holds Tryd.pinned (.plain (OpenSpec.upto fnRubySpec)) fnRubyUptoCard

/-- THE SECOND FORM's CARD OF 'laws.FnRubyRoads'. -/
def fnRubyRoadsUptoCard : Claim7 := { stood := { row := fnRubyRoadsUptoRow, standIns := [], harness := (true, "fcea0f5044bac0be2dfb62ece4f298ca7df24bb271c9bd98a25ec07b0e8ce183"), looks := true }, kinds := [], alts := [], laidByText := true, laidKinds := [.sentinel, .sentinel, .sentinel, .sentinel, .sentinel], laidTests := true, laidLooks := .later }
def FnRubyRoadsUptoCardSaid : Prop := Claim7.holds Tryd.pinned (.plain (OpenSpec.upto fnRubyRoadsSpec)) fnRubyRoadsUptoCard
end Rows
end Go.Proofs.YtmhlmkefnmdbcaaDoor
