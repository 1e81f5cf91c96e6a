/-
  No cell of these rows narrows 'for every input' (looked for: loops, veiled, ifaces, maps, wideKeys, modest, calm, conditions, laid).
  DERIVED. THE GIVEN ROWS OF THIS SEAT. 4 by the template 'for every input the law returns true; each argument reads behind the call as it read before'; 0 by the template 'total and deterministic' (their statements: YtfogdolfanfocaaTotals.lean).
  GIVEN WITH THE SEED: the statements are not yours to turn. If you find one false, say at which input.
  Laid BY PROGRAM, IN A SANDBOX (cutbox-rows.mjs): the forced cells as the released guide's own fill.sh prints them over the translation bedfcce8557f4dfa… (all of the seat's roots in one cut). By AI agents, Wed Nov 11 2026. No macro, syntax, notation, axiom, sorry.
-/
import Derived.Test.YtfogdolfanfocaaChecked
import GoSem.Claim
import GoSem.ClaimJoined
import GoSem.ClaimMapViews
import Derived.JoinedTies
import Derived.KernelRfl
namespace Go.Proofs.Ytfogdolfanfocaa
/- THE CELL 'sum', in the pinned program and in every row, IS THE sha256 OF THE DUMP (.gsa) THAT YtfogdolfanfocaaProg.lean LOADS. Nothing in Lean hashes anything: it is a label: what it is worth is what the hold of that sum in a sandbox is worth. -/
noncomputable def Try.pinned : Pinned := { name := "ytfogdolfanfocaa", sum := "bedfcce8557f4dfadda727850965eb9099c831c55b2af6a8dc6ec46f7b9eef30", checked := Try.checked }
namespace Rows
def none {H : Type} : Left H := { results := [], args := [] }

/-- 'laws.FnRubyTrim': WHATEVER THE INPUT: true; the input reads as it did. -/
def fnRubyTrimSpec : ChangeSpec := { name := "fnRubyTrim", fn := fun _ => fun
  | [d] => { results := [.lit (.bool true)], args := [d] }
  | _ => none }
def fnRubyTrimRow : OpenClaim := { program := "ytfogdolfanfocaa", sum := "bedfcce8557f4dfadda727850965eb9099c831c55b2af6a8dc6ec46f7b9eef30", func := "pub-seniority/laws.FnRubyTrim", spec := "fnRubyTrim", apart := false }
def FnRubyTrimSaid : Prop := fnRubyTrimRow.holds Try.pinned (OpenSpec.ofChange fnRubyTrimSpec)

/-- ITS FALSE NEIGHBOUR: 'it returns false'. Refute it at one input. -/
def fnRubyTrimWrong : ChangeSpec := { name := "fnRubyTrim", fn := fun _ => fun
  | [d] => { results := [.lit (.bool false)], args := [d] }
  | _ => none }
def FnRubyTrimWrongFalsely : Prop := fnRubyTrimRow.holds Try.pinned (OpenSpec.ofChange fnRubyTrimWrong)

/-- 'laws.FnSplitPieces': WHATEVER THE INPUT: true; the input reads as it did. -/
def fnSplitPiecesSpec : ChangeSpec := { name := "fnSplitPieces", fn := fun _ => fun
  | [d1, d2] => { results := [.lit (.bool true)], args := [d1, d2] }
  | _ => none }
def fnSplitPiecesRow : OpenClaim := { program := "ytfogdolfanfocaa", sum := "bedfcce8557f4dfadda727850965eb9099c831c55b2af6a8dc6ec46f7b9eef30", func := "pub-seniority/laws.FnSplitPieces", spec := "fnSplitPieces", apart := false }
def FnSplitPiecesSaid : Prop := fnSplitPiecesRow.holds Try.pinned (OpenSpec.ofChange fnSplitPiecesSpec)

/-- ITS FALSE NEIGHBOUR: 'it returns false'. Refute it at one input. -/
def fnSplitPiecesWrong : ChangeSpec := { name := "fnSplitPieces", fn := fun _ => fun
  | [d1, d2] => { results := [.lit (.bool false)], args := [d1, d2] }
  | _ => none }
def FnSplitPiecesWrongFalsely : Prop := fnSplitPiecesRow.holds Try.pinned (OpenSpec.ofChange fnSplitPiecesWrong)

/-- 'laws.FnPackagistSpecial': WHATEVER THE INPUT: true; the input reads as it did. -/
def fnPackagistSpecialSpec : ChangeSpec := { name := "fnPackagistSpecial", fn := fun _ => fun
  | [d1, d2] => { results := [.lit (.bool true)], args := [d1, d2] }
  | _ => none }
def fnPackagistSpecialRow : OpenClaim := { program := "ytfogdolfanfocaa", sum := "bedfcce8557f4dfadda727850965eb9099c831c55b2af6a8dc6ec46f7b9eef30", func := "pub-seniority/laws.FnPackagistSpecial", spec := "fnPackagistSpecial", apart := false }
def FnPackagistSpecialSaid : Prop := fnPackagistSpecialRow.holds Try.pinned (OpenSpec.ofChange fnPackagistSpecialSpec)

/-- ITS FALSE NEIGHBOUR: 'it returns false'. Refute it at one input. -/
def fnPackagistSpecialWrong : ChangeSpec := { name := "fnPackagistSpecial", fn := fun _ => fun
  | [d1, d2] => { results := [.lit (.bool false)], args := [d1, d2] }
  | _ => none }
def FnPackagistSpecialWrongFalsely : Prop := fnPackagistSpecialRow.holds Try.pinned (OpenSpec.ofChange fnPackagistSpecialWrong)

/-- 'laws.FnRubyCanonical': WHATEVER THE INPUT: true; the input reads as it did. -/
def fnRubyCanonicalSpec : ChangeSpec := { name := "fnRubyCanonical", fn := fun _ => fun
  | [d] => { results := [.lit (.bool true)], args := [d] }
  | _ => none }
def fnRubyCanonicalRow : OpenClaim := { program := "ytfogdolfanfocaa", sum := "bedfcce8557f4dfadda727850965eb9099c831c55b2af6a8dc6ec46f7b9eef30", func := "pub-seniority/laws.FnRubyCanonical", spec := "fnRubyCanonical", inPlace := ["internal/abi.NoEscape"], unfollowed := true, recurses := true, apart := false }
def FnRubyCanonicalSaid : Prop := fnRubyCanonicalRow.holds Try.pinned (OpenSpec.ofChange fnRubyCanonicalSpec)

/-- ITS FALSE NEIGHBOUR: 'it returns false'. Refute it at one input. -/
def fnRubyCanonicalWrong : ChangeSpec := { name := "fnRubyCanonical", fn := fun _ => fun
  | [d] => { results := [.lit (.bool false)], args := [d] }
  | _ => none }
def FnRubyCanonicalWrongFalsely : Prop := fnRubyCanonicalRow.holds Try.pinned (OpenSpec.ofChange fnRubyCanonicalWrong)

/- THE SECOND FORM. 'bulk': how many values and letters a reading holds, each counted each time it is reached (what is shared counts as often as it is met; a slice's spare places count too). A statement '..UptoSaid' is the law's where the arguments, and the package variables that the reading takes, are together of bulk at most 1048576: NARROWER than '..Said'. Prove '..Said' where nothing that the law and all that it calls make is longer than what came in: it says more and counts as full. Else prove '..UptoSaid'. A law counts once. -/
mutual
def uptoBulk {H : Type} : DataW H → Nat
  | .lit (.string bytes) => bytes.length + 1
  | .lit _ => 1
  | .nil => 1
  | .ptr d => uptoBulk d + 1
  | .slice elems spare => uptoBulkAll elems + uptoBulkAll spare + 1
  | .agg parts => uptoBulkAll parts + 1
  | .iface _ d => uptoBulk d + 1
  | .map entries => uptoBulkEntries entries + 1
  | .held _ => 1
def uptoBulkAll {H : Type} : List (DataW H) → Nat
  | [] => 0
  | d :: r => uptoBulk d + uptoBulkAll r
def uptoBulkEntries {H : Type} : List (Lit × DataW H) → Nat
  | [] => 0
  | x :: r => uptoBulkEntry x + uptoBulkEntries r
def uptoBulkEntry {H : Type} : Lit × DataW H → Nat
  | (.string bytes, d) => bytes.length + uptoBulk d + 1
  | (_, d) => uptoBulk d + 1
 end
def uptoSmall : (H : Type) → List (DataW H) → Bool := fun _ ds => decide (uptoBulkAll ds ≤ 1048576)
def OpenSpec.upto (s : _root_.Go.ChangeSpec) : _root_.Go.OpenSpec := { _root_.Go.OpenSpec.ofChange s with cond := some uptoSmall }

/-- 'laws.FnRubyTrim', WHERE WHAT IT READS IS OF BULK AT MOST 1048576: true; the input reads as it did. -/
def fnRubyTrimUptoRow : OpenClaim := { program := "ytfogdolfanfocaa", sum := "bedfcce8557f4dfadda727850965eb9099c831c55b2af6a8dc6ec46f7b9eef30", func := "pub-seniority/laws.FnRubyTrim", spec := "fnRubyTrim", apart := false, narrowed := true }
def FnRubyTrimUptoSaid : Prop := fnRubyTrimUptoRow.holds Try.pinned (OpenSpec.upto fnRubyTrimSpec)

/-- 'laws.FnSplitPieces', WHERE WHAT IT READS IS OF BULK AT MOST 1048576: true; the input reads as it did. -/
def fnSplitPiecesUptoRow : OpenClaim := { program := "ytfogdolfanfocaa", sum := "bedfcce8557f4dfadda727850965eb9099c831c55b2af6a8dc6ec46f7b9eef30", func := "pub-seniority/laws.FnSplitPieces", spec := "fnSplitPieces", apart := false, narrowed := true }
def FnSplitPiecesUptoSaid : Prop := fnSplitPiecesUptoRow.holds Try.pinned (OpenSpec.upto fnSplitPiecesSpec)

/-- 'laws.FnPackagistSpecial', WHERE WHAT IT READS IS OF BULK AT MOST 1048576: true; the input reads as it did. -/
def fnPackagistSpecialUptoRow : OpenClaim := { program := "ytfogdolfanfocaa", sum := "bedfcce8557f4dfadda727850965eb9099c831c55b2af6a8dc6ec46f7b9eef30", func := "pub-seniority/laws.FnPackagistSpecial", spec := "fnPackagistSpecial", apart := false, narrowed := true }
def FnPackagistSpecialUptoSaid : Prop := fnPackagistSpecialUptoRow.holds Try.pinned (OpenSpec.upto fnPackagistSpecialSpec)

/-- 'laws.FnRubyCanonical', WHERE WHAT IT READS IS OF BULK AT MOST 1048576: true; the input reads as it did. -/
def fnRubyCanonicalUptoRow : OpenClaim := { program := "ytfogdolfanfocaa", sum := "bedfcce8557f4dfadda727850965eb9099c831c55b2af6a8dc6ec46f7b9eef30", func := "pub-seniority/laws.FnRubyCanonical", spec := "fnRubyCanonical", inPlace := ["internal/abi.NoEscape"], unfollowed := true, recurses := true, apart := false, narrowed := true }
def FnRubyCanonicalUptoSaid : Prop := fnRubyCanonicalUptoRow.holds Try.pinned (OpenSpec.upto fnRubyCanonicalSpec)

end Rows
end Go.Proofs.Ytfogdolfanfocaa
