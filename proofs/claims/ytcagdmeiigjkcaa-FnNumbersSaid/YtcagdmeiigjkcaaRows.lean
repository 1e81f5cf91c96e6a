/-
  No cell of these rows narrows 'for every input' (looked for: loops, veiled, ifaces, maps, wideKeys, modest, calm, conditions, laid).
  DERIVED. THE GIVEN ROWS OF THIS SEAT. 5 by the template 'for every input the law returns true; each argument reads behind the call as it read before'; 0 by the template 'total and deterministic' (their statements: YtcagdmeiigjkcaaTotals.lean).
  GIVEN WITH THE SEED: the statements are not yours to turn. If you find one false, say at which input.
  Laid BY PROGRAM, IN A SANDBOX (cutbox-rows.mjs): the forced cells as the released guide's own fill.sh prints them over the translation 6d9bb56586a85d05… (all of the seat's roots in one cut). By AI agents, Wed Nov 11 2026. No macro, syntax, notation, axiom, sorry.
-/
import Derived.Test.YtcagdmeiigjkcaaChecked
import GoSem.Claim
import GoSem.ClaimJoined
import GoSem.ClaimMapViews
import Derived.JoinedTies
import Derived.KernelRfl
namespace Go.Proofs.Ytcagdmeiigjkcaa
/- THE CELL 'sum', in the pinned program and in every row, IS THE sha256 OF THE DUMP (.gsa) THAT YtcagdmeiigjkcaaProg.lean LOADS. Nothing in Lean hashes anything: it is a label: what it is worth is what the hold of that sum in a sandbox is worth. -/
noncomputable def Try.pinned : Pinned := { name := "ytcagdmeiigjkcaa", sum := "6d9bb56586a85d05d773970222e099fba51a282948390174fc4e181a83a0f396", checked := Try.checked }
namespace Rows
def none {H : Type} : Left H := { results := [], args := [] }

/-- 'laws.FnNumbers': WHATEVER THE INPUT: true; the input reads as it did. -/
def fnNumbersSpec : ChangeSpec := { name := "fnNumbers", fn := fun _ => fun
  | [d1, d2] => { results := [.lit (.bool true)], args := [d1, d2] }
  | _ => none }
def fnNumbersRow : OpenClaim := { program := "ytcagdmeiigjkcaa", sum := "6d9bb56586a85d05d773970222e099fba51a282948390174fc4e181a83a0f396", func := "pub-seniority/laws.FnNumbers", spec := "fnNumbers", apart := false }
def FnNumbersSaid : Prop := fnNumbersRow.holds Try.pinned (OpenSpec.ofChange fnNumbersSpec)

/-- ITS FALSE NEIGHBOUR: 'it returns false'. Refute it at one input. -/
def fnNumbersWrong : ChangeSpec := { name := "fnNumbers", fn := fun _ => fun
  | [d1, d2] => { results := [.lit (.bool false)], args := [d1, d2] }
  | _ => none }
def FnNumbersWrongFalsely : Prop := fnNumbersRow.holds Try.pinned (OpenSpec.ofChange fnNumbersWrong)

/-- 'laws.FnNumbersFilled': WHATEVER THE INPUT: true; the input reads as it did. -/
def fnNumbersFilledSpec : ChangeSpec := { name := "fnNumbersFilled", fn := fun _ => fun
  | [d1, d2, d3] => { results := [.lit (.bool true)], args := [d1, d2, d3] }
  | _ => none }
def fnNumbersFilledRow : OpenClaim := { program := "ytcagdmeiigjkcaa", sum := "6d9bb56586a85d05d773970222e099fba51a282948390174fc4e181a83a0f396", func := "pub-seniority/laws.FnNumbersFilled", spec := "fnNumbersFilled", apart := false }
def FnNumbersFilledSaid : Prop := fnNumbersFilledRow.holds Try.pinned (OpenSpec.ofChange fnNumbersFilledSpec)

/-- ITS FALSE NEIGHBOUR: 'it returns false'. Refute it at one input. -/
def fnNumbersFilledWrong : ChangeSpec := { name := "fnNumbersFilled", fn := fun _ => fun
  | [d1, d2, d3] => { results := [.lit (.bool false)], args := [d1, d2, d3] }
  | _ => none }
def FnNumbersFilledWrongFalsely : Prop := fnNumbersFilledRow.holds Try.pinned (OpenSpec.ofChange fnNumbersFilledWrong)

/-- 'laws.FnPyPIPre': WHATEVER THE INPUT: true; the input reads as it did. -/
def fnPyPIPreSpec : ChangeSpec := { name := "fnPyPIPre", fn := fun _ => fun
  | [d1, d2] => { results := [.lit (.bool true)], args := [d1, d2] }
  | _ => none }
def fnPyPIPreRow : OpenClaim := { program := "ytcagdmeiigjkcaa", sum := "6d9bb56586a85d05d773970222e099fba51a282948390174fc4e181a83a0f396", func := "pub-seniority/laws.FnPyPIPre", spec := "fnPyPIPre", apart := false }
def FnPyPIPreSaid : Prop := fnPyPIPreRow.holds Try.pinned (OpenSpec.ofChange fnPyPIPreSpec)

/-- ITS FALSE NEIGHBOUR: 'it returns false'. Refute it at one input. -/
def fnPyPIPreWrong : ChangeSpec := { name := "fnPyPIPre", fn := fun _ => fun
  | [d1, d2] => { results := [.lit (.bool false)], args := [d1, d2] }
  | _ => none }
def FnPyPIPreWrongFalsely : Prop := fnPyPIPreRow.holds Try.pinned (OpenSpec.ofChange fnPyPIPreWrong)

/-- 'laws.FnAlpine': WHATEVER THE INPUT: true; the input reads as it did. -/
def fnAlpineSpec : ChangeSpec := { name := "fnAlpine", fn := fun _ => fun
  | [d1, d2] => { results := [.lit (.bool true)], args := [d1, d2] }
  | _ => none }
def fnAlpineRow : OpenClaim := { program := "ytcagdmeiigjkcaa", sum := "6d9bb56586a85d05d773970222e099fba51a282948390174fc4e181a83a0f396", func := "pub-seniority/laws.FnAlpine", spec := "fnAlpine", inPlace := ["internal/bytealg.abigen_runtime_cmpstring"], apart := false }
def FnAlpineSaid : Prop := fnAlpineRow.holds Try.pinned (OpenSpec.ofChange fnAlpineSpec)

/-- ITS FALSE NEIGHBOUR: 'it returns false'. Refute it at one input. -/
def fnAlpineWrong : ChangeSpec := { name := "fnAlpine", fn := fun _ => fun
  | [d1, d2] => { results := [.lit (.bool false)], args := [d1, d2] }
  | _ => none }
def FnAlpineWrongFalsely : Prop := fnAlpineRow.holds Try.pinned (OpenSpec.ofChange fnAlpineWrong)

/-- 'laws.FnAlpineSuffixes': WHATEVER THE INPUT: true; the input reads as it did. -/
def fnAlpineSuffixesSpec : ChangeSpec := { name := "fnAlpineSuffixes", fn := fun _ => fun
  | [d1, d2, d3, d4, d5] => { results := [.lit (.bool true)], args := [d1, d2, d3, d4, d5] }
  | _ => none }
def fnAlpineSuffixesRow : OpenClaim := { program := "ytcagdmeiigjkcaa", sum := "6d9bb56586a85d05d773970222e099fba51a282948390174fc4e181a83a0f396", func := "pub-seniority/laws.FnAlpineSuffixes", spec := "fnAlpineSuffixes", inPlace := ["internal/bytealg.abigen_runtime_cmpstring"], apart := false }
def FnAlpineSuffixesSaid : Prop := fnAlpineSuffixesRow.holds Try.pinned (OpenSpec.ofChange fnAlpineSuffixesSpec)

/-- ITS FALSE NEIGHBOUR: 'it returns false'. Refute it at one input. -/
def fnAlpineSuffixesWrong : ChangeSpec := { name := "fnAlpineSuffixes", fn := fun _ => fun
  | [d1, d2, d3, d4, d5] => { results := [.lit (.bool false)], args := [d1, d2, d3, d4, d5] }
  | _ => none }
def FnAlpineSuffixesWrongFalsely : Prop := fnAlpineSuffixesRow.holds Try.pinned (OpenSpec.ofChange fnAlpineSuffixesWrong)

/- THE SECOND FORM. 'bulk': how many values and letters a reading holds, each counted each time it is reached (what is shared counts as often as it is met; a slice's spare places count too). A statement '..UptoSaid' is the law's where the arguments, and the package variables that the reading takes, are together of bulk at most 1048576: NARROWER than '..Said'. Prove '..Said' where nothing that the law and all that it calls make is longer than what came in: it says more and counts as full. Else prove '..UptoSaid'. A law counts once. -/
mutual
def uptoBulk {H : Type} : DataW H → Nat
  | .lit (.string bytes) => bytes.length + 1
  | .lit _ => 1
  | .nil => 1
  | .ptr d => uptoBulk d + 1
  | .slice elems spare => uptoBulkAll elems + uptoBulkAll spare + 1
  | .agg parts => uptoBulkAll parts + 1
  | .iface _ d => uptoBulk d + 1
  | .map entries => uptoBulkEntries entries + 1
  | .held _ => 1
def uptoBulkAll {H : Type} : List (DataW H) → Nat
  | [] => 0
  | d :: r => uptoBulk d + uptoBulkAll r
def uptoBulkEntries {H : Type} : List (Lit × DataW H) → Nat
  | [] => 0
  | x :: r => uptoBulkEntry x + uptoBulkEntries r
def uptoBulkEntry {H : Type} : Lit × DataW H → Nat
  | (.string bytes, d) => bytes.length + uptoBulk d + 1
  | (_, d) => uptoBulk d + 1
 end
def uptoSmall : (H : Type) → List (DataW H) → Bool := fun _ ds => decide (uptoBulkAll ds ≤ 1048576)
def OpenSpec.upto (s : _root_.Go.ChangeSpec) : _root_.Go.OpenSpec := { _root_.Go.OpenSpec.ofChange s with cond := some uptoSmall }

/-- 'laws.FnNumbers', WHERE WHAT IT READS IS OF BULK AT MOST 1048576: true; the input reads as it did. -/
def fnNumbersUptoRow : OpenClaim := { program := "ytcagdmeiigjkcaa", sum := "6d9bb56586a85d05d773970222e099fba51a282948390174fc4e181a83a0f396", func := "pub-seniority/laws.FnNumbers", spec := "fnNumbers", apart := false, narrowed := true }
def FnNumbersUptoSaid : Prop := fnNumbersUptoRow.holds Try.pinned (OpenSpec.upto fnNumbersSpec)

/-- 'laws.FnNumbersFilled', WHERE WHAT IT READS IS OF BULK AT MOST 1048576: true; the input reads as it did. -/
def fnNumbersFilledUptoRow : OpenClaim := { program := "ytcagdmeiigjkcaa", sum := "6d9bb56586a85d05d773970222e099fba51a282948390174fc4e181a83a0f396", func := "pub-seniority/laws.FnNumbersFilled", spec := "fnNumbersFilled", apart := false, narrowed := true }
def FnNumbersFilledUptoSaid : Prop := fnNumbersFilledUptoRow.holds Try.pinned (OpenSpec.upto fnNumbersFilledSpec)

/-- 'laws.FnPyPIPre', WHERE WHAT IT READS IS OF BULK AT MOST 1048576: true; the input reads as it did. -/
def fnPyPIPreUptoRow : OpenClaim := { program := "ytcagdmeiigjkcaa", sum := "6d9bb56586a85d05d773970222e099fba51a282948390174fc4e181a83a0f396", func := "pub-seniority/laws.FnPyPIPre", spec := "fnPyPIPre", apart := false, narrowed := true }
def FnPyPIPreUptoSaid : Prop := fnPyPIPreUptoRow.holds Try.pinned (OpenSpec.upto fnPyPIPreSpec)

/-- 'laws.FnAlpine', WHERE WHAT IT READS IS OF BULK AT MOST 1048576: true; the input reads as it did. -/
def fnAlpineUptoRow : OpenClaim := { program := "ytcagdmeiigjkcaa", sum := "6d9bb56586a85d05d773970222e099fba51a282948390174fc4e181a83a0f396", func := "pub-seniority/laws.FnAlpine", spec := "fnAlpine", inPlace := ["internal/bytealg.abigen_runtime_cmpstring"], apart := false, narrowed := true }
def FnAlpineUptoSaid : Prop := fnAlpineUptoRow.holds Try.pinned (OpenSpec.upto fnAlpineSpec)

/-- 'laws.FnAlpineSuffixes', WHERE WHAT IT READS IS OF BULK AT MOST 1048576: true; the input reads as it did. -/
def fnAlpineSuffixesUptoRow : OpenClaim := { program := "ytcagdmeiigjkcaa", sum := "6d9bb56586a85d05d773970222e099fba51a282948390174fc4e181a83a0f396", func := "pub-seniority/laws.FnAlpineSuffixes", spec := "fnAlpineSuffixes", inPlace := ["internal/bytealg.abigen_runtime_cmpstring"], apart := false, narrowed := true }
def FnAlpineSuffixesUptoSaid : Prop := fnAlpineSuffixesUptoRow.holds Try.pinned (OpenSpec.upto fnAlpineSuffixesSpec)

end Rows
end Go.Proofs.Ytcagdmeiigjkcaa
