/-
  NARROWER THAN 'FOR EVERY INPUT', by the rows' own cells (each row's printed sentence says how): FnRedHatEpochs: laid · FnRedHatOrder: laid · FnRedHatMarks: laid · FnRedHatZeros: laid · FnRedHat: laid.
  DERIVED. THE GIVEN ROWS OF THIS SEAT. 5 by the template 'for every input the law returns true; each argument reads behind the call as it read before'; 0 by the template 'total and deterministic' (their statements: YtciojhhncfnagaaDoorTotals.lean).
  GIVEN WITH THE SEED: the statements are not yours to turn. If you find one false, say at which input.
  Laid BY PROGRAM, IN A SANDBOX (cutbox-rows.mjs): the forced cells as the released guide's own fill.sh prints them over the translation 25015df44b9f35f3… (all of the seat's roots in one cut). By AI agents, Wed Nov 11 2026. No macro, syntax, notation, axiom, sorry.
-/
import Derived.Test.YtciojhhncfnagaaDoorChecked
import GoSem.Claim
import GoSem.ClaimJoined
import GoSem.ClaimMapViews
import Derived.JoinedTies
import Derived.KernelRfl
namespace Go.Proofs.YtciojhhncfnagaaDoor
/- THE CELL 'sum', in the pinned program and in every row, IS THE sha256 OF THE DUMP (.gsa) THAT YtciojhhncfnagaaDoorProg.lean LOADS. Nothing in Lean hashes anything: it is a label: what it is worth is what the hold of that sum in a sandbox is worth. -/
noncomputable def Tryd.pinned : Pinned := { name := "ytciojhhncfnagaadoor", sum := "25015df44b9f35f31260137c0bc601dc44fb7b9f11410c44c44d0c1d65bfa3fb", checked := Tryd.checked }
namespace Rows
def none {H : Type} : Left H := { results := [], args := [] }

/- WHAT THE LISTED PACKAGE-LEVEL VARIABLES READ AS WHEN THE CALL BEGINS. Each datum BY PROGRAM (the guide's laid-datum.mjs) off the statement by which the dump's own 'gosem.cut.vars' lays the variable. In a bare row this is a premise. The card (YtciojhhncfnagaaDoorCards.lean) ties it to the program's text. -/
def laid_pub_seniority_pub_scalibr_semantic_ErrNotSameEcosystem {H : Type} : DataW H := .iface "*errors.errorString" (.ptr (.agg [.lit (.string [118, 101, 114, 115, 105, 111, 110, 32, 105, 115, 32, 110, 111, 116, 32, 111, 102, 32, 116, 104, 101, 32, 115, 97, 109, 101, 32, 101, 99, 111, 115, 121, 115, 116, 101, 109])]))

/-- 'laws.FnRedHatEpochs': WHATEVER THE INPUT: true; the input reads as it did. -/
def fnRedHatEpochsSpec : ChangeSpec := { name := "fnRedHatEpochs", fn := fun _ => fun
  | [d1, d2, d3, d4] => { results := [.lit (.bool true)], args := [d1, d2, d3, d4] }
  | _ => none }
def fnRedHatEpochsRow : OpenClaim := { program := "ytciojhhncfnagaadoor", sum := "25015df44b9f35f31260137c0bc601dc44fb7b9f11410c44c44d0c1d65bfa3fb", func := "pub-seniority/laws.FnRedHatEpochs", spec := "fnRedHatEpochs", inPlace := ["internal/abi.NoEscape", "internal/bytealg.abigen_runtime_cmpstring"], unfollowed := true, recurses := true, named := ["pub-seniority/pub/scalibr/semantic.ErrNotSameEcosystem"], apart := false, laid := [("pub-seniority/pub/scalibr/semantic.ErrNotSameEcosystem", laid_pub_seniority_pub_scalibr_semantic_ErrNotSameEcosystem)] }
def FnRedHatEpochsSaid : Prop := fnRedHatEpochsRow.holds Tryd.pinned (OpenSpec.ofChange fnRedHatEpochsSpec)

/-- ITS FALSE NEIGHBOUR: 'it returns false'. Refute it at one input. -/
def fnRedHatEpochsWrong : ChangeSpec := { name := "fnRedHatEpochs", fn := fun _ => fun
  | [d1, d2, d3, d4] => { results := [.lit (.bool false)], args := [d1, d2, d3, d4] }
  | _ => none }
def FnRedHatEpochsWrongFalsely : Prop := fnRedHatEpochsRow.holds Tryd.pinned (OpenSpec.ofChange fnRedHatEpochsWrong)

/-- 'laws.FnRedHatOrder': WHATEVER THE INPUT: true; the input reads as it did. -/
def fnRedHatOrderSpec : ChangeSpec := { name := "fnRedHatOrder", fn := fun _ => fun
  | [d1, d2, d3] => { results := [.lit (.bool true)], args := [d1, d2, d3] }
  | _ => none }
def fnRedHatOrderRow : OpenClaim := { program := "ytciojhhncfnagaadoor", sum := "25015df44b9f35f31260137c0bc601dc44fb7b9f11410c44c44d0c1d65bfa3fb", func := "pub-seniority/laws.FnRedHatOrder", spec := "fnRedHatOrder", inPlace := ["internal/abi.NoEscape", "internal/bytealg.abigen_runtime_cmpstring"], unfollowed := true, recurses := true, named := ["pub-seniority/pub/scalibr/semantic.ErrNotSameEcosystem"], apart := false, laid := [("pub-seniority/pub/scalibr/semantic.ErrNotSameEcosystem", laid_pub_seniority_pub_scalibr_semantic_ErrNotSameEcosystem)] }
def FnRedHatOrderSaid : Prop := fnRedHatOrderRow.holds Tryd.pinned (OpenSpec.ofChange fnRedHatOrderSpec)

/-- ITS FALSE NEIGHBOUR: 'it returns false'. Refute it at one input. -/
def fnRedHatOrderWrong : ChangeSpec := { name := "fnRedHatOrder", fn := fun _ => fun
  | [d1, d2, d3] => { results := [.lit (.bool false)], args := [d1, d2, d3] }
  | _ => none }
def FnRedHatOrderWrongFalsely : Prop := fnRedHatOrderRow.holds Tryd.pinned (OpenSpec.ofChange fnRedHatOrderWrong)

/-- 'laws.FnRedHatMarks': WHATEVER THE INPUT: true; the input reads as it did. -/
def fnRedHatMarksSpec : ChangeSpec := { name := "fnRedHatMarks", fn := fun _ => fun
  | [d1, d2, d3, d4] => { results := [.lit (.bool true)], args := [d1, d2, d3, d4] }
  | _ => none }
def fnRedHatMarksRow : OpenClaim := { program := "ytciojhhncfnagaadoor", sum := "25015df44b9f35f31260137c0bc601dc44fb7b9f11410c44c44d0c1d65bfa3fb", func := "pub-seniority/laws.FnRedHatMarks", spec := "fnRedHatMarks", inPlace := ["internal/abi.NoEscape", "internal/bytealg.abigen_runtime_cmpstring"], unfollowed := true, recurses := true, named := ["pub-seniority/pub/scalibr/semantic.ErrNotSameEcosystem"], apart := false, laid := [("pub-seniority/pub/scalibr/semantic.ErrNotSameEcosystem", laid_pub_seniority_pub_scalibr_semantic_ErrNotSameEcosystem)] }
def FnRedHatMarksSaid : Prop := fnRedHatMarksRow.holds Tryd.pinned (OpenSpec.ofChange fnRedHatMarksSpec)

/-- ITS FALSE NEIGHBOUR: 'it returns false'. Refute it at one input. -/
def fnRedHatMarksWrong : ChangeSpec := { name := "fnRedHatMarks", fn := fun _ => fun
  | [d1, d2, d3, d4] => { results := [.lit (.bool false)], args := [d1, d2, d3, d4] }
  | _ => none }
def FnRedHatMarksWrongFalsely : Prop := fnRedHatMarksRow.holds Tryd.pinned (OpenSpec.ofChange fnRedHatMarksWrong)

/-- 'laws.FnRedHatZeros': WHATEVER THE INPUT: true; the input reads as it did. -/
def fnRedHatZerosSpec : ChangeSpec := { name := "fnRedHatZeros", fn := fun _ => fun
  | [d1, d2] => { results := [.lit (.bool true)], args := [d1, d2] }
  | _ => none }
def fnRedHatZerosRow : OpenClaim := { program := "ytciojhhncfnagaadoor", sum := "25015df44b9f35f31260137c0bc601dc44fb7b9f11410c44c44d0c1d65bfa3fb", func := "pub-seniority/laws.FnRedHatZeros", spec := "fnRedHatZeros", inPlace := ["internal/abi.NoEscape", "internal/bytealg.abigen_runtime_cmpstring"], unfollowed := true, recurses := true, named := ["pub-seniority/pub/scalibr/semantic.ErrNotSameEcosystem"], apart := false, laid := [("pub-seniority/pub/scalibr/semantic.ErrNotSameEcosystem", laid_pub_seniority_pub_scalibr_semantic_ErrNotSameEcosystem)] }
def FnRedHatZerosSaid : Prop := fnRedHatZerosRow.holds Tryd.pinned (OpenSpec.ofChange fnRedHatZerosSpec)

/-- ITS FALSE NEIGHBOUR: 'it returns false'. Refute it at one input. -/
def fnRedHatZerosWrong : ChangeSpec := { name := "fnRedHatZeros", fn := fun _ => fun
  | [d1, d2] => { results := [.lit (.bool false)], args := [d1, d2] }
  | _ => none }
def FnRedHatZerosWrongFalsely : Prop := fnRedHatZerosRow.holds Tryd.pinned (OpenSpec.ofChange fnRedHatZerosWrong)

/-- 'laws.FnRedHat': WHATEVER THE INPUT: true; the input reads as it did. -/
def fnRedHatSpec : ChangeSpec := { name := "fnRedHat", fn := fun _ => fun
  | [d1, d2] => { results := [.lit (.bool true)], args := [d1, d2] }
  | _ => none }
def fnRedHatRow : OpenClaim := { program := "ytciojhhncfnagaadoor", sum := "25015df44b9f35f31260137c0bc601dc44fb7b9f11410c44c44d0c1d65bfa3fb", func := "pub-seniority/laws.FnRedHat", spec := "fnRedHat", inPlace := ["internal/abi.NoEscape", "internal/bytealg.abigen_runtime_cmpstring"], unfollowed := true, recurses := true, named := ["pub-seniority/pub/scalibr/semantic.ErrNotSameEcosystem"], apart := false, laid := [("pub-seniority/pub/scalibr/semantic.ErrNotSameEcosystem", laid_pub_seniority_pub_scalibr_semantic_ErrNotSameEcosystem)] }
def FnRedHatSaid : Prop := fnRedHatRow.holds Tryd.pinned (OpenSpec.ofChange fnRedHatSpec)

/-- ITS FALSE NEIGHBOUR: 'it returns false'. Refute it at one input. -/
def fnRedHatWrong : ChangeSpec := { name := "fnRedHat", fn := fun _ => fun
  | [d1, d2] => { results := [.lit (.bool false)], args := [d1, d2] }
  | _ => none }
def FnRedHatWrongFalsely : Prop := fnRedHatRow.holds Tryd.pinned (OpenSpec.ofChange fnRedHatWrong)

/- THE SECOND FORM. 'bulk': how many values and letters a reading holds, each counted each time it is reached (what is shared counts as often as it is met; a slice's spare places count too). A statement '..UptoSaid' is the law's where the arguments, and the package variables that the reading takes, are together of bulk at most 1048576: NARROWER than '..Said'. Prove '..Said' where nothing that the law and all that it calls make is longer than what came in: it says more and counts as full. Else prove '..UptoSaid'. A law counts once. -/
mutual
def uptoBulk {H : Type} : DataW H → Nat
  | .lit (.string bytes) => bytes.length + 1
  | .lit _ => 1
  | .nil => 1
  | .ptr d => uptoBulk d + 1
  | .slice elems spare => uptoBulkAll elems + uptoBulkAll spare + 1
  | .agg parts => uptoBulkAll parts + 1
  | .iface _ d => uptoBulk d + 1
  | .map entries => uptoBulkEntries entries + 1
  | .held _ => 1
def uptoBulkAll {H : Type} : List (DataW H) → Nat
  | [] => 0
  | d :: r => uptoBulk d + uptoBulkAll r
def uptoBulkEntries {H : Type} : List (Lit × DataW H) → Nat
  | [] => 0
  | x :: r => uptoBulkEntry x + uptoBulkEntries r
def uptoBulkEntry {H : Type} : Lit × DataW H → Nat
  | (.string bytes, d) => bytes.length + uptoBulk d + 1
  | (_, d) => uptoBulk d + 1
 end
def uptoSmall : (H : Type) → List (DataW H) → Bool := fun _ ds => decide (uptoBulkAll ds ≤ 1048576)
def OpenSpec.upto (s : _root_.Go.ChangeSpec) : _root_.Go.OpenSpec := { _root_.Go.OpenSpec.ofChange s with cond := some uptoSmall }

/-- 'laws.FnRedHatEpochs', WHERE WHAT IT READS IS OF BULK AT MOST 1048576: true; the input reads as it did. -/
def fnRedHatEpochsUptoRow : OpenClaim := { program := "ytciojhhncfnagaadoor", sum := "25015df44b9f35f31260137c0bc601dc44fb7b9f11410c44c44d0c1d65bfa3fb", func := "pub-seniority/laws.FnRedHatEpochs", spec := "fnRedHatEpochs", inPlace := ["internal/abi.NoEscape", "internal/bytealg.abigen_runtime_cmpstring"], unfollowed := true, recurses := true, named := ["pub-seniority/pub/scalibr/semantic.ErrNotSameEcosystem"], apart := false, laid := [("pub-seniority/pub/scalibr/semantic.ErrNotSameEcosystem", laid_pub_seniority_pub_scalibr_semantic_ErrNotSameEcosystem)], narrowed := true }
def FnRedHatEpochsUptoSaid : Prop := fnRedHatEpochsUptoRow.holds Tryd.pinned (OpenSpec.upto fnRedHatEpochsSpec)

/-- 'laws.FnRedHatOrder', WHERE WHAT IT READS IS OF BULK AT MOST 1048576: true; the input reads as it did. -/
def fnRedHatOrderUptoRow : OpenClaim := { program := "ytciojhhncfnagaadoor", sum := "25015df44b9f35f31260137c0bc601dc44fb7b9f11410c44c44d0c1d65bfa3fb", func := "pub-seniority/laws.FnRedHatOrder", spec := "fnRedHatOrder", inPlace := ["internal/abi.NoEscape", "internal/bytealg.abigen_runtime_cmpstring"], unfollowed := true, recurses := true, named := ["pub-seniority/pub/scalibr/semantic.ErrNotSameEcosystem"], apart := false, laid := [("pub-seniority/pub/scalibr/semantic.ErrNotSameEcosystem", laid_pub_seniority_pub_scalibr_semantic_ErrNotSameEcosystem)], narrowed := true }
def FnRedHatOrderUptoSaid : Prop := fnRedHatOrderUptoRow.holds Tryd.pinned (OpenSpec.upto fnRedHatOrderSpec)

/-- 'laws.FnRedHatMarks', WHERE WHAT IT READS IS OF BULK AT MOST 1048576: true; the input reads as it did. -/
def fnRedHatMarksUptoRow : OpenClaim := { program := "ytciojhhncfnagaadoor", sum := "25015df44b9f35f31260137c0bc601dc44fb7b9f11410c44c44d0c1d65bfa3fb", func := "pub-seniority/laws.FnRedHatMarks", spec := "fnRedHatMarks", inPlace := ["internal/abi.NoEscape", "internal/bytealg.abigen_runtime_cmpstring"], unfollowed := true, recurses := true, named := ["pub-seniority/pub/scalibr/semantic.ErrNotSameEcosystem"], apart := false, laid := [("pub-seniority/pub/scalibr/semantic.ErrNotSameEcosystem", laid_pub_seniority_pub_scalibr_semantic_ErrNotSameEcosystem)], narrowed := true }
def FnRedHatMarksUptoSaid : Prop := fnRedHatMarksUptoRow.holds Tryd.pinned (OpenSpec.upto fnRedHatMarksSpec)

/-- 'laws.FnRedHatZeros', WHERE WHAT IT READS IS OF BULK AT MOST 1048576: true; the input reads as it did. -/
def fnRedHatZerosUptoRow : OpenClaim := { program := "ytciojhhncfnagaadoor", sum := "25015df44b9f35f31260137c0bc601dc44fb7b9f11410c44c44d0c1d65bfa3fb", func := "pub-seniority/laws.FnRedHatZeros", spec := "fnRedHatZeros", inPlace := ["internal/abi.NoEscape", "internal/bytealg.abigen_runtime_cmpstring"], unfollowed := true, recurses := true, named := ["pub-seniority/pub/scalibr/semantic.ErrNotSameEcosystem"], apart := false, laid := [("pub-seniority/pub/scalibr/semantic.ErrNotSameEcosystem", laid_pub_seniority_pub_scalibr_semantic_ErrNotSameEcosystem)], narrowed := true }
def FnRedHatZerosUptoSaid : Prop := fnRedHatZerosUptoRow.holds Tryd.pinned (OpenSpec.upto fnRedHatZerosSpec)

/-- 'laws.FnRedHat', WHERE WHAT IT READS IS OF BULK AT MOST 1048576: true; the input reads as it did. -/
def fnRedHatUptoRow : OpenClaim := { program := "ytciojhhncfnagaadoor", sum := "25015df44b9f35f31260137c0bc601dc44fb7b9f11410c44c44d0c1d65bfa3fb", func := "pub-seniority/laws.FnRedHat", spec := "fnRedHat", inPlace := ["internal/abi.NoEscape", "internal/bytealg.abigen_runtime_cmpstring"], unfollowed := true, recurses := true, named := ["pub-seniority/pub/scalibr/semantic.ErrNotSameEcosystem"], apart := false, laid := [("pub-seniority/pub/scalibr/semantic.ErrNotSameEcosystem", laid_pub_seniority_pub_scalibr_semantic_ErrNotSameEcosystem)], narrowed := true }
def FnRedHatUptoSaid : Prop := fnRedHatUptoRow.holds Tryd.pinned (OpenSpec.upto fnRedHatSpec)

end Rows
end Go.Proofs.YtciojhhncfnagaaDoor
