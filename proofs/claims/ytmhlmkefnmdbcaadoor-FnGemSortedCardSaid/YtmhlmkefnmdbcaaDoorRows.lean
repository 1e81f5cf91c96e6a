/-
  NARROWER THAN 'FOR EVERY INPUT', by the rows' own cells (each row's printed sentence says how): FnCRANParse: laid · FnCRANSorted: laid · FnCRANLonger: laid · FnCRANOrder: laid · FnGemSorted: laid · FnRubyBehind: laid · FnRuby: laid · FnRubyRoads: laid.
  DERIVED. THE GIVEN ROWS OF THIS SEAT. 8 by the template 'for every input the law returns true; each argument reads behind the call as it read before'; 0 by the template 'total and deterministic' (their statements: YtmhlmkefnmdbcaaDoorTotals.lean).
  GIVEN WITH THE SEED: the statements are not yours to turn. If you find one false, say at which input.
  Laid BY PROGRAM, IN A SANDBOX (cutbox-rows.mjs): the forced cells as the released guide's own fill.sh prints them over the translation 8ec009b264e397d6… (all of the seat's roots in one cut). By AI agents, Wed Nov 11 2026. No macro, syntax, notation, axiom, sorry.
-/
import Derived.Test.YtmhlmkefnmdbcaaDoorChecked
import GoSem.Claim
import GoSem.ClaimJoined
import GoSem.ClaimMapViews
import Derived.JoinedTies
import Derived.KernelRfl
namespace Go.Proofs.YtmhlmkefnmdbcaaDoor
/- THE CELL 'sum', in the pinned program and in every row, IS THE sha256 OF THE DUMP (.gsa) THAT YtmhlmkefnmdbcaaDoorProg.lean LOADS. Nothing in Lean hashes anything: it is a label: what it is worth is what the hold of that sum in a sandbox is worth. -/
noncomputable def Tryd.pinned : Pinned := { name := "ytmhlmkefnmdbcaadoor", sum := "8ec009b264e397d6ceb33da261797aadf0d8240fea73fed5f983fff1fec35778", checked := Tryd.checked }
namespace Rows
def none {H : Type} : Left H := { results := [], args := [] }

/- WHAT THE LISTED PACKAGE-LEVEL VARIABLES READ AS WHEN THE CALL BEGINS. Each datum BY PROGRAM (the guide's laid-datum.mjs) off the statement by which the dump's own 'gosem.cut.vars' lays the variable. In a bare row this is a premise. The card (YtmhlmkefnmdbcaaDoorCards.lean) ties it to the program's text. -/
def laid_io_EOF {H : Type} : DataW H := .iface "*errors.errorString" (.ptr (.agg [.lit (.string [69, 79, 70])]))
def laid_pub_seniority_pub_bigall_errNoDigits {H : Type} : DataW H := .iface "*errors.errorString" (.ptr (.agg [.lit (.string [110, 117, 109, 98, 101, 114, 32, 104, 97, 115, 32, 110, 111, 32, 100, 105, 103, 105, 116, 115])]))
def laid_pub_seniority_pub_bigall_errInvalSep {H : Type} : DataW H := .iface "*errors.errorString" (.ptr (.agg [.lit (.string [39, 95, 39, 32, 109, 117, 115, 116, 32, 115, 101, 112, 97, 114, 97, 116, 101, 32, 115, 117, 99, 99, 101, 115, 115, 105, 118, 101, 32, 100, 105, 103, 105, 116, 115])]))
def laid_pub_seniority_pub_scalibr_semantic_ErrInvalidVersion {H : Type} : DataW H := .iface "*errors.errorString" (.ptr (.agg [.lit (.string [105, 110, 118, 97, 108, 105, 100, 32, 118, 101, 114, 115, 105, 111, 110])]))
def laid_pub_seniority_pub_scalibr_semantic_ErrNotSameEcosystem {H : Type} : DataW H := .iface "*errors.errorString" (.ptr (.agg [.lit (.string [118, 101, 114, 115, 105, 111, 110, 32, 105, 115, 32, 110, 111, 116, 32, 111, 102, 32, 116, 104, 101, 32, 115, 97, 109, 101, 32, 101, 99, 111, 115, 121, 115, 116, 101, 109])]))

/-- 'laws.FnCRANParse': WHATEVER THE INPUT: true; the input reads as it did. -/
def fnCRANParseSpec : ChangeSpec := { name := "fnCRANParse", fn := fun _ => fun
  | [d] => { results := [.lit (.bool true)], args := [d] }
  | _ => none }
def fnCRANParseRow : OpenClaim := { program := "ytmhlmkefnmdbcaadoor", sum := "8ec009b264e397d6ceb33da261797aadf0d8240fea73fed5f983fff1fec35778", func := "pub-seniority/laws.FnCRANParse", spec := "fnCRANParse", inPlace := ["math/bits.Add64"], unfollowed := true, recurses := true, named := ["pub-seniority/pub/scalibr/semantic.ErrInvalidVersion", "io.EOF", "pub-seniority/pub/bigall.errInvalSep", "pub-seniority/pub/bigall.errNoDigits"], apart := false, laid := [("io.EOF", laid_io_EOF), ("pub-seniority/pub/bigall.errNoDigits", laid_pub_seniority_pub_bigall_errNoDigits), ("pub-seniority/pub/bigall.errInvalSep", laid_pub_seniority_pub_bigall_errInvalSep), ("pub-seniority/pub/scalibr/semantic.ErrInvalidVersion", laid_pub_seniority_pub_scalibr_semantic_ErrInvalidVersion)] }
def FnCRANParseSaid : Prop := fnCRANParseRow.holds Tryd.pinned (OpenSpec.ofChange fnCRANParseSpec)

/-- ITS FALSE NEIGHBOUR: 'it returns false'. Refute it at one input. -/
def fnCRANParseWrong : ChangeSpec := { name := "fnCRANParse", fn := fun _ => fun
  | [d] => { results := [.lit (.bool false)], args := [d] }
  | _ => none }
def FnCRANParseWrongFalsely : Prop := fnCRANParseRow.holds Tryd.pinned (OpenSpec.ofChange fnCRANParseWrong)

/-- 'laws.FnCRANSorted': WHATEVER THE INPUT: true; the input reads as it did. -/
def fnCRANSortedSpec : ChangeSpec := { name := "fnCRANSorted", fn := fun _ => fun
  | [d] => { results := [.lit (.bool true)], args := [d] }
  | _ => none }
def fnCRANSortedRow : OpenClaim := { program := "ytmhlmkefnmdbcaadoor", sum := "8ec009b264e397d6ceb33da261797aadf0d8240fea73fed5f983fff1fec35778", func := "pub-seniority/laws.FnCRANSorted", spec := "fnCRANSorted", inPlace := ["math/bits.Add64"], unfollowed := true, recurses := true, named := ["pub-seniority/pub/scalibr/semantic.ErrInvalidVersion", "io.EOF", "pub-seniority/pub/bigall.errInvalSep", "pub-seniority/pub/bigall.errNoDigits", "pub-seniority/pub/scalibr/semantic.ErrNotSameEcosystem"], apart := false, laid := [("io.EOF", laid_io_EOF), ("pub-seniority/pub/bigall.errNoDigits", laid_pub_seniority_pub_bigall_errNoDigits), ("pub-seniority/pub/bigall.errInvalSep", laid_pub_seniority_pub_bigall_errInvalSep), ("pub-seniority/pub/scalibr/semantic.ErrInvalidVersion", laid_pub_seniority_pub_scalibr_semantic_ErrInvalidVersion), ("pub-seniority/pub/scalibr/semantic.ErrNotSameEcosystem", laid_pub_seniority_pub_scalibr_semantic_ErrNotSameEcosystem)] }
def FnCRANSortedSaid : Prop := fnCRANSortedRow.holds Tryd.pinned (OpenSpec.ofChange fnCRANSortedSpec)

/-- ITS FALSE NEIGHBOUR: 'it returns false'. Refute it at one input. -/
def fnCRANSortedWrong : ChangeSpec := { name := "fnCRANSorted", fn := fun _ => fun
  | [d] => { results := [.lit (.bool false)], args := [d] }
  | _ => none }
def FnCRANSortedWrongFalsely : Prop := fnCRANSortedRow.holds Tryd.pinned (OpenSpec.ofChange fnCRANSortedWrong)

/-- 'laws.FnCRANLonger': WHATEVER THE INPUT: true; the input reads as it did. -/
def fnCRANLongerSpec : ChangeSpec := { name := "fnCRANLonger", fn := fun _ => fun
  | [d1, d2] => { results := [.lit (.bool true)], args := [d1, d2] }
  | _ => none }
def fnCRANLongerRow : OpenClaim := { program := "ytmhlmkefnmdbcaadoor", sum := "8ec009b264e397d6ceb33da261797aadf0d8240fea73fed5f983fff1fec35778", func := "pub-seniority/laws.FnCRANLonger", spec := "fnCRANLonger", inPlace := ["math/bits.Add64"], unfollowed := true, recurses := true, named := ["pub-seniority/pub/scalibr/semantic.ErrInvalidVersion", "io.EOF", "pub-seniority/pub/bigall.errInvalSep", "pub-seniority/pub/bigall.errNoDigits", "pub-seniority/pub/scalibr/semantic.ErrNotSameEcosystem"], apart := false, laid := [("io.EOF", laid_io_EOF), ("pub-seniority/pub/bigall.errNoDigits", laid_pub_seniority_pub_bigall_errNoDigits), ("pub-seniority/pub/bigall.errInvalSep", laid_pub_seniority_pub_bigall_errInvalSep), ("pub-seniority/pub/scalibr/semantic.ErrInvalidVersion", laid_pub_seniority_pub_scalibr_semantic_ErrInvalidVersion), ("pub-seniority/pub/scalibr/semantic.ErrNotSameEcosystem", laid_pub_seniority_pub_scalibr_semantic_ErrNotSameEcosystem)] }
def FnCRANLongerSaid : Prop := fnCRANLongerRow.holds Tryd.pinned (OpenSpec.ofChange fnCRANLongerSpec)

/-- ITS FALSE NEIGHBOUR: 'it returns false'. Refute it at one input. -/
def fnCRANLongerWrong : ChangeSpec := { name := "fnCRANLonger", fn := fun _ => fun
  | [d1, d2] => { results := [.lit (.bool false)], args := [d1, d2] }
  | _ => none }
def FnCRANLongerWrongFalsely : Prop := fnCRANLongerRow.holds Tryd.pinned (OpenSpec.ofChange fnCRANLongerWrong)

/-- 'laws.FnCRANOrder': WHATEVER THE INPUT: true; the input reads as it did. -/
def fnCRANOrderSpec : ChangeSpec := { name := "fnCRANOrder", fn := fun _ => fun
  | [d1, d2, d3] => { results := [.lit (.bool true)], args := [d1, d2, d3] }
  | _ => none }
def fnCRANOrderRow : OpenClaim := { program := "ytmhlmkefnmdbcaadoor", sum := "8ec009b264e397d6ceb33da261797aadf0d8240fea73fed5f983fff1fec35778", func := "pub-seniority/laws.FnCRANOrder", spec := "fnCRANOrder", inPlace := ["math/bits.Add64"], unfollowed := true, recurses := true, named := ["pub-seniority/pub/scalibr/semantic.ErrInvalidVersion", "io.EOF", "pub-seniority/pub/bigall.errInvalSep", "pub-seniority/pub/bigall.errNoDigits", "pub-seniority/pub/scalibr/semantic.ErrNotSameEcosystem"], apart := false, laid := [("io.EOF", laid_io_EOF), ("pub-seniority/pub/bigall.errNoDigits", laid_pub_seniority_pub_bigall_errNoDigits), ("pub-seniority/pub/bigall.errInvalSep", laid_pub_seniority_pub_bigall_errInvalSep), ("pub-seniority/pub/scalibr/semantic.ErrInvalidVersion", laid_pub_seniority_pub_scalibr_semantic_ErrInvalidVersion), ("pub-seniority/pub/scalibr/semantic.ErrNotSameEcosystem", laid_pub_seniority_pub_scalibr_semantic_ErrNotSameEcosystem)] }
def FnCRANOrderSaid : Prop := fnCRANOrderRow.holds Tryd.pinned (OpenSpec.ofChange fnCRANOrderSpec)

/-- ITS FALSE NEIGHBOUR: 'it returns false'. Refute it at one input. -/
def fnCRANOrderWrong : ChangeSpec := { name := "fnCRANOrder", fn := fun _ => fun
  | [d1, d2, d3] => { results := [.lit (.bool false)], args := [d1, d2, d3] }
  | _ => none }
def FnCRANOrderWrongFalsely : Prop := fnCRANOrderRow.holds Tryd.pinned (OpenSpec.ofChange fnCRANOrderWrong)

/-- 'laws.FnGemSorted': WHATEVER THE INPUT: true; the input reads as it did. -/
def fnGemSortedSpec : ChangeSpec := { name := "fnGemSorted", fn := fun _ => fun
  | [d] => { results := [.lit (.bool true)], args := [d] }
  | _ => none }
def fnGemSortedRow : OpenClaim := { program := "ytmhlmkefnmdbcaadoor", sum := "8ec009b264e397d6ceb33da261797aadf0d8240fea73fed5f983fff1fec35778", func := "pub-seniority/laws.FnGemSorted", spec := "fnGemSorted", inPlace := ["internal/abi.NoEscape", "math/bits.Add64", "internal/bytealg.abigen_runtime_cmpstring"], unfollowed := true, recurses := true, named := ["pub-seniority/pub/scalibr/semantic.ErrInvalidVersion", "io.EOF", "pub-seniority/pub/bigall.errInvalSep", "pub-seniority/pub/bigall.errNoDigits", "pub-seniority/pub/scalibr/semantic.ErrNotSameEcosystem"], apart := false, laid := [("io.EOF", laid_io_EOF), ("pub-seniority/pub/bigall.errNoDigits", laid_pub_seniority_pub_bigall_errNoDigits), ("pub-seniority/pub/bigall.errInvalSep", laid_pub_seniority_pub_bigall_errInvalSep), ("pub-seniority/pub/scalibr/semantic.ErrInvalidVersion", laid_pub_seniority_pub_scalibr_semantic_ErrInvalidVersion), ("pub-seniority/pub/scalibr/semantic.ErrNotSameEcosystem", laid_pub_seniority_pub_scalibr_semantic_ErrNotSameEcosystem)] }
def FnGemSortedSaid : Prop := fnGemSortedRow.holds Tryd.pinned (OpenSpec.ofChange fnGemSortedSpec)

/-- ITS FALSE NEIGHBOUR: 'it returns false'. Refute it at one input. -/
def fnGemSortedWrong : ChangeSpec := { name := "fnGemSorted", fn := fun _ => fun
  | [d] => { results := [.lit (.bool false)], args := [d] }
  | _ => none }
def FnGemSortedWrongFalsely : Prop := fnGemSortedRow.holds Tryd.pinned (OpenSpec.ofChange fnGemSortedWrong)

/-- 'laws.FnRubyBehind': WHATEVER THE INPUT: true; the input reads as it did. -/
def fnRubyBehindSpec : ChangeSpec := { name := "fnRubyBehind", fn := fun _ => fun
  | [d1, d2, d3, d4] => { results := [.lit (.bool true)], args := [d1, d2, d3, d4] }
  | _ => none }
def fnRubyBehindRow : OpenClaim := { program := "ytmhlmkefnmdbcaadoor", sum := "8ec009b264e397d6ceb33da261797aadf0d8240fea73fed5f983fff1fec35778", func := "pub-seniority/laws.FnRubyBehind", spec := "fnRubyBehind", inPlace := ["internal/abi.NoEscape", "math/bits.Add64", "internal/bytealg.abigen_runtime_cmpstring"], unfollowed := true, recurses := true, named := ["pub-seniority/pub/scalibr/semantic.ErrInvalidVersion", "io.EOF", "pub-seniority/pub/bigall.errInvalSep", "pub-seniority/pub/bigall.errNoDigits", "pub-seniority/pub/scalibr/semantic.ErrNotSameEcosystem"], apart := false, laid := [("io.EOF", laid_io_EOF), ("pub-seniority/pub/bigall.errNoDigits", laid_pub_seniority_pub_bigall_errNoDigits), ("pub-seniority/pub/bigall.errInvalSep", laid_pub_seniority_pub_bigall_errInvalSep), ("pub-seniority/pub/scalibr/semantic.ErrInvalidVersion", laid_pub_seniority_pub_scalibr_semantic_ErrInvalidVersion), ("pub-seniority/pub/scalibr/semantic.ErrNotSameEcosystem", laid_pub_seniority_pub_scalibr_semantic_ErrNotSameEcosystem)] }
def FnRubyBehindSaid : Prop := fnRubyBehindRow.holds Tryd.pinned (OpenSpec.ofChange fnRubyBehindSpec)

/-- ITS FALSE NEIGHBOUR: 'it returns false'. Refute it at one input. -/
def fnRubyBehindWrong : ChangeSpec := { name := "fnRubyBehind", fn := fun _ => fun
  | [d1, d2, d3, d4] => { results := [.lit (.bool false)], args := [d1, d2, d3, d4] }
  | _ => none }
def FnRubyBehindWrongFalsely : Prop := fnRubyBehindRow.holds Tryd.pinned (OpenSpec.ofChange fnRubyBehindWrong)

/-- 'laws.FnRuby': WHATEVER THE INPUT: true; the input reads as it did. -/
def fnRubySpec : ChangeSpec := { name := "fnRuby", fn := fun _ => fun
  | [d1, d2] => { results := [.lit (.bool true)], args := [d1, d2] }
  | _ => none }
def fnRubyRow : OpenClaim := { program := "ytmhlmkefnmdbcaadoor", sum := "8ec009b264e397d6ceb33da261797aadf0d8240fea73fed5f983fff1fec35778", func := "pub-seniority/laws.FnRuby", spec := "fnRuby", inPlace := ["internal/abi.NoEscape", "math/bits.Add64", "internal/bytealg.abigen_runtime_cmpstring"], unfollowed := true, recurses := true, named := ["pub-seniority/pub/scalibr/semantic.ErrInvalidVersion", "io.EOF", "pub-seniority/pub/bigall.errInvalSep", "pub-seniority/pub/bigall.errNoDigits", "pub-seniority/pub/scalibr/semantic.ErrNotSameEcosystem"], apart := false, laid := [("io.EOF", laid_io_EOF), ("pub-seniority/pub/bigall.errNoDigits", laid_pub_seniority_pub_bigall_errNoDigits), ("pub-seniority/pub/bigall.errInvalSep", laid_pub_seniority_pub_bigall_errInvalSep), ("pub-seniority/pub/scalibr/semantic.ErrInvalidVersion", laid_pub_seniority_pub_scalibr_semantic_ErrInvalidVersion), ("pub-seniority/pub/scalibr/semantic.ErrNotSameEcosystem", laid_pub_seniority_pub_scalibr_semantic_ErrNotSameEcosystem)] }
def FnRubySaid : Prop := fnRubyRow.holds Tryd.pinned (OpenSpec.ofChange fnRubySpec)

/-- ITS FALSE NEIGHBOUR: 'it returns false'. Refute it at one input. -/
def fnRubyWrong : ChangeSpec := { name := "fnRuby", fn := fun _ => fun
  | [d1, d2] => { results := [.lit (.bool false)], args := [d1, d2] }
  | _ => none }
def FnRubyWrongFalsely : Prop := fnRubyRow.holds Tryd.pinned (OpenSpec.ofChange fnRubyWrong)

/-- 'laws.FnRubyRoads': WHATEVER THE INPUT: true; the input reads as it did. -/
def fnRubyRoadsSpec : ChangeSpec := { name := "fnRubyRoads", fn := fun _ => fun
  | [d1, d2] => { results := [.lit (.bool true)], args := [d1, d2] }
  | _ => none }
def fnRubyRoadsRow : OpenClaim := { program := "ytmhlmkefnmdbcaadoor", sum := "8ec009b264e397d6ceb33da261797aadf0d8240fea73fed5f983fff1fec35778", func := "pub-seniority/laws.FnRubyRoads", spec := "fnRubyRoads", inPlace := ["internal/abi.NoEscape", "math/bits.Add64", "internal/bytealg.abigen_runtime_cmpstring"], unfollowed := true, recurses := true, named := ["pub-seniority/pub/scalibr/semantic.ErrInvalidVersion", "io.EOF", "pub-seniority/pub/bigall.errInvalSep", "pub-seniority/pub/bigall.errNoDigits", "pub-seniority/pub/scalibr/semantic.ErrNotSameEcosystem"], apart := false, laid := [("io.EOF", laid_io_EOF), ("pub-seniority/pub/bigall.errNoDigits", laid_pub_seniority_pub_bigall_errNoDigits), ("pub-seniority/pub/bigall.errInvalSep", laid_pub_seniority_pub_bigall_errInvalSep), ("pub-seniority/pub/scalibr/semantic.ErrInvalidVersion", laid_pub_seniority_pub_scalibr_semantic_ErrInvalidVersion), ("pub-seniority/pub/scalibr/semantic.ErrNotSameEcosystem", laid_pub_seniority_pub_scalibr_semantic_ErrNotSameEcosystem)] }
def FnRubyRoadsSaid : Prop := fnRubyRoadsRow.holds Tryd.pinned (OpenSpec.ofChange fnRubyRoadsSpec)

/-- ITS FALSE NEIGHBOUR: 'it returns false'. Refute it at one input. -/
def fnRubyRoadsWrong : ChangeSpec := { name := "fnRubyRoads", fn := fun _ => fun
  | [d1, d2] => { results := [.lit (.bool false)], args := [d1, d2] }
  | _ => none }
def FnRubyRoadsWrongFalsely : Prop := fnRubyRoadsRow.holds Tryd.pinned (OpenSpec.ofChange fnRubyRoadsWrong)

/- THE SECOND FORM. 'bulk': how many values and letters a reading holds, each counted each time it is reached (what is shared counts as often as it is met; a slice's spare places count too). A statement '..UptoSaid' is the law's where the arguments, and the package variables that the reading takes, are together of bulk at most 1048576: NARROWER than '..Said'. Prove '..Said' where nothing that the law and all that it calls make is longer than what came in: it says more and counts as full. Else prove '..UptoSaid'. A law counts once. -/
mutual
def uptoBulk {H : Type} : DataW H → Nat
  | .lit (.string bytes) => bytes.length + 1
  | .lit _ => 1
  | .nil => 1
  | .ptr d => uptoBulk d + 1
  | .slice elems spare => uptoBulkAll elems + uptoBulkAll spare + 1
  | .agg parts => uptoBulkAll parts + 1
  | .iface _ d => uptoBulk d + 1
  | .map entries => uptoBulkEntries entries + 1
  | .held _ => 1
def uptoBulkAll {H : Type} : List (DataW H) → Nat
  | [] => 0
  | d :: r => uptoBulk d + uptoBulkAll r
def uptoBulkEntries {H : Type} : List (Lit × DataW H) → Nat
  | [] => 0
  | x :: r => uptoBulkEntry x + uptoBulkEntries r
def uptoBulkEntry {H : Type} : Lit × DataW H → Nat
  | (.string bytes, d) => bytes.length + uptoBulk d + 1
  | (_, d) => uptoBulk d + 1
 end
def uptoSmall : (H : Type) → List (DataW H) → Bool := fun _ ds => decide (uptoBulkAll ds ≤ 1048576)
def OpenSpec.upto (s : _root_.Go.ChangeSpec) : _root_.Go.OpenSpec := { _root_.Go.OpenSpec.ofChange s with cond := some uptoSmall }

/-- 'laws.FnCRANParse', WHERE WHAT IT READS IS OF BULK AT MOST 1048576: true; the input reads as it did. -/
def fnCRANParseUptoRow : OpenClaim := { program := "ytmhlmkefnmdbcaadoor", sum := "8ec009b264e397d6ceb33da261797aadf0d8240fea73fed5f983fff1fec35778", func := "pub-seniority/laws.FnCRANParse", spec := "fnCRANParse", inPlace := ["math/bits.Add64"], unfollowed := true, recurses := true, named := ["pub-seniority/pub/scalibr/semantic.ErrInvalidVersion", "io.EOF", "pub-seniority/pub/bigall.errInvalSep", "pub-seniority/pub/bigall.errNoDigits"], apart := false, laid := [("io.EOF", laid_io_EOF), ("pub-seniority/pub/bigall.errNoDigits", laid_pub_seniority_pub_bigall_errNoDigits), ("pub-seniority/pub/bigall.errInvalSep", laid_pub_seniority_pub_bigall_errInvalSep), ("pub-seniority/pub/scalibr/semantic.ErrInvalidVersion", laid_pub_seniority_pub_scalibr_semantic_ErrInvalidVersion)], narrowed := true }
def FnCRANParseUptoSaid : Prop := fnCRANParseUptoRow.holds Tryd.pinned (OpenSpec.upto fnCRANParseSpec)

/-- 'laws.FnCRANSorted', WHERE WHAT IT READS IS OF BULK AT MOST 1048576: true; the input reads as it did. -/
def fnCRANSortedUptoRow : OpenClaim := { program := "ytmhlmkefnmdbcaadoor", sum := "8ec009b264e397d6ceb33da261797aadf0d8240fea73fed5f983fff1fec35778", func := "pub-seniority/laws.FnCRANSorted", spec := "fnCRANSorted", inPlace := ["math/bits.Add64"], unfollowed := true, recurses := true, named := ["pub-seniority/pub/scalibr/semantic.ErrInvalidVersion", "io.EOF", "pub-seniority/pub/bigall.errInvalSep", "pub-seniority/pub/bigall.errNoDigits", "pub-seniority/pub/scalibr/semantic.ErrNotSameEcosystem"], apart := false, laid := [("io.EOF", laid_io_EOF), ("pub-seniority/pub/bigall.errNoDigits", laid_pub_seniority_pub_bigall_errNoDigits), ("pub-seniority/pub/bigall.errInvalSep", laid_pub_seniority_pub_bigall_errInvalSep), ("pub-seniority/pub/scalibr/semantic.ErrInvalidVersion", laid_pub_seniority_pub_scalibr_semantic_ErrInvalidVersion), ("pub-seniority/pub/scalibr/semantic.ErrNotSameEcosystem", laid_pub_seniority_pub_scalibr_semantic_ErrNotSameEcosystem)], narrowed := true }
def FnCRANSortedUptoSaid : Prop := fnCRANSortedUptoRow.holds Tryd.pinned (OpenSpec.upto fnCRANSortedSpec)

/-- 'laws.FnCRANLonger', WHERE WHAT IT READS IS OF BULK AT MOST 1048576: true; the input reads as it did. -/
def fnCRANLongerUptoRow : OpenClaim := { program := "ytmhlmkefnmdbcaadoor", sum := "8ec009b264e397d6ceb33da261797aadf0d8240fea73fed5f983fff1fec35778", func := "pub-seniority/laws.FnCRANLonger", spec := "fnCRANLonger", inPlace := ["math/bits.Add64"], unfollowed := true, recurses := true, named := ["pub-seniority/pub/scalibr/semantic.ErrInvalidVersion", "io.EOF", "pub-seniority/pub/bigall.errInvalSep", "pub-seniority/pub/bigall.errNoDigits", "pub-seniority/pub/scalibr/semantic.ErrNotSameEcosystem"], apart := false, laid := [("io.EOF", laid_io_EOF), ("pub-seniority/pub/bigall.errNoDigits", laid_pub_seniority_pub_bigall_errNoDigits), ("pub-seniority/pub/bigall.errInvalSep", laid_pub_seniority_pub_bigall_errInvalSep), ("pub-seniority/pub/scalibr/semantic.ErrInvalidVersion", laid_pub_seniority_pub_scalibr_semantic_ErrInvalidVersion), ("pub-seniority/pub/scalibr/semantic.ErrNotSameEcosystem", laid_pub_seniority_pub_scalibr_semantic_ErrNotSameEcosystem)], narrowed := true }
def FnCRANLongerUptoSaid : Prop := fnCRANLongerUptoRow.holds Tryd.pinned (OpenSpec.upto fnCRANLongerSpec)

/-- 'laws.FnCRANOrder', WHERE WHAT IT READS IS OF BULK AT MOST 1048576: true; the input reads as it did. -/
def fnCRANOrderUptoRow : OpenClaim := { program := "ytmhlmkefnmdbcaadoor", sum := "8ec009b264e397d6ceb33da261797aadf0d8240fea73fed5f983fff1fec35778", func := "pub-seniority/laws.FnCRANOrder", spec := "fnCRANOrder", inPlace := ["math/bits.Add64"], unfollowed := true, recurses := true, named := ["pub-seniority/pub/scalibr/semantic.ErrInvalidVersion", "io.EOF", "pub-seniority/pub/bigall.errInvalSep", "pub-seniority/pub/bigall.errNoDigits", "pub-seniority/pub/scalibr/semantic.ErrNotSameEcosystem"], apart := false, laid := [("io.EOF", laid_io_EOF), ("pub-seniority/pub/bigall.errNoDigits", laid_pub_seniority_pub_bigall_errNoDigits), ("pub-seniority/pub/bigall.errInvalSep", laid_pub_seniority_pub_bigall_errInvalSep), ("pub-seniority/pub/scalibr/semantic.ErrInvalidVersion", laid_pub_seniority_pub_scalibr_semantic_ErrInvalidVersion), ("pub-seniority/pub/scalibr/semantic.ErrNotSameEcosystem", laid_pub_seniority_pub_scalibr_semantic_ErrNotSameEcosystem)], narrowed := true }
def FnCRANOrderUptoSaid : Prop := fnCRANOrderUptoRow.holds Tryd.pinned (OpenSpec.upto fnCRANOrderSpec)

/-- 'laws.FnGemSorted', WHERE WHAT IT READS IS OF BULK AT MOST 1048576: true; the input reads as it did. -/
def fnGemSortedUptoRow : OpenClaim := { program := "ytmhlmkefnmdbcaadoor", sum := "8ec009b264e397d6ceb33da261797aadf0d8240fea73fed5f983fff1fec35778", func := "pub-seniority/laws.FnGemSorted", spec := "fnGemSorted", inPlace := ["internal/abi.NoEscape", "math/bits.Add64", "internal/bytealg.abigen_runtime_cmpstring"], unfollowed := true, recurses := true, named := ["pub-seniority/pub/scalibr/semantic.ErrInvalidVersion", "io.EOF", "pub-seniority/pub/bigall.errInvalSep", "pub-seniority/pub/bigall.errNoDigits", "pub-seniority/pub/scalibr/semantic.ErrNotSameEcosystem"], apart := false, laid := [("io.EOF", laid_io_EOF), ("pub-seniority/pub/bigall.errNoDigits", laid_pub_seniority_pub_bigall_errNoDigits), ("pub-seniority/pub/bigall.errInvalSep", laid_pub_seniority_pub_bigall_errInvalSep), ("pub-seniority/pub/scalibr/semantic.ErrInvalidVersion", laid_pub_seniority_pub_scalibr_semantic_ErrInvalidVersion), ("pub-seniority/pub/scalibr/semantic.ErrNotSameEcosystem", laid_pub_seniority_pub_scalibr_semantic_ErrNotSameEcosystem)], narrowed := true }
def FnGemSortedUptoSaid : Prop := fnGemSortedUptoRow.holds Tryd.pinned (OpenSpec.upto fnGemSortedSpec)

/-- 'laws.FnRubyBehind', WHERE WHAT IT READS IS OF BULK AT MOST 1048576: true; the input reads as it did. -/
def fnRubyBehindUptoRow : OpenClaim := { program := "ytmhlmkefnmdbcaadoor", sum := "8ec009b264e397d6ceb33da261797aadf0d8240fea73fed5f983fff1fec35778", func := "pub-seniority/laws.FnRubyBehind", spec := "fnRubyBehind", inPlace := ["internal/abi.NoEscape", "math/bits.Add64", "internal/bytealg.abigen_runtime_cmpstring"], unfollowed := true, recurses := true, named := ["pub-seniority/pub/scalibr/semantic.ErrInvalidVersion", "io.EOF", "pub-seniority/pub/bigall.errInvalSep", "pub-seniority/pub/bigall.errNoDigits", "pub-seniority/pub/scalibr/semantic.ErrNotSameEcosystem"], apart := false, laid := [("io.EOF", laid_io_EOF), ("pub-seniority/pub/bigall.errNoDigits", laid_pub_seniority_pub_bigall_errNoDigits), ("pub-seniority/pub/bigall.errInvalSep", laid_pub_seniority_pub_bigall_errInvalSep), ("pub-seniority/pub/scalibr/semantic.ErrInvalidVersion", laid_pub_seniority_pub_scalibr_semantic_ErrInvalidVersion), ("pub-seniority/pub/scalibr/semantic.ErrNotSameEcosystem", laid_pub_seniority_pub_scalibr_semantic_ErrNotSameEcosystem)], narrowed := true }
def FnRubyBehindUptoSaid : Prop := fnRubyBehindUptoRow.holds Tryd.pinned (OpenSpec.upto fnRubyBehindSpec)

/-- 'laws.FnRuby', WHERE WHAT IT READS IS OF BULK AT MOST 1048576: true; the input reads as it did. -/
def fnRubyUptoRow : OpenClaim := { program := "ytmhlmkefnmdbcaadoor", sum := "8ec009b264e397d6ceb33da261797aadf0d8240fea73fed5f983fff1fec35778", func := "pub-seniority/laws.FnRuby", spec := "fnRuby", inPlace := ["internal/abi.NoEscape", "math/bits.Add64", "internal/bytealg.abigen_runtime_cmpstring"], unfollowed := true, recurses := true, named := ["pub-seniority/pub/scalibr/semantic.ErrInvalidVersion", "io.EOF", "pub-seniority/pub/bigall.errInvalSep", "pub-seniority/pub/bigall.errNoDigits", "pub-seniority/pub/scalibr/semantic.ErrNotSameEcosystem"], apart := false, laid := [("io.EOF", laid_io_EOF), ("pub-seniority/pub/bigall.errNoDigits", laid_pub_seniority_pub_bigall_errNoDigits), ("pub-seniority/pub/bigall.errInvalSep", laid_pub_seniority_pub_bigall_errInvalSep), ("pub-seniority/pub/scalibr/semantic.ErrInvalidVersion", laid_pub_seniority_pub_scalibr_semantic_ErrInvalidVersion), ("pub-seniority/pub/scalibr/semantic.ErrNotSameEcosystem", laid_pub_seniority_pub_scalibr_semantic_ErrNotSameEcosystem)], narrowed := true }
def FnRubyUptoSaid : Prop := fnRubyUptoRow.holds Tryd.pinned (OpenSpec.upto fnRubySpec)

/-- 'laws.FnRubyRoads', WHERE WHAT IT READS IS OF BULK AT MOST 1048576: true; the input reads as it did. -/
def fnRubyRoadsUptoRow : OpenClaim := { program := "ytmhlmkefnmdbcaadoor", sum := "8ec009b264e397d6ceb33da261797aadf0d8240fea73fed5f983fff1fec35778", func := "pub-seniority/laws.FnRubyRoads", spec := "fnRubyRoads", inPlace := ["internal/abi.NoEscape", "math/bits.Add64", "internal/bytealg.abigen_runtime_cmpstring"], unfollowed := true, recurses := true, named := ["pub-seniority/pub/scalibr/semantic.ErrInvalidVersion", "io.EOF", "pub-seniority/pub/bigall.errInvalSep", "pub-seniority/pub/bigall.errNoDigits", "pub-seniority/pub/scalibr/semantic.ErrNotSameEcosystem"], apart := false, laid := [("io.EOF", laid_io_EOF), ("pub-seniority/pub/bigall.errNoDigits", laid_pub_seniority_pub_bigall_errNoDigits), ("pub-seniority/pub/bigall.errInvalSep", laid_pub_seniority_pub_bigall_errInvalSep), ("pub-seniority/pub/scalibr/semantic.ErrInvalidVersion", laid_pub_seniority_pub_scalibr_semantic_ErrInvalidVersion), ("pub-seniority/pub/scalibr/semantic.ErrNotSameEcosystem", laid_pub_seniority_pub_scalibr_semantic_ErrNotSameEcosystem)], narrowed := true }
def FnRubyRoadsUptoSaid : Prop := fnRubyRoadsUptoRow.holds Tryd.pinned (OpenSpec.upto fnRubyRoadsSpec)

end Rows
end Go.Proofs.YtmhlmkefnmdbcaaDoor
