-- Written by a program of this session (myprint.py).
import Derived.Test.YtondnpfncgcdkaaDoorProg
import Derived.Test.YtondnpfncgcdkaaDoorGk
import Derived.Below
import Derived.Deep.Draws
import Derived.Deep.AppendLies
import Derived.Maps.AppendAt
import Derived.OwnWalk
import Derived.Laws.BytesArg
import Derived.Laws.MakeOwn
import Derived.Laws.OwnMore
import Derived.Deep.OwnRows
import Derived.Tactics
import Derived.Lib.ConvBytes
import Derived.Laws.Slices
import Derived.WalkKit
import Derived.KernelRfl
import Derived.RowKit3
import Derived.Deep.LoopGhost
import Derived.Deep.QuietTactic
import Derived.BigQuiet
import Derived.WideLaws
import Derived.Deep.DeepCutAuto
import Derived.Deep.CutBlock
import Derived.Deep.RegionHeld3
import Derived.Laws.Rows
import Derived.Lib.AppendStr
import Derived.ArgAppend
import Derived.Laws.IdiomCopy
import Derived.OrdersHeld
import Derived.Laws.BitsLemmas
import Derived.RowKit
import Derived.Test.YtondnpfncgcdkaaDoorWW
import Derived.Test.YtondnpfncgcdkaaDoorGe
namespace Go.Proofs.YtondnpfncgcdkaaDoor.Z
open Go.Proofs.YtondnpfncgcdkaaDoor.Gw
open Go.RowKit Go.Proofs.YtondnpfncgcdkaaDoorW.PrintWords Go.Proofs.YtondnpfncgcdkaaDoorW.PrintLast Go.Proofs.YtondnpfncgcdkaaDoorW.PrintMore
attribute [local go_sem high] Go.Proofs.YtondnpfncgcdkaaDoor.Ge.gtr_str
attribute [local go_sem] max2_int min2_int max_two min_two max_three min_three max_four min_four   -- for this text's walks alone
set_option linter.unusedVariables false
set_option linter.unusedSimpArgs false



def errW : Option Int → Value
  | none => .nilIface
  | some c => .iface 0 (.int .i64 c)
theorem errW_none : errW none = .nilIface := rfl
theorem errW_some (c : Int) : errW (some c) = .iface 0 (.int .i64 c) := rfl

-- the values' own types
/-! #### struct type 23 -/
structure S23 where
  f0 : ByteArray
  f1 : ByteArray
  f2 : Bool
def k23 : Kd S23 := Kd.iso (Kd.pair Kd.string (Kd.pair Kd.string Kd.bool)) (fun x : S23 => (x.f0, x.f1, x.f2))
theorem k23_open {w : World} {x : S23} {cs : List Value} (h : k23.K w x cs) : cs = [.string x.f0, .string x.f1, .bool x.f2] := by
  obtain ⟨_, _, rfl, rfl, ⟨_, _, rfl, rfl, rfl⟩⟩ := h
  exact rfl
end Go.Proofs.YtondnpfncgcdkaaDoor.Z
