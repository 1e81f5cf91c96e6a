-- Written by a program of this session (myprint.py).
import Derived.Test.YtfogdolfanfocaaDoorProg
import Derived.Test.YtfogdolfanfocaaDoorGw
import Derived.Below
import Derived.Deep.Draws
import Derived.Deep.AppendLies
import Derived.Maps.AppendAt
import Derived.OwnWalk
import Derived.Laws.BytesArg
import Derived.Laws.MakeOwn
import Derived.Laws.OwnMore
import Derived.Deep.OwnRows
import Derived.Tactics
import Derived.Lib.ConvBytes
import Derived.Laws.Slices
import Derived.WalkKit
import Derived.KernelRfl
import Derived.RowKit3
import Derived.Deep.LoopGhost
import Derived.Deep.QuietTactic
import Derived.BigQuiet
import Derived.WideLaws
import Derived.Deep.DeepCutAuto
import Derived.Deep.CutBlock
import Derived.Deep.RegionHeld3
import Derived.Laws.Rows
import Derived.Lib.AppendStr
import Derived.ArgAppend
import Derived.Laws.IdiomCopy
import Derived.OrdersHeld
import Derived.Laws.BitsLemmas
import Derived.RowKit
import Derived.Test.YtfogdolfanfocaaDoorWWords
import Derived.Test.YtfogdolfanfocaaDoorWLast
import Derived.Test.YtfogdolfanfocaaDoorWTab
import Derived.Test.YtfogdolfanfocaaDoorWFour
import Derived.Test.YtfogdolfanfocaaDoorWQPut
import Derived.Test.YtfogdolfanfocaaDoorWApart
import Derived.Test.YtfogdolfanfocaaDoorWArr
import Derived.Test.YtfogdolfanfocaaDoorWZeros
import Derived.Test.YtfogdolfanfocaaDoorWFoot
import Derived.Test.YtfogdolfanfocaaDoorWKept
import Derived.Test.YtfogdolfanfocaaDoorWShare
import Derived.Test.YtfogdolfanfocaaDoorWN
import Derived.Test.YtfogdolfanfocaaDoorWFootNe
import Derived.Test.YtfogdolfanfocaaDoorWAt
import Derived.Test.YtfogdolfanfocaaDoorWEqStruct
import Derived.Test.YtfogdolfanfocaaDoorWRepsOne
import Derived.Test.YtfogdolfanfocaaDoorWInv
import Derived.Test.YtfogdolfanfocaaDoorWInvWords
import Derived.Test.YtfogdolfanfocaaDoorWGuard
import Derived.Test.YtfogdolfanfocaaDoorWNEv
import Derived.Test.YtfogdolfanfocaaDoorWMore
namespace Go.Proofs.YtfogdolfanfocaaDoor.Z
open Go.Proofs.YtfogdolfanfocaaDoor.Gw
open Go.RowKit Go.Proofs.YtfogdolfanfocaaDoorW.PrintWords Go.Proofs.YtfogdolfanfocaaDoorW.PrintLast Go.Proofs.YtfogdolfanfocaaDoorW.PrintMore
attribute [local go_sem] max2_int min2_int max_two min_two max_three min_three max_four min_four   -- for this text's walks alone
set_option linter.unusedVariables false
set_option linter.unusedSimpArgs false



def errW : Option Int → Value
  | none => .nilIface
  | some c => .iface 0 (.int .i64 c)
theorem errW_none : errW none = .nilIface := rfl
theorem errW_some (c : Int) : errW (some c) = .iface 0 (.int .i64 c) := rfl

theorem info9 : (Tryd.prog.info? 9).map (fun i => (i.zero, i.size, i.bytes)) = some (some (.string ⟨#[]⟩), 1, 16) := by kernel_rfl
-- the values' own types

end Go.Proofs.YtfogdolfanfocaaDoor.Z
