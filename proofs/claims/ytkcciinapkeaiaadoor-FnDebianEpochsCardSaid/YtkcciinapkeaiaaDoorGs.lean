/- What the door's list tells: io.EOF, errNoDigits and ErrInvalidVersion hold errors; strings.asciiSpace is the table of blanks. -/
import Derived.Test.YtkcciinapkeaiaaDoorGb
import Derived.Lib.LaidTab
import Derived.Lib.Space
import Derived.Lib.SmallJoins
import Derived.KernelRfl
namespace Go.Proofs.YtkcciinapkeaiaaDoor.Gw
open Go Go.RowKit
def SPC (w : World) : Prop := Lib.TabIs Tryd.prog w "strings.asciiSpace" .u8 Lib.asciiSpaceTab
theorem SPC.below {w w' : World} (h : SPC w) (b : Below w.heap.size w w') : SPC w' := Joins.tab_stays (g := 1) (by kernel_rfl) h b (Nat.le_refl _)
def GW (w : World) : Prop := GW3 w ∧ SPC w
theorem GW.below {w w' : World} (h : GW w) (b : Below w.heap.size w w') : GW w' := ⟨GW3.below h.1 b, SPC.below h.2 b⟩
end Go.Proofs.YtkcciinapkeaiaaDoor.Gw
