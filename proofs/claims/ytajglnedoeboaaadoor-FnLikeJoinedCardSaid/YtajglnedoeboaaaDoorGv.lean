/- What the door's list tells: io.EOF and errNoDigits hold errors. -/
import Derived.Test.YtajglnedoeboaaaDoorGb
namespace Go.Proofs.YtajglnedoeboaaaDoor.Gw
open Go Go.RowKit
abbrev GW (w : World) : Prop := GW2 w
theorem GW.below {w w' : World} (h : GW w) (b : Below w.heap.size w w') : GW w' := GW2.below h b
end Go.Proofs.YtajglnedoeboaaaDoor.Gw
