/- What the door's list tells: io.EOF, errNoDigits and ErrInvalidVersion hold errors. -/
import Derived.Test.YtipfmkfpaglkkaaGreatDoorGb
namespace Go.Proofs.YtipfmkfpaglkkaaGreatDoor.Gw
open Go Go.RowKit
abbrev GW (w : World) : Prop := GW3 w
theorem GW.below {w w' : World} (h : GW w) (b : Below w.heap.size w w') : GW w' := GW3.below h b
end Go.Proofs.YtipfmkfpaglkkaaGreatDoor.Gw
