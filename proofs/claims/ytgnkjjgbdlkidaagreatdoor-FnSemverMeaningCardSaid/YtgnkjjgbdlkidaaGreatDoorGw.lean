/- What the door's list tells: io.EOF, errNoDigits and ErrInvalidVersion hold errors. -/
import Derived.Test.YtgnkjjgbdlkidaaGreatDoorGb
namespace Go.Proofs.YtgnkjjgbdlkidaaGreatDoor.Gw
open Go Go.RowKit
abbrev GW (w : World) : Prop := GW3 w
theorem GW.below {w w' : World} (h : GW w) (b : Below w.heap.size w w') : GW w' := GW3.below h b
end Go.Proofs.YtgnkjjgbdlkidaaGreatDoor.Gw
