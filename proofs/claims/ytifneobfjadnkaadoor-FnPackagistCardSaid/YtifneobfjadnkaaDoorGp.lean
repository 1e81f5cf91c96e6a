/- What the door's list tells: io.EOF, errNoDigits, ErrInvalidVersion, strconv.ErrSyntax and strconv.ErrRange hold errors. -/
import Derived.Test.YtifneobfjadnkaaDoorGb
namespace Go.Proofs.YtifneobfjadnkaaDoor.Gw
open Go Go.RowKit
abbrev gSyn : Nat := 2
abbrev gRng : Nat := 3
def GW (w : World) : Prop := GW3 w ∧ ∃ a b, ErrAt gSyn a w ∧ ErrAt gRng b w
theorem GW.below {w w' : World} (h : GW w) (b : Below w.heap.size w w') : GW w' := by
  obtain ⟨h1, a, c, h2, h3⟩ := h
  exact ⟨GW3.below h1 b, a, c, h2.below b, h3.below b⟩
end Go.Proofs.YtifneobfjadnkaaDoor.Gw
