/- What the door's list tells: io.EOF, errNoDigits and ErrInvalidVersion hold errors. -/
import Derived.Test.YtnbokeodgendkaaDoorGb
namespace Go.Proofs.YtnbokeodgendkaaDoor.Gw
open Go Go.RowKit
def GW (w : World) : Prop := ∃ a a2 a3, ErrAt gEOF a w ∧ ErrAt gND a2 w ∧ ErrAt gIV a3 w
theorem GW.below {w w' : World} (h : GW w) (b : Below w.heap.size w w') : GW w' := by
  obtain ⟨a, a2, a3, h1, h2, h3⟩ := h
  exact ⟨a, a2, a3, h1.below b, h2.below b, h3.below b⟩
theorem GW.nums {w : World} (h : GW w) : ∃ a a2, ErrAt gEOF a w ∧ ErrAt gND a2 w := by
  obtain ⟨a, a2, a3, h1, h2, h3⟩ := h
  exact ⟨a, a2, h1, h2⟩
end Go.Proofs.YtnbokeodgendkaaDoor.Gw
