/- What a list of laid data tells of an error that a package lays: its variable holds one. -/
import Derived.Test.YtipfmkfpaglkkaaGreatDoorProg
import Derived.Below
namespace Go.Proofs.YtipfmkfpaglkkaaGreatDoor.Gw
open Go Go.RowKit
abbrev gEOF : Nat := 2
abbrev gND : Nat := 4
abbrev gIV : Nat := 0
/-- The variable holds an error of errors.New. -/
def ErrAt (g : Nat) (a : Addr) (w : World) : Prop := w.cell? ⟨g, 0, none⟩ = some (.iface 156 (.pointer (some a)))
theorem ErrAt.lt {g : Nat} {a : Addr} {w : World} (h : ErrAt g a w) : g < w.heap.size := World.block_lt_of_cell? w _ h
theorem ErrAt.below {g : Nat} {a : Addr} {w w' : World} (h : ErrAt g a w) (b : Below w.heap.size w w') : ErrAt g a w' := (b.cell (p := ⟨g, 0, none⟩) h.lt).trans h
def GW3 (w : World) : Prop := ∃ a a2 a3, ErrAt gEOF a w ∧ ErrAt gND a2 w ∧ ErrAt gIV a3 w
theorem GW3.below {w w' : World} (h : GW3 w) (b : Below w.heap.size w w') : GW3 w' := by
  obtain ⟨a, a2, a3, h1, h2, h3⟩ := h
  exact ⟨a, a2, a3, h1.below b, h2.below b, h3.below b⟩
def GW2 (w : World) : Prop := ∃ a a2, ErrAt gEOF a w ∧ ErrAt gND a2 w
theorem GW2.below {w w' : World} (h : GW2 w) (b : Below w.heap.size w w') : GW2 w' := by
  obtain ⟨a, a2, h1, h2⟩ := h
  exact ⟨a, a2, h1.below b, h2.below b⟩
theorem GW3.two {w : World} (h : GW3 w) : GW2 w := by
  obtain ⟨a, a2, a3, h1, h2, h3⟩ := h
  exact ⟨a, a2, h1, h2⟩
end Go.Proofs.YtipfmkfpaglkkaaGreatDoor.Gw
