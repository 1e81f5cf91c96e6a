/- What a list of laid data tells of an error that a package lays: its variable holds one. -/
import Derived.Test.YtnbokeodgendkaaDoorProg
import Derived.Below
namespace Go.Proofs.YtnbokeodgendkaaDoor.Gw
open Go Go.RowKit
abbrev gEOF : Nat := 2
abbrev gND : Nat := 5
abbrev gIV : Nat := 1
/-- The variable holds an error of errors.New. -/
def ErrAt (g : Nat) (a : Addr) (w : World) : Prop := w.cell? ⟨g, 0, none⟩ = some (.iface 166 (.pointer (some a)))
theorem ErrAt.lt {g : Nat} {a : Addr} {w : World} (h : ErrAt g a w) : g < w.heap.size := World.block_lt_of_cell? w _ h
theorem ErrAt.below {g : Nat} {a : Addr} {w w' : World} (h : ErrAt g a w) (b : Below w.heap.size w w') : ErrAt g a w' := (b.cell (p := ⟨g, 0, none⟩) h.lt).trans h
end Go.Proofs.YtnbokeodgendkaaDoor.Gw
