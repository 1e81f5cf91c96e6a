/- What the door's list tells: io.EOF, errNoDigits and ErrInvalidVersion hold errors; keywordOrder's seven words lie in memory. -/
import Derived.Test.YtondnpfncgcdkaaDoorGb
namespace Go.Proofs.YtondnpfncgcdkaaDoor.Gw
open Go Go.RowKit
/-- The known qualifiers, in their order. -/
def kws : List ByteArray := [⟨#[97, 108, 112, 104, 97]⟩, ⟨#[98, 101, 116, 97]⟩, ⟨#[109, 105, 108, 101, 115, 116, 111, 110, 101]⟩, ⟨#[114, 99]⟩, ⟨#[115, 110, 97, 112, 115, 104, 111, 116]⟩, ⟨#[]⟩, ⟨#[115, 112]⟩]
def kwAt (i : Nat) : ByteArray := kws.getD i ByteArray.empty
def KW (w : World) : Prop := ∃ a c, w.cell? ⟨0, 0, none⟩ = some (.slice (some a) 7 c) ∧ ∀ i : Nat, i < 7 → w.cell? (a.add i) = some (.string (kwAt i))
theorem KW.below {w w' : World} (h : KW w) (b : Below w.heap.size w w') : KW w' := by
  obtain ⟨a, c, h1, h2⟩ := h
  exact ⟨a, c, (b.cell (World.block_lt_of_cell? w _ h1)).trans h1, fun i hi => (b.cell (World.block_lt_of_cell? w _ (h2 i hi))).trans (h2 i hi)⟩
def GW (w : World) : Prop := GW3 w ∧ KW w
theorem GW.below {w w' : World} (h : GW w) (b : Below w.heap.size w w') : GW w' := ⟨GW3.below h.1 b, KW.below h.2 b⟩
theorem kw {w : World} (h : GW w) : KW w := h.2
end Go.Proofs.YtondnpfncgcdkaaDoor.Gw
