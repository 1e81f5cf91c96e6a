/- The door's list gives the words of keywordOrder. -/
import Derived.Test.YtfogdolfanfocaaDoorGw
import Derived.Test.YtfogdolfanfocaaDoorLv
import Derived.Test.YtfogdolfanfocaaDoorRows
namespace Go.Proofs.YtfogdolfanfocaaDoor.Gw
open Go Go.RowKit Go.ChangeShapes
theorem gw_of {W : World} {l : List (String × DataW Unit)} (h : laidMet Tryd.prog l W) (hm : ("pub-seniority/pub/scalibr/semantic.keywordOrder", Rows.laid_pub_seniority_pub_scalibr_semantic_keywordOrder) ∈ l) : GW W := by
  obtain ⟨a, h1, h2⟩ := Lv.strings_of (ss := kws) (Lv.of_laid h hm) (g := 0) (by kernel_rfl) (t := 25) (by kernel_rfl) Tryd.underlying25 Tryd.underlying9 (by kernel_rfl)
  exact ⟨a, 7, h1, h2⟩
end Go.Proofs.YtfogdolfanfocaaDoor.Gw
