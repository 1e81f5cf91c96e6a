/- The door's list gives the errors io.EOF, errNoDigits and ErrInvalidVersion. -/
import Derived.Test.YtipfmkfpaglkkaaGreatDoorGw
import Derived.Test.YtipfmkfpaglkkaaGreatDoorLv
import Derived.Test.YtipfmkfpaglkkaaGreatDoorRows
import Derived.KernelRfl
namespace Go.Proofs.YtipfmkfpaglkkaaGreatDoor.Gw
open Go Go.RowKit Go.ChangeShapes
theorem star_es : "*" ++ "errors.errorString" = "*errors.errorString" := by decide
theorem ptr_named (u : TypeId) (h : Tryz.prog.typeName? 3 u = some "*errors.errorString") : u = 156 :=
  typeName_ptr_named (nm := "errors.errorString") (by rw [star_es]; kernel_rfl) (by kernel_rfl) (by decide) u (by rw [star_es]; exact h)
theorem gw_of {W : World} {l : List (String × DataW Unit)} (h : laidMet Tryz.prog l W) (h1 : ("io.EOF", Rows.laid_io_EOF) ∈ l) (h2 : ("pub-seniority/pub/bigall.errNoDigits", Rows.laid_pub_seniority_pub_bigall_errNoDigits) ∈ l) (h3 : ("pub-seniority/pub/scalibr/semantic.ErrInvalidVersion", Rows.laid_pub_seniority_pub_scalibr_semantic_ErrInvalidVersion) ∈ l) : GW W := by
  obtain ⟨a, e1⟩ := Lv.err_of (g := gEOF) (ti := 84) (by kernel_rfl) (by kernel_rfl) Tryz.underlying84 ptr_named Tryz.underlying156 Tryz.underlying172 rfl rfl Tryz.underlying9 (by kernel_rfl) (by kernel_rfl) l h h1
  obtain ⟨a2, e2⟩ := Lv.err_of (g := gND) (ti := 84) (by kernel_rfl) (by kernel_rfl) Tryz.underlying84 ptr_named Tryz.underlying156 Tryz.underlying172 rfl rfl Tryz.underlying9 (by kernel_rfl) (by kernel_rfl) l h h2
  obtain ⟨a3, e3⟩ := Lv.err_of (g := gIV) (ti := 84) (by kernel_rfl) (by kernel_rfl) Tryz.underlying84 ptr_named Tryz.underlying156 Tryz.underlying172 rfl rfl Tryz.underlying9 (by kernel_rfl) (by kernel_rfl) l h h3
  exact ⟨a, a2, a3, e1, e2, e3⟩
end Go.Proofs.YtipfmkfpaglkkaaGreatDoor.Gw
