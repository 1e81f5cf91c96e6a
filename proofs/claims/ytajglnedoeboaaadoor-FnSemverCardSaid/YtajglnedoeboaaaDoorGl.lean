/- The door's list gives the errors io.EOF, errNoDigits and ErrInvalidVersion. -/
import Derived.Test.YtajglnedoeboaaaDoorGw
import Derived.Test.YtajglnedoeboaaaDoorLv
import Derived.Test.YtajglnedoeboaaaDoorRows
import Derived.KernelRfl
namespace Go.Proofs.YtajglnedoeboaaaDoor.Gw
open Go Go.RowKit Go.ChangeShapes
theorem star_es : "*" ++ "errors.errorString" = "*errors.errorString" := by decide
theorem ptr_named (u : TypeId) (h : Tryd.prog.typeName? 3 u = some "*errors.errorString") : u = 163 :=
  typeName_ptr_named (nm := "errors.errorString") (by rw [star_es]; kernel_rfl) (by kernel_rfl) (by decide) u (by rw [star_es]; exact h)
theorem gw_of {W : World} {l : List (String × DataW Unit)} (h : laidMet Tryd.prog l W) (h1 : ("io.EOF", Rows.laid_io_EOF) ∈ l) (h2 : ("pub-seniority/pub/bigall.errNoDigits", Rows.laid_pub_seniority_pub_bigall_errNoDigits) ∈ l) (h3 : ("pub-seniority/pub/scalibr/semantic.ErrInvalidVersion", Rows.laid_pub_seniority_pub_scalibr_semantic_ErrInvalidVersion) ∈ l) : GW W := by
  obtain ⟨a, e1⟩ := Lv.err_of (g := gEOF) (ti := 52) (by kernel_rfl) (by kernel_rfl) Tryd.underlying52 ptr_named Tryd.underlying163 Tryd.underlying181 rfl rfl Tryd.underlying9 (by kernel_rfl) (by kernel_rfl) l h h1
  obtain ⟨a2, e2⟩ := Lv.err_of (g := gND) (ti := 52) (by kernel_rfl) (by kernel_rfl) Tryd.underlying52 ptr_named Tryd.underlying163 Tryd.underlying181 rfl rfl Tryd.underlying9 (by kernel_rfl) (by kernel_rfl) l h h2
  obtain ⟨a3, e3⟩ := Lv.err_of (g := gIV) (ti := 52) (by kernel_rfl) (by kernel_rfl) Tryd.underlying52 ptr_named Tryd.underlying163 Tryd.underlying181 rfl rfl Tryd.underlying9 (by kernel_rfl) (by kernel_rfl) l h h3
  exact ⟨a, a2, a3, e1, e2, e3⟩
end Go.Proofs.YtajglnedoeboaaaDoor.Gw
