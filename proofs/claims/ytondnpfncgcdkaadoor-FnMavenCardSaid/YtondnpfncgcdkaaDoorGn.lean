/- The door's list gives the errors io.EOF, errNoDigits and ErrInvalidVersion, and keywordOrder's words. -/
import Derived.Test.YtondnpfncgcdkaaDoorGk
import Derived.Test.YtondnpfncgcdkaaDoorLv
import Derived.Test.YtondnpfncgcdkaaDoorRows
import Derived.KernelRfl
namespace Go.Proofs.YtondnpfncgcdkaaDoor.Gw
open Go Go.RowKit Go.ChangeShapes
theorem star_es : "*" ++ "errors.errorString" = "*errors.errorString" := by decide
theorem ptr_named (u : TypeId) (h : Tryd.prog.typeName? 3 u = some "*errors.errorString") : u = 158 :=
  typeName_ptr_named (nm := "errors.errorString") (by rw [star_es]; kernel_rfl) (by kernel_rfl) (by decide) u (by rw [star_es]; exact h)
theorem gw_of {W : World} {l : List (String × DataW Unit)} (h : laidMet Tryd.prog l W) (h1 : ("io.EOF", Rows.laid_io_EOF) ∈ l) (h2 : ("pub-seniority/pub/bigall.errNoDigits", Rows.laid_pub_seniority_pub_bigall_errNoDigits) ∈ l) (h3 : ("pub-seniority/pub/scalibr/semantic.ErrInvalidVersion", Rows.laid_pub_seniority_pub_scalibr_semantic_ErrInvalidVersion) ∈ l) (h4 : ("pub-seniority/pub/scalibr/semantic.keywordOrder", Rows.laid_pub_seniority_pub_scalibr_semantic_keywordOrder) ∈ l) : GW W := by
  obtain ⟨a, e1⟩ := Lv.err_of (g := gEOF) (ti := 50) (by kernel_rfl) (by kernel_rfl) Tryd.underlying50 ptr_named Tryd.underlying158 Tryd.underlying177 rfl rfl Tryd.underlying9 (by kernel_rfl) (by kernel_rfl) l h h1
  obtain ⟨a2, e2⟩ := Lv.err_of (g := gND) (ti := 50) (by kernel_rfl) (by kernel_rfl) Tryd.underlying50 ptr_named Tryd.underlying158 Tryd.underlying177 rfl rfl Tryd.underlying9 (by kernel_rfl) (by kernel_rfl) l h h2
  obtain ⟨a3, e3⟩ := Lv.err_of (g := gIV) (ti := 50) (by kernel_rfl) (by kernel_rfl) Tryd.underlying50 ptr_named Tryd.underlying158 Tryd.underlying177 rfl rfl Tryd.underlying9 (by kernel_rfl) (by kernel_rfl) l h h3
  obtain ⟨b, k1, k2⟩ := Lv.strings_of (ss := kws) (Lv.of_laid h h4) (g := 0) (by kernel_rfl) (t := 36) (by kernel_rfl) Tryd.underlying36 Tryd.underlying9 (by kernel_rfl)
  exact ⟨⟨a, a2, a3, e1, e2, e3⟩, b, 7, k1, k2⟩
end Go.Proofs.YtondnpfncgcdkaaDoor.Gw
