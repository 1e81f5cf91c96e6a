/- The door's list gives the errors io.EOF, errNoDigits and ErrInvalidVersion, and strconv.ErrSyntax, strconv.ErrRange. -/
import Derived.Test.YtifneobfjadnkaaDoorGp
import Derived.Test.YtifneobfjadnkaaDoorLv
import Derived.Test.YtifneobfjadnkaaDoorRows
import Derived.KernelRfl
namespace Go.Proofs.YtifneobfjadnkaaDoor.Gw
open Go Go.RowKit Go.ChangeShapes
theorem star_es : "*" ++ "errors.errorString" = "*errors.errorString" := by decide
theorem ptr_named (u : TypeId) (h : Tryd.prog.typeName? 3 u = some "*errors.errorString") : u = 88 :=
  typeName_ptr_named (nm := "errors.errorString") (by rw [star_es]; kernel_rfl) (by kernel_rfl) (by decide) u (by rw [star_es]; exact h)
theorem gw_of {W : World} {l : List (String × DataW Unit)} (h : laidMet Tryd.prog l W) (h1 : ("io.EOF", Rows.laid_io_EOF) ∈ l) (h2 : ("pub-seniority/pub/bigall.errNoDigits", Rows.laid_pub_seniority_pub_bigall_errNoDigits) ∈ l) (h3 : ("pub-seniority/pub/scalibr/semantic.ErrInvalidVersion", Rows.laid_pub_seniority_pub_scalibr_semantic_ErrInvalidVersion) ∈ l) (h4 : ("strconv.ErrSyntax", Rows.laid_strconv_ErrSyntax) ∈ l) (h5 : ("strconv.ErrRange", Rows.laid_strconv_ErrRange) ∈ l) : GW W := by
  obtain ⟨a, e1⟩ := Lv.err_of (g := gEOF) (ti := 36) (by kernel_rfl) (by kernel_rfl) Tryd.underlying36 ptr_named Tryd.underlying88 Tryd.underlying90 rfl rfl Tryd.underlying9 (by kernel_rfl) (by kernel_rfl) l h h1
  obtain ⟨a2, e2⟩ := Lv.err_of (g := gND) (ti := 36) (by kernel_rfl) (by kernel_rfl) Tryd.underlying36 ptr_named Tryd.underlying88 Tryd.underlying90 rfl rfl Tryd.underlying9 (by kernel_rfl) (by kernel_rfl) l h h2
  obtain ⟨a3, e3⟩ := Lv.err_of (g := gIV) (ti := 36) (by kernel_rfl) (by kernel_rfl) Tryd.underlying36 ptr_named Tryd.underlying88 Tryd.underlying90 rfl rfl Tryd.underlying9 (by kernel_rfl) (by kernel_rfl) l h h3
  obtain ⟨a4, e4⟩ := Lv.err_of (g := gSyn) (ti := 36) (by kernel_rfl) (by kernel_rfl) Tryd.underlying36 ptr_named Tryd.underlying88 Tryd.underlying90 rfl rfl Tryd.underlying9 (by kernel_rfl) (by kernel_rfl) l h h4
  obtain ⟨a5, e5⟩ := Lv.err_of (g := gRng) (ti := 36) (by kernel_rfl) (by kernel_rfl) Tryd.underlying36 ptr_named Tryd.underlying88 Tryd.underlying90 rfl rfl Tryd.underlying9 (by kernel_rfl) (by kernel_rfl) l h h5
  exact ⟨⟨a, a2, a3, e1, e2, e3⟩, a4, a5, e4, e5⟩
end Go.Proofs.YtifneobfjadnkaaDoor.Gw
