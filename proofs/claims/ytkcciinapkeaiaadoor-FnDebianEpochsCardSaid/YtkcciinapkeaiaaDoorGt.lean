/- The door's list gives the errors io.EOF, errNoDigits and ErrInvalidVersion, and strings.asciiSpace. -/
import Derived.Test.YtkcciinapkeaiaaDoorGs
import Derived.Test.YtkcciinapkeaiaaDoorLv
import Derived.Test.YtkcciinapkeaiaaDoorRows
import Derived.KernelRfl
import Derived.Lib.LaidTab
namespace Go.Proofs.YtkcciinapkeaiaaDoor.Gw
open Go Go.RowKit Go.ChangeShapes
theorem star_es : "*" ++ "errors.errorString" = "*errors.errorString" := by decide
theorem ptr_named (u : TypeId) (h : Tryd.prog.typeName? 3 u = some "*errors.errorString") : u = 167 :=
  typeName_ptr_named (nm := "errors.errorString") (by rw [star_es]; kernel_rfl) (by kernel_rfl) (by decide) u (by rw [star_es]; exact h)
theorem sp_data : (Rows.laid_strings_asciiSpace : DataW Unit) = Lib.tabData .u8 Lib.asciiSpaceTab := by kernel_rfl
theorem sp_of {W : World} (h : Lv.VarR Tryd.prog W "strings.asciiSpace" Rows.laid_strings_asciiSpace) : SPC W := by
  obtain ⟨g, t, cs, fuel, p, h1, h2, h3, h4⟩ := h
  have hg : Tryd.prog.globalNamed "strings.asciiSpace" = some 1 := by kernel_rfl
  obtain rfl : 1 = g := Option.some.inj (hg.symm.trans h1)
  have ht : (Tryd.prog.globals[1]?).map (·.type) = some 82 := by kernel_rfl
  obtain rfl : 82 = t := Option.some.inj (ht.symm.trans h2)
  rw [sp_data] at h4
  have := Lib.cells_of_tab (n := 256) (e := 5) (by kernel_rfl) (by kernel_rfl) (by kernel_rfl) (by kernel_rfl) h4
  show W.var? Tryd.prog "strings.asciiSpace" = _
  rw [h3, ← this]
theorem gw_of {W : World} {l : List (String × DataW Unit)} (h : laidMet Tryd.prog l W) (h1 : ("io.EOF", Rows.laid_io_EOF) ∈ l) (h2 : ("pub-seniority/pub/bigall.errNoDigits", Rows.laid_pub_seniority_pub_bigall_errNoDigits) ∈ l) (h3 : ("pub-seniority/pub/scalibr/semantic.ErrInvalidVersion", Rows.laid_pub_seniority_pub_scalibr_semantic_ErrInvalidVersion) ∈ l) (h4 : ("strings.asciiSpace", Rows.laid_strings_asciiSpace) ∈ l) : GW W := by
  obtain ⟨a, e1⟩ := Lv.err_of (g := gEOF) (ti := 52) (by kernel_rfl) (by kernel_rfl) Tryd.underlying52 ptr_named Tryd.underlying167 Tryd.underlying184 rfl rfl Tryd.underlying9 (by kernel_rfl) (by kernel_rfl) l h h1
  obtain ⟨a2, e2⟩ := Lv.err_of (g := gND) (ti := 52) (by kernel_rfl) (by kernel_rfl) Tryd.underlying52 ptr_named Tryd.underlying167 Tryd.underlying184 rfl rfl Tryd.underlying9 (by kernel_rfl) (by kernel_rfl) l h h2
  obtain ⟨a3, e3⟩ := Lv.err_of (g := gIV) (ti := 52) (by kernel_rfl) (by kernel_rfl) Tryd.underlying52 ptr_named Tryd.underlying167 Tryd.underlying184 rfl rfl Tryd.underlying9 (by kernel_rfl) (by kernel_rfl) l h h3
  exact ⟨⟨a, a2, a3, e1, e2, e3⟩, sp_of (Lv.of_laid h h4)⟩
end Go.Proofs.YtkcciinapkeaiaaDoor.Gw
