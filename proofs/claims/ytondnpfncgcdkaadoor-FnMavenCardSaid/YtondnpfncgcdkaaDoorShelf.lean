/-
  DERIVED: THE SHELF's CONTRACTS AT THIS DUMP, IN PLAIN WORDS (tools/lay-plain.mjs out of 'TrydShelf.lean', which tools/lay-shelf.mjs wrote): THE SAME DECLARATIONS UNDER THE SAME NAMES: 'import', 'namespace', 'open', 'def', 'theorem' AND NOTHING ELSE: no command of the shelf's: FOR A HAND-IN. Each laying: the table of numbers ('.._ren') and one theorem, a field a fact of the dump's own or the kernel's comparison; each contract: ONE APPLICATION.
-/
import Derived.Shelf.Bits.Mul64
import Derived.Test.YtondnpfncgcdkaaDoorProg
namespace Go.Proofs
open Go.Shelf
def Tryd.lays212_ren : Go.Shelf.Ren := ⟨fun | 212 => 88 | 263 => 90 | 264 => 91 | n => n, fun | 46 => 113 | 51 => 133 | 146 => 152 | 53 => 116 | 148 => 154 | n => n, fun | n => n⟩
theorem Tryd.lays212 : Go.Proofs.Lays.n212 Tryd.prog Tryd.lays212_ren := {
  mixed := by kernel_rfl
  f212 := Tryd.func88.trans (congrArg some (by kernel_rfl))
  f263 := Tryd.func90.trans (congrArg some (by kernel_rfl))
  f264 := Tryd.func91.trans (congrArg some (by kernel_rfl))
  t46 := Tryd.underlying113
  a46 := Tryd.isAgg113
  z46 := Tryd.sizeOf113
  v46 := Tryd.zeroValue113
  t51 := Tryd.underlying133
  a51 := Tryd.isAgg133
  z51 := Tryd.sizeOf133
  v51 := Tryd.zeroValue133
  t53 := Tryd.underlying116
  a53 := Tryd.isAgg116
  z53 := Tryd.sizeOf116
  v53 := Tryd.zeroValue116
  t146 := Tryd.underlying152
  a146 := Tryd.isAgg152
  z146 := Tryd.sizeOf152
  v146 := Tryd.zeroValue152
  t148 := Tryd.underlying154
  a148 := Tryd.isAgg154
  z148 := Tryd.sizeOf154
  v148 := Tryd.zeroValue154 }
open Go.RowKit Go.Lib in
/-- math/bits.Mul: "Mul returns the full-width product of x and y": on a machine of 64 bits: Mul64's. (LAID: no walk: one application.) -/
theorem Tryd.bits_Mul (x y : Nat) (hx : x < 18446744073709551616) (hy : y < 18446744073709551616) (w : World) :
    Calls Tryd.prog 88 #[.int .u64 x, .int .u64 y] w fun e w' => e = .returned (.tuple #[.int .u64 ((x * y / 18446744073709551616 : Nat) : Int), .int .u64 ((x * y % 18446744073709551616 : Nat) : Int)]) ∧ w' = w := Any.bits_Mul Tryd.lays212 x y hx hy w
end Go.Proofs
