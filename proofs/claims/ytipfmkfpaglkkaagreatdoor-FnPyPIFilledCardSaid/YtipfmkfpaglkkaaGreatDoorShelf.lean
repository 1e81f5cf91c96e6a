/-
  DERIVED: THE SHELF's CONTRACTS AT THIS DUMP, IN PLAIN WORDS (tools/lay-plain.mjs out of 'TryzShelf.lean', which tools/lay-shelf.mjs wrote): THE SAME DECLARATIONS UNDER THE SAME NAMES: 'import', 'namespace', 'open', 'def', 'theorem' AND NOTHING ELSE: no command of the shelf's: FOR A HAND-IN. Each laying: the table of numbers ('.._ren') and one theorem, a field a fact of the dump's own or the kernel's comparison; each contract: ONE APPLICATION.
-/
import Derived.Shelf.Strings.Builder1
import Derived.Shelf.Strings.Builder2
import Derived.Shelf.Strings.OnBuilder
import Derived.Shelf.Small.Strs
import Derived.Shelf.Strings.BuilderF
import Derived.Shelf.Strings.BuilderK
import Derived.Shelf.Strings.Builder2Cap
import Derived.Shelf.Bits.Mul64
import Derived.Shelf.Strings.BuilderCap
import Derived.Test.YtipfmkfpaglkkaaGreatDoorProg
namespace Go.Proofs
open Go.Shelf
def Tryz.lays156_ren : Go.Shelf.Ren := ⟨fun | 156 => 62 | 165 => 70 | 166 => 71 | 169 => 72 | 240 => 81 | 241 => 82 | 276 => 87 | 277 => 88 | n => n, fun | 31 => 27 | 9 => 9 | 3 => 3 | 4 => 4 | 0 => 0 | 20 => 20 | 72 => 96 | 76 => 98 | 70 => 94 | 37 => 81 | 75 => 84 | 127 => 112 | 164 => 126 | 5 => 5 | 80 => 100 | n => n, fun | n => n⟩
theorem Tryz.lays156 : Go.Proofs.Lays.n156 Tryz.prog Tryz.lays156_ren := {
  mixed := by kernel_rfl
  f156 := Tryz.func62.trans (congrArg some (by kernel_rfl))
  f165 := Tryz.func70.trans (congrArg some (by kernel_rfl))
  f166 := Tryz.func71.trans (congrArg some (by kernel_rfl))
  f169 := Tryz.func72.trans (congrArg some (by kernel_rfl))
  f240 := Tryz.func81.trans (congrArg some (by kernel_rfl))
  f241 := Tryz.func82.trans (congrArg some (by kernel_rfl))
  f276 := Tryz.func87.trans (congrArg some (by kernel_rfl))
  f277 := Tryz.func88.trans (congrArg some (by kernel_rfl))
  t0 := Tryz.underlying0
  a0 := Tryz.isAgg0
  z0 := Tryz.sizeOf0
  v0 := Tryz.zeroValue0
  t3 := Tryz.underlying3
  a3 := Tryz.isAgg3
  z3 := Tryz.sizeOf3
  v3 := Tryz.zeroValue3
  t4 := Tryz.underlying4
  a4 := Tryz.isAgg4
  z4 := Tryz.sizeOf4
  v4 := Tryz.zeroValue4
  t9 := Tryz.underlying9
  a9 := Tryz.isAgg9
  z9 := Tryz.sizeOf9
  v9 := Tryz.zeroValue9
  t20 := Tryz.underlying20
  a20 := Tryz.isAgg20
  z20 := Tryz.sizeOf20
  v20 := Tryz.zeroValue20
  t31 := Tryz.underlying27
  a31 := Tryz.isAgg27
  z31 := Tryz.sizeOf27
  v31 := Tryz.zeroValue27
  t37 := Tryz.underlying81
  a37 := Tryz.isAgg81
  z37 := Tryz.sizeOf81
  v37 := Tryz.zeroValue81
  t70 := Tryz.underlying94
  a70 := Tryz.isAgg94
  z70 := Tryz.sizeOf94
  v70 := Tryz.zeroValue94
  t72 := Tryz.underlying96
  a72 := Tryz.isAgg96
  z72 := Tryz.sizeOf96
  v72 := Tryz.zeroValue96
  t75 := Tryz.underlying84
  a75 := Tryz.isAgg84
  z75 := Tryz.sizeOf84
  v75 := Tryz.zeroValue84
  t76 := Tryz.underlying98
  a76 := Tryz.isAgg98
  z76 := Tryz.sizeOf98
  v76 := Tryz.zeroValue98
  t127 := Tryz.underlying112
  a127 := Tryz.isAgg112
  z127 := Tryz.sizeOf112
  v127 := Tryz.zeroValue112
  t164 := Tryz.underlying126
  a164 := Tryz.isAgg126
  z164 := Tryz.sizeOf126
  v164 := Tryz.zeroValue126 }
theorem Tryz.Builder_Extra_156 : Builder.Extra Tryz.prog Tryz.lays156_ren := {
  sizeBuilder := by kernel_rfl
  liesBuilder := by kernel_rfl
  t5 := Tryz.underlying5
  a5 := Tryz.isAgg5
  z5 := Tryz.sizeOf5
  v5 := Tryz.zeroValue5
  infoByte := by kernel_rfl
  cellsByte := by kernel_rfl
  sizeByte := by kernel_rfl
  neB5 := by decide }
open Go.RowKit in
/-- strings.Join: "Join concatenates the elements of its first argument to create a single string. The separator string sep is placed between elements in the resulting string.": HOWEVER MANY ELEMENTS. Below the heap's end the world is as it was. (LAID: no walk: one application.) -/
theorem Tryz.strings_Join (bk o c : Nat) (xs : List ByteArray) (sep : ByteArray) (w : World) (hcells : ∀ (j : Nat) x, xs[j]? = some x → w.cell? ⟨bk, o + j, none⟩ = some (.string x)) (hbk : bk < w.heap.size) (hN : xs.length ≤ 140737488355328) (hcap : xs.length ≤ c) (hlen : (Lib.join (xs.map (·.data.toList)) sep.data.toList).length ≤ 140737488355328) :
    Calls Tryz.prog 62 #[.slice (some ⟨bk, o, none⟩) xs.length c, .string sep] w fun e w' => e = .returned (.string ⟨(Lib.join (xs.map (·.data.toList)) sep.data.toList).toArray⟩) ∧ Below w.heap.size w w' := Any.strings_Join Tryz.lays156 Tryz.Builder_Extra_156 bk o c xs sep w hcells hbk hN hcap hlen
def Tryz.lays106_ren : Go.Shelf.Ren := ⟨fun | 106 => 61 | 213 => 69 | 265 => 80 | n => n, fun | 9 => 9 | 3 => 3 | n => n, fun | n => n⟩
theorem Tryz.lays106 : Go.Proofs.Lays.n106 Tryz.prog Tryz.lays106_ren := {
  mixed := by kernel_rfl
  f106 := Tryz.func61.trans (congrArg some (by kernel_rfl))
  f213 := Tryz.func69.trans (congrArg some (by kernel_rfl))
  f265 := Tryz.func80.trans (congrArg some (by kernel_rfl))
  t3 := Tryz.underlying3
  a3 := Tryz.isAgg3
  z3 := Tryz.sizeOf3
  v3 := Tryz.zeroValue3
  t9 := Tryz.underlying9
  a9 := Tryz.isAgg9
  z9 := Tryz.sizeOf9
  v9 := Tryz.zeroValue9 }
open Go.RowKit in
/-- strings.Compare: "Compare returns an integer comparing two strings lexicographically. The result will be 0 if a == b, -1 if a < b, and +1 if a > b.": IT RETURNS 'Lib.compareBytes a b'; the world is as it was. (LAID: no walk: one application.) -/
theorem Tryz.strings_Compare (a b : ByteArray) (w : World) :
    Calls Tryz.prog 61 #[.string a, .string b] w fun e w' => e = .returned (.int .i64 (Lib.compareBytes a.data.toList b.data.toList)) ∧ w' = w := Any.strings_Compare Tryz.lays106 a b w
def Tryz.lays212_ren : Go.Shelf.Ren := ⟨fun | 212 => 104 | 263 => 106 | 264 => 107 | n => n, fun | 46 => 104 | 51 => 116 | 146 => 150 | 53 => 114 | 148 => 152 | n => n, fun | n => n⟩
theorem Tryz.lays212 : Go.Proofs.Lays.n212 Tryz.prog Tryz.lays212_ren := {
  mixed := by kernel_rfl
  f212 := Tryz.func104.trans (congrArg some (by kernel_rfl))
  f263 := Tryz.func106.trans (congrArg some (by kernel_rfl))
  f264 := Tryz.func107.trans (congrArg some (by kernel_rfl))
  t46 := Tryz.underlying104
  a46 := Tryz.isAgg104
  z46 := Tryz.sizeOf104
  v46 := Tryz.zeroValue104
  t51 := Tryz.underlying116
  a51 := Tryz.isAgg116
  z51 := Tryz.sizeOf116
  v51 := Tryz.zeroValue116
  t53 := Tryz.underlying114
  a53 := Tryz.isAgg114
  z53 := Tryz.sizeOf114
  v53 := Tryz.zeroValue114
  t146 := Tryz.underlying150
  a146 := Tryz.isAgg150
  z146 := Tryz.sizeOf150
  v146 := Tryz.zeroValue150
  t148 := Tryz.underlying152
  a148 := Tryz.isAgg152
  z148 := Tryz.sizeOf152
  v148 := Tryz.zeroValue152 }
open Go.RowKit Go.Lib in
/-- math/bits.Mul: "Mul returns the full-width product of x and y": on a machine of 64 bits: Mul64's. (LAID: no walk: one application.) -/
theorem Tryz.bits_Mul (x y : Nat) (hx : x < 18446744073709551616) (hy : y < 18446744073709551616) (w : World) :
    Calls Tryz.prog 104 #[.int .u64 x, .int .u64 y] w fun e w' => e = .returned (.tuple #[.int .u64 ((x * y / 18446744073709551616 : Nat) : Int), .int .u64 ((x * y % 18446744073709551616 : Nat) : Int)]) ∧ w' = w := Any.bits_Mul Tryz.lays212 x y hx hy w
end Go.Proofs
