/-
  DERIVED: THE SHELF's CONTRACTS AT THIS DUMP, IN PLAIN WORDS (tools/lay-plain.mjs out of 'TrydShelf.lean', which tools/lay-shelf.mjs wrote): THE SAME DECLARATIONS UNDER THE SAME NAMES: 'import', 'namespace', 'open', 'def', 'theorem' AND NOTHING ELSE: no command of the shelf's: FOR A HAND-IN. Each laying: the table of numbers ('.._ren') and one theorem, a field a fact of the dump's own or the kernel's comparison; each contract: ONE APPLICATION.
-/
import Derived.Shelf.Strings.TrimSpace
import Derived.Shelf.Small.Utf8
import Derived.Shelf.Strings.LastIndex
import Derived.Shelf.Strings.LastIndexAll
import Derived.Shelf.GgClosure.StringsIndexFunc
import Derived.Shelf.GgClosure.StringsTrimFunc
import Derived.Ground.GgwProg
import Derived.Shelf.GgClosure.StringsIndexFuncTop
import Derived.Shelf.GgClosure.StringsRunes
import Derived.Shelf.Unicode.Latin
import Derived.Shelf.Unicode.Decode
import Derived.Shelf.Bits.Mul64
import Derived.Shelf.Unicode.DecodeSlow
import Derived.Shelf.Unicode.DecodeAny
import Derived.Shelf.Unicode.Is16White
import Derived.Shelf.Unicode.IsSpaceAny
import Derived.Shelf.Unicode.DecodeLast
import Derived.Shelf.Strings.TrimSpaceAny
import Derived.Shelf.Unicode.Is16WhiteD
import Derived.Shelf.Unicode.IsSpaceAnyD
import Derived.Shelf.Unicode.Is16Any
import Derived.Shelf.Unicode.Is32Any
import Derived.Shelf.Unicode.ExclAny
import Derived.Shelf.Strings.FuncGrows
import Derived.Ground.PaProg
import Derived.Shelf.Path.Small
import Derived.Test.YtkcciinapkeaiaaDoorProg
namespace Go.Proofs
open Go.Shelf
def Tryd.lays163_ren : Go.Shelf.Ren := ⟨fun | 163 => 41 | 237 => 53 | 199 => 54 | 238 => 55 | 272 => 68 | 261 => 69 | 273 => 70 | 197 => 71 | 315 => 81 | 311 => 82 | 312 => 83 | 271 => 84 | 260 => 85 | 120 => 88 | n => n, fun | 9 => 9 | 37 => 65 | 3 => 3 | 0 => 0 | 5 => 5 | 4 => 4 | 40 => 81 | 119 => 82 | 21 => 21 | 51 => 100 | 141 => 102 | 105 => 104 | 196 => 115 | 193 => 112 | 198 => 118 | 49 => 116 | 194 => 113 | 201 => 121 | 226 => 133 | 46 => 85 | 227 => 134 | 139 => 137 | 138 => 136 | n => n, fun | 0 => 1 | 6 => 3 | 3 => 6 | 4 => 7 | n => n⟩
theorem Tryd.lays163 : Go.Proofs.Lays.n163 Tryd.prog Tryd.lays163_ren := {
  mixed := by kernel_rfl
  f120 := Tryd.func88.trans (congrArg some (by kernel_rfl))
  f163 := Tryd.func41.trans (congrArg some (by kernel_rfl))
  f197 := Tryd.func71.trans (congrArg some (by kernel_rfl))
  f199 := Tryd.func54.trans (congrArg some (by kernel_rfl))
  f237 := Tryd.func53.trans (congrArg some (by kernel_rfl))
  f238 := Tryd.func55.trans (congrArg some (by kernel_rfl))
  f260 := Tryd.func85.trans (congrArg some (by kernel_rfl))
  f261 := Tryd.func69.trans (congrArg some (by kernel_rfl))
  f271 := Tryd.func84.trans (congrArg some (by kernel_rfl))
  f272 := Tryd.func68.trans (congrArg some (by kernel_rfl))
  f273 := Tryd.func70.trans (congrArg some (by kernel_rfl))
  f311 := Tryd.func82.trans (congrArg some (by kernel_rfl))
  f312 := Tryd.func83.trans (congrArg some (by kernel_rfl))
  f315 := Tryd.func81.trans (congrArg some (by kernel_rfl))
  t0 := Tryd.underlying0
  a0 := Tryd.isAgg0
  z0 := Tryd.sizeOf0
  v0 := Tryd.zeroValue0
  t3 := Tryd.underlying3
  a3 := Tryd.isAgg3
  z3 := Tryd.sizeOf3
  v3 := Tryd.zeroValue3
  t4 := Tryd.underlying4
  a4 := Tryd.isAgg4
  z4 := Tryd.sizeOf4
  v4 := Tryd.zeroValue4
  t5 := Tryd.underlying5
  a5 := Tryd.isAgg5
  z5 := Tryd.sizeOf5
  v5 := Tryd.zeroValue5
  t9 := Tryd.underlying9
  a9 := Tryd.isAgg9
  z9 := Tryd.sizeOf9
  v9 := Tryd.zeroValue9
  t21 := Tryd.underlying21
  a21 := Tryd.isAgg21
  z21 := Tryd.sizeOf21
  v21 := Tryd.zeroValue21
  t37 := Tryd.underlying65
  a37 := Tryd.isAgg65
  z37 := Tryd.sizeOf65
  v37 := Tryd.zeroValue65
  t40 := Tryd.underlying81
  a40 := Tryd.isAgg81
  z40 := Tryd.sizeOf81
  v40 := Tryd.zeroValue81
  t46 := Tryd.underlying85
  a46 := Tryd.isAgg85
  z46 := Tryd.sizeOf85
  v46 := Tryd.zeroValue85
  t49 := Tryd.underlying116
  a49 := Tryd.isAgg116
  z49 := Tryd.sizeOf116
  v49 := Tryd.zeroValue116
  t51 := Tryd.underlying100
  a51 := Tryd.isAgg100
  z51 := Tryd.sizeOf100
  v51 := Tryd.zeroValue100
  t105 := Tryd.underlying104
  a105 := Tryd.isAgg104
  z105 := Tryd.sizeOf104
  v105 := Tryd.zeroValue104
  t119 := Tryd.underlying82
  a119 := Tryd.isAgg82
  z119 := Tryd.sizeOf82
  t138 := Tryd.underlying136
  a138 := Tryd.isAgg136
  z138 := Tryd.sizeOf136
  v138 := Tryd.zeroValue136
  t139 := Tryd.underlying137
  a139 := Tryd.isAgg137
  z139 := Tryd.sizeOf137
  v139 := Tryd.zeroValue137
  t141 := Tryd.underlying102
  a141 := Tryd.isAgg102
  z141 := Tryd.sizeOf102
  v141 := Tryd.zeroValue102
  t193 := Tryd.underlying112
  a193 := Tryd.isAgg112
  z193 := Tryd.sizeOf112
  v193 := Tryd.zeroValue112
  t194 := Tryd.underlying113
  a194 := Tryd.isAgg113
  z194 := Tryd.sizeOf113
  v194 := Tryd.zeroValue113
  t196 := Tryd.underlying115
  a196 := Tryd.isAgg115
  z196 := Tryd.sizeOf115
  v196 := Tryd.zeroValue115
  t198 := Tryd.underlying118
  a198 := Tryd.isAgg118
  z198 := Tryd.sizeOf118
  v198 := Tryd.zeroValue118
  t201 := Tryd.underlying121
  a201 := Tryd.isAgg121
  z201 := Tryd.sizeOf121
  v201 := Tryd.zeroValue121
  t226 := Tryd.underlying133
  a226 := Tryd.isAgg133
  z226 := Tryd.sizeOf133
  v226 := Tryd.zeroValue133
  t227 := Tryd.underlying134
  a227 := Tryd.isAgg134
  z227 := Tryd.sizeOf134
  v227 := Tryd.zeroValue134
  g0 := by kernel_rfl
  g3 := by kernel_rfl
  g4 := by kernel_rfl
  g6 := by kernel_rfl }
theorem Tryd.Space_Extra_163 : Space.Extra Tryd.prog Tryd.lays163_ren := {
  gNamed := by kernel_rfl }
open Go.RowKit in
theorem Tryd.strings_TrimSpace (s : ByteArray) (w : World) (hs : s.size ≤ 9223372036854775807) (hascii : ∀ (j : Nat) b, s.data.toList[j]? = some b → b.toNat < 128) (htab : Lib.TabIs Tryd.prog w "strings.asciiSpace" .u8 Lib.asciiSpaceTab) :
    Calls Tryd.prog 41 #[.string s] w fun e w' => e = .returned (.string ⟨(Lib.trimSpace s.data.toList).toArray⟩) ∧ w' = Lib.bytesWorld w 5 s := Any.strings_TrimSpace Tryd.lays163 Tryd.Space_Extra_163 s w hs hascii htab
def Tryd.lays148_ren : Go.Shelf.Ren := ⟨fun | 148 => 57 | 222 => 72 | 223 => 73 | 269 => 86 | n => n, fun | 9 => 9 | 3 => 3 | 4 => 4 | 5 => 5 | 146 => 123 | 51 => 100 | 46 => 85 | n => n, fun | n => n⟩
theorem Tryd.lays148 : Go.Proofs.Lays.n148 Tryd.prog Tryd.lays148_ren := {
  mixed := by kernel_rfl
  f148 := Tryd.func57.trans (congrArg some (by kernel_rfl))
  f222 := Tryd.func72.trans (congrArg some (by kernel_rfl))
  f223 := Tryd.func73.trans (congrArg some (by kernel_rfl))
  f269 := Tryd.func86.trans (congrArg some (by kernel_rfl))
  t3 := Tryd.underlying3
  a3 := Tryd.isAgg3
  z3 := Tryd.sizeOf3
  v3 := Tryd.zeroValue3
  t4 := Tryd.underlying4
  a4 := Tryd.isAgg4
  z4 := Tryd.sizeOf4
  v4 := Tryd.zeroValue4
  t5 := Tryd.underlying5
  a5 := Tryd.isAgg5
  z5 := Tryd.sizeOf5
  v5 := Tryd.zeroValue5
  t9 := Tryd.underlying9
  a9 := Tryd.isAgg9
  z9 := Tryd.sizeOf9
  v9 := Tryd.zeroValue9
  t46 := Tryd.underlying85
  a46 := Tryd.isAgg85
  z46 := Tryd.sizeOf85
  v46 := Tryd.zeroValue85
  t51 := Tryd.underlying100
  a51 := Tryd.isAgg100
  z51 := Tryd.sizeOf100
  v51 := Tryd.zeroValue100
  t146 := Tryd.underlying123
  a146 := Tryd.isAgg123
  z146 := Tryd.sizeOf123
  v146 := Tryd.zeroValue123 }
open Go.RowKit Go.Lib in
/-- strings.LastIndex AT A substr OF ONE BYTE (as in 'strings.LastIndex(path, "/")'): the last place of that byte, or -1. (LAID: no walk: one application.) -/
theorem Tryd.strings_LastIndex_one (s sub : ByteArray) (h1 : sub.size = 1) (hs : s.size < 4611686018427387904) (w : World) :
    Calls Tryd.prog 57 #[.string s, .string sub] w fun e w' => e = .returned (.int .i64 (Lib.lastIndexByte s ((sub[0]'(by omega)).toNat : Int))) ∧ w' = w := Any.strings_LastIndex_one Tryd.lays148 s sub h1 hs w
open Go.RowKit Go.Lib in
/-- strings.LastIndex: "LastIndex returns the index of the last instance of substr in s, or -1 if substr is not present in s.": AT A substr OF WHATEVER LENGTH. (LAID: no walk: one application.) -/
theorem Tryd.strings_LastIndex (s sub : ByteArray) (hs : s.size < 4611686018427387904) (w : World) :
    Calls Tryd.prog 57 #[.string s, .string sub] w fun e w' => e = .returned (.int .i64 (Lib.lastIndex s.data.toList sub.data.toList)) ∧ w' = w := Any.strings_LastIndex Tryd.lays148 s sub hs w
def Tryd.laysGw15_ren : Go.Shelf.Ren := ⟨fun | 15 => 78 | 20 => 81 | n => n, fun | 9 => 9 | 23 => 81 | 3 => 3 | 4 => 4 | 0 => 0 | 21 => 21 | n => n, fun | n => n⟩
theorem Tryd.laysGw15 : Go.Proofs.LaysGw.n15 Tryd.prog Tryd.laysGw15_ren := {
  mixed := by kernel_rfl
  f15 := Tryd.func78.trans (congrArg some (by kernel_rfl))
  f20 := Tryd.func81.trans (congrArg some (by kernel_rfl))
  t0 := Tryd.underlying0
  a0 := Tryd.isAgg0
  z0 := Tryd.sizeOf0
  v0 := Tryd.zeroValue0
  i0 := by kernel_rfl
  t3 := Tryd.underlying3
  a3 := Tryd.isAgg3
  z3 := Tryd.sizeOf3
  v3 := Tryd.zeroValue3
  i3 := by kernel_rfl
  t4 := Tryd.underlying4
  a4 := Tryd.isAgg4
  z4 := Tryd.sizeOf4
  v4 := Tryd.zeroValue4
  i4 := by kernel_rfl
  t9 := Tryd.underlying9
  a9 := Tryd.isAgg9
  z9 := Tryd.sizeOf9
  v9 := Tryd.zeroValue9
  i9 := by kernel_rfl
  t21 := Tryd.underlying21
  a21 := Tryd.isAgg21
  z21 := Tryd.sizeOf21
  v21 := Tryd.zeroValue21
  i21 := by kernel_rfl
  t23 := Tryd.underlying81
  a23 := Tryd.isAgg81
  z23 := Tryd.sizeOf81
  v23 := Tryd.zeroValue81
  i23 := by kernel_rfl }
open Go.RowKit Go.Lib in
theorem Tryd.strings_IndexFunc (g : Nat) (lb : Array Value) (eg : ∀ args w, (callFunc g args).run Tryd.prog w = .ok (.enter g args) w) (p : Nat → Bool) (s : ByteArray) (w : World) (hp : PredAt Tryd.prog g lb encR p w) :
    Calls Tryd.prog 78 #[.string s, .func (.func g) #[] lb] w fun e w' => e = .returned (.int .i64 (Lib.idxFunc p true s)) ∧ Below w.heap.size w w' := Any.strings_IndexFunc Tryd.laysGw15 g lb eg p s w hp
def Tryd.lays212_ren : Go.Shelf.Ren := ⟨fun | 212 => 107 | 263 => 109 | 264 => 110 | n => n, fun | 46 => 85 | 51 => 100 | 146 => 123 | 53 => 83 | 148 => 163 | n => n, fun | n => n⟩
theorem Tryd.lays212 : Go.Proofs.Lays.n212 Tryd.prog Tryd.lays212_ren := {
  mixed := by kernel_rfl
  f212 := Tryd.func107.trans (congrArg some (by kernel_rfl))
  f263 := Tryd.func109.trans (congrArg some (by kernel_rfl))
  f264 := Tryd.func110.trans (congrArg some (by kernel_rfl))
  t46 := Tryd.underlying85
  a46 := Tryd.isAgg85
  z46 := Tryd.sizeOf85
  v46 := Tryd.zeroValue85
  t51 := Tryd.underlying100
  a51 := Tryd.isAgg100
  z51 := Tryd.sizeOf100
  v51 := Tryd.zeroValue100
  t53 := Tryd.underlying83
  a53 := Tryd.isAgg83
  z53 := Tryd.sizeOf83
  v53 := Tryd.zeroValue83
  t146 := Tryd.underlying123
  a146 := Tryd.isAgg123
  z146 := Tryd.sizeOf123
  v146 := Tryd.zeroValue123
  t148 := Tryd.underlying163
  a148 := Tryd.isAgg163
  z148 := Tryd.sizeOf163
  v148 := Tryd.zeroValue163 }
open Go.RowKit Go.Lib in
/-- math/bits.Mul: "Mul returns the full-width product of x and y": on a machine of 64 bits: Mul64's. (LAID: no walk: one application.) -/
theorem Tryd.bits_Mul (x y : Nat) (hx : x < 18446744073709551616) (hy : y < 18446744073709551616) (w : World) :
    Calls Tryd.prog 107 #[.int .u64 x, .int .u64 y] w fun e w' => e = .returned (.tuple #[.int .u64 ((x * y / 18446744073709551616 : Nat) : Int), .int .u64 ((x * y % 18446744073709551616 : Nat) : Int)]) ∧ w' = w := Any.bits_Mul Tryd.lays212 x y hx hy w
end Go.Proofs
