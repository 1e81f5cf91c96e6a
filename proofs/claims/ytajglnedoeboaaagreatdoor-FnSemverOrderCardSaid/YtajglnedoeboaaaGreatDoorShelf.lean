/-
  DERIVED: THE SHELF's CONTRACTS AT THIS DUMP, IN PLAIN WORDS (tools/lay-plain.mjs out of 'TryzShelf.lean', which tools/lay-shelf.mjs wrote): THE SAME DECLARATIONS UNDER THE SAME NAMES: 'import', 'namespace', 'open', 'def', 'theorem' AND NOTHING ELSE: no command of the shelf's: FOR A HAND-IN. Each laying: the table of numbers ('.._ren') and one theorem, a field a fact of the dump's own or the kernel's comparison; each contract: ONE APPLICATION.
-/
import Derived.Shelf.Strings.Builder1
import Derived.Shelf.Strings.Builder2
import Derived.Shelf.Strings.OnBuilder
import Derived.Shelf.Small.Utf8
import Derived.Shelf.Small.Strs
import Derived.Shelf.Strings.BuilderF
import Derived.Shelf.Strings.BuilderK
import Derived.Shelf.Strings.BuilderRune
import Derived.Shelf.Utf8.AppendRune
import Derived.Shelf.Utf8.AppendRunePlain
import Derived.Shelf.Strings.Builder2Cap
import Derived.Shelf.Strings.Prefix
import Derived.Shelf.Unicode.Latin
import Derived.Shelf.Unicode.Decode
import Derived.Shelf.Bits.Mul64
import Derived.Shelf.Unicode.DecodeSlow
import Derived.Shelf.Unicode.DecodeAny
import Derived.Shelf.Unicode.CaseLookup
import Derived.Shelf.Unicode.CaseConvert
import Derived.Shelf.Unicode.CaseTo
import Derived.Shelf.Unicode.CaseLaid
import Derived.Shelf.Strings.MapAny
import Derived.Shelf.Strings.CaseAny
import Derived.Shelf.Strings.BuilderCap
import Derived.Shelf.Strings.MapGrows
import Derived.Test.YtajglnedoeboaaaGreatDoorProg
namespace Go.Proofs
open Go.Shelf
def Tryz.lays159_ren : Go.Shelf.Ren := ⟨fun | 159 => 62 | 165 => 76 | 166 => 77 | 167 => 78 | 169 => 79 | 230 => 80 | 204 => 81 | 240 => 90 | 241 => 91 | 197 => 92 | 118 => 93 | 168 => 94 | 270 => 95 | 262 => 96 | 276 => 101 | 277 => 102 | 260 => 103 | 242 => 104 | 313 => 105 | 278 => 112 | 274 => 113 | 275 => 114 | n => n, fun | 9 => 9 | 4 => 4 | 3 => 3 | 5 => 5 | 72 => 105 | 0 => 0 | 76 => 43 | 75 => 42 | 107 => 111 | 70 => 102 | 20 => 20 | 37 => 103 | 127 => 122 | 21 => 21 | 105 => 123 | 164 => 136 | 162 => 142 | 203 => 140 | 119 => 150 | 46 => 131 | 139 => 153 | 138 => 152 | 51 => 154 | 160 => 155 | 208 => 171 | 206 => 169 | 80 => 109 | n => n, fun | 13 => 3 | 3 => 4 | 4 => 5 | n => n⟩
theorem Tryz.lays159 : Go.Proofs.Lays.n159 Tryz.prog Tryz.lays159_ren := {
  mixed := by kernel_rfl
  f118 := Tryz.func93.trans (congrArg some (by kernel_rfl))
  f159 := Tryz.func62.trans (congrArg some (by kernel_rfl))
  f165 := Tryz.func76.trans (congrArg some (by kernel_rfl))
  f166 := Tryz.func77.trans (congrArg some (by kernel_rfl))
  f167 := Tryz.func78.trans (congrArg some (by kernel_rfl))
  f168 := Tryz.func94.trans (congrArg some (by kernel_rfl))
  f169 := Tryz.func79.trans (congrArg some (by kernel_rfl))
  f197 := Tryz.func92.trans (congrArg some (by kernel_rfl))
  f204 := Tryz.func81.trans (congrArg some (by kernel_rfl))
  f230 := Tryz.func80.trans (congrArg some (by kernel_rfl))
  f240 := Tryz.func90.trans (congrArg some (by kernel_rfl))
  f241 := Tryz.func91.trans (congrArg some (by kernel_rfl))
  f242 := Tryz.func104.trans (congrArg some (by kernel_rfl))
  f260 := Tryz.func103.trans (congrArg some (by kernel_rfl))
  f262 := Tryz.func96.trans (congrArg some (by kernel_rfl))
  f270 := Tryz.func95.trans (congrArg some (by kernel_rfl))
  f274 := Tryz.func113.trans (congrArg some (by kernel_rfl))
  f275 := Tryz.func114.trans (congrArg some (by kernel_rfl))
  f276 := Tryz.func101.trans (congrArg some (by kernel_rfl))
  f277 := Tryz.func102.trans (congrArg some (by kernel_rfl))
  f278 := Tryz.func112.trans (congrArg some (by kernel_rfl))
  f313 := Tryz.func105.trans (congrArg some (by kernel_rfl))
  t0 := Tryz.underlying0
  a0 := Tryz.isAgg0
  z0 := Tryz.sizeOf0
  v0 := Tryz.zeroValue0
  t3 := Tryz.underlying3
  a3 := Tryz.isAgg3
  z3 := Tryz.sizeOf3
  v3 := Tryz.zeroValue3
  t4 := Tryz.underlying4
  a4 := Tryz.isAgg4
  z4 := Tryz.sizeOf4
  v4 := Tryz.zeroValue4
  t5 := Tryz.underlying5
  a5 := Tryz.isAgg5
  z5 := Tryz.sizeOf5
  v5 := Tryz.zeroValue5
  t9 := Tryz.underlying9
  a9 := Tryz.isAgg9
  z9 := Tryz.sizeOf9
  v9 := Tryz.zeroValue9
  t20 := Tryz.underlying20
  a20 := Tryz.isAgg20
  z20 := Tryz.sizeOf20
  v20 := Tryz.zeroValue20
  t21 := Tryz.underlying21
  a21 := Tryz.isAgg21
  z21 := Tryz.sizeOf21
  v21 := Tryz.zeroValue21
  t37 := Tryz.underlying103
  a37 := Tryz.isAgg103
  z37 := Tryz.sizeOf103
  v37 := Tryz.zeroValue103
  t46 := Tryz.underlying131
  a46 := Tryz.isAgg131
  z46 := Tryz.sizeOf131
  v46 := Tryz.zeroValue131
  t51 := Tryz.underlying154
  a51 := Tryz.isAgg154
  z51 := Tryz.sizeOf154
  v51 := Tryz.zeroValue154
  t70 := Tryz.underlying102
  a70 := Tryz.isAgg102
  z70 := Tryz.sizeOf102
  v70 := Tryz.zeroValue102
  t72 := Tryz.underlying105
  a72 := Tryz.isAgg105
  z72 := Tryz.sizeOf105
  v72 := Tryz.zeroValue105
  t75 := Tryz.underlying42
  a75 := Tryz.isAgg42
  z75 := Tryz.sizeOf42
  v75 := Tryz.zeroValue42
  t76 := Tryz.underlying43
  a76 := Tryz.isAgg43
  z76 := Tryz.sizeOf43
  v76 := Tryz.zeroValue43
  t105 := Tryz.underlying123
  a105 := Tryz.isAgg123
  z105 := Tryz.sizeOf123
  v105 := Tryz.zeroValue123
  t107 := Tryz.underlying111
  a107 := Tryz.isAgg111
  z107 := Tryz.sizeOf111
  v107 := Tryz.zeroValue111
  t119 := Tryz.underlying150
  a119 := Tryz.isAgg150
  z119 := Tryz.sizeOf150
  t127 := Tryz.underlying122
  a127 := Tryz.isAgg122
  z127 := Tryz.sizeOf122
  v127 := Tryz.zeroValue122
  t138 := Tryz.underlying152
  a138 := Tryz.isAgg152
  z138 := Tryz.sizeOf152
  v138 := Tryz.zeroValue152
  t139 := Tryz.underlying153
  a139 := Tryz.isAgg153
  z139 := Tryz.sizeOf153
  v139 := Tryz.zeroValue153
  t160 := Tryz.underlying155
  a160 := Tryz.isAgg155
  z160 := Tryz.sizeOf155
  v160 := Tryz.zeroValue155
  t162 := Tryz.underlying142
  a162 := Tryz.isAgg142
  z162 := Tryz.sizeOf142
  v162 := Tryz.zeroValue142
  t164 := Tryz.underlying136
  a164 := Tryz.isAgg136
  z164 := Tryz.sizeOf136
  v164 := Tryz.zeroValue136
  t203 := Tryz.underlying140
  a203 := Tryz.isAgg140
  z203 := Tryz.sizeOf140
  v203 := Tryz.zeroValue140
  t206 := Tryz.underlying169
  a206 := Tryz.isAgg169
  z206 := Tryz.sizeOf169
  v206 := Tryz.zeroValue169
  t208 := Tryz.underlying171
  a208 := Tryz.isAgg171
  z208 := Tryz.sizeOf171
  v208 := Tryz.zeroValue171
  g3 := by kernel_rfl
  g4 := by kernel_rfl
  g13 := by kernel_rfl }
theorem Tryz.Builder_Extra_159 : Builder.Extra Tryz.prog Tryz.lays159_ren := {
  sizeBuilder := by kernel_rfl
  liesBuilder := by kernel_rfl
  t5 := Tryz.underlying5
  a5 := Tryz.isAgg5
  z5 := Tryz.sizeOf5
  v5 := Tryz.zeroValue5
  infoByte := by kernel_rfl
  cellsByte := by kernel_rfl
  sizeByte := by kernel_rfl
  neB5 := by decide }
open Go.RowKit in
/-- strings.ToLower: "ToLower returns s with all Unicode letters mapped to their lower case.": ON ASCII TEXT OF AT MOST 2^47 BYTES. Below the heap's end the world is as it was: where a letter turns, the call makes a builder and its buffer. (LAID: no walk: one application.) -/
theorem Tryz.strings_ToLower_ascii (s : ByteArray) (w : World) (hs : s.size ≤ 140737488355328) (hascii : ∀ (j : Nat) (b : UInt8), s.data.toList[j]? = some b → b.toNat < 128) :
    Calls Tryz.prog 62 #[.string s] w fun e w' => e = .returned (.string ⟨(Lib.toLowerA s.data.toList).toArray⟩) ∧ Below w.heap.size w w' := Any.strings_ToLower_ascii Tryz.lays159 Tryz.Builder_Extra_159 s w hs hascii
def Tryz.lays106_ren : Go.Shelf.Ren := ⟨fun | 106 => 61 | 213 => 75 | 265 => 89 | n => n, fun | 9 => 9 | 3 => 3 | n => n, fun | n => n⟩
theorem Tryz.lays106 : Go.Proofs.Lays.n106 Tryz.prog Tryz.lays106_ren := {
  mixed := by kernel_rfl
  f106 := Tryz.func61.trans (congrArg some (by kernel_rfl))
  f213 := Tryz.func75.trans (congrArg some (by kernel_rfl))
  f265 := Tryz.func89.trans (congrArg some (by kernel_rfl))
  t3 := Tryz.underlying3
  a3 := Tryz.isAgg3
  z3 := Tryz.sizeOf3
  v3 := Tryz.zeroValue3
  t9 := Tryz.underlying9
  a9 := Tryz.isAgg9
  z9 := Tryz.sizeOf9
  v9 := Tryz.zeroValue9 }
open Go.RowKit in
/-- strings.Compare: "Compare returns an integer comparing two strings lexicographically. The result will be 0 if a == b, -1 if a < b, and +1 if a > b.": IT RETURNS 'Lib.compareBytes a b'; the world is as it was. (LAID: no walk: one application.) -/
theorem Tryz.strings_Compare (a b : ByteArray) (w : World) :
    Calls Tryz.prog 61 #[.string a, .string b] w fun e w' => e = .returned (.int .i64 (Lib.compareBytes a.data.toList b.data.toList)) ∧ w' = w := Any.strings_Compare Tryz.lays106 a b w
def Tryz.lays206_ren : Go.Shelf.Ren := ⟨fun | 206 => 99 | n => n, fun | 9 => 9 | 4 => 4 | 3 => 3 | n => n, fun | n => n⟩
theorem Tryz.lays206 : Go.Proofs.Lays.n206 Tryz.prog Tryz.lays206_ren := {
  mixed := by kernel_rfl
  f206 := Tryz.func99.trans (congrArg some (by kernel_rfl))
  t3 := Tryz.underlying3
  a3 := Tryz.isAgg3
  z3 := Tryz.sizeOf3
  v3 := Tryz.zeroValue3
  t4 := Tryz.underlying4
  a4 := Tryz.isAgg4
  z4 := Tryz.sizeOf4
  v4 := Tryz.zeroValue4
  t9 := Tryz.underlying9
  a9 := Tryz.isAgg9
  z9 := Tryz.sizeOf9
  v9 := Tryz.zeroValue9 }
open Go.RowKit Go.Lib in
/-- internal/stringslite.HasPrefix (what strings.HasPrefix calls). (LAID: no walk: one application.) -/
theorem Tryz.stringslite_HasPrefix (s p : ByteArray) (w : World) :
    Calls Tryz.prog 99 #[.string s, .string p] w fun e w' => e = .returned (.bool (Lib.hasPrefix s.data.toList p.data.toList)) ∧ w' = w := Any.stringslite_HasPrefix Tryz.lays206 s p w
def Tryz.lays208_ren : Go.Shelf.Ren := ⟨fun | 208 => 86 | 206 => 99 | n => n, fun | 9 => 9 | 4 => 4 | 3 => 3 | n => n, fun | n => n⟩
theorem Tryz.lays208 : Go.Proofs.Lays.n208 Tryz.prog Tryz.lays208_ren := {
  mixed := by kernel_rfl
  f206 := Tryz.func99.trans (congrArg some (by kernel_rfl))
  f208 := Tryz.func86.trans (congrArg some (by kernel_rfl))
  t3 := Tryz.underlying3
  a3 := Tryz.isAgg3
  z3 := Tryz.sizeOf3
  v3 := Tryz.zeroValue3
  t4 := Tryz.underlying4
  a4 := Tryz.isAgg4
  z4 := Tryz.sizeOf4
  v4 := Tryz.zeroValue4
  t9 := Tryz.underlying9
  a9 := Tryz.isAgg9
  z9 := Tryz.sizeOf9
  v9 := Tryz.zeroValue9 }
open Go.RowKit Go.Lib in
/-- internal/stringslite.TrimPrefix (what strings.TrimPrefix calls). (LAID: no walk: one application.) -/
theorem Tryz.stringslite_TrimPrefix (s p : ByteArray) (w : World) :
    Calls Tryz.prog 86 #[.string s, .string p] w fun e w' => e = .returned (.string ⟨(Lib.trimPrefix s.data.toList p.data.toList).toArray⟩) ∧ w' = w := Any.stringslite_TrimPrefix Tryz.lays208 s p w
def Tryz.lays101_ren : Go.Shelf.Ren := ⟨fun | 101 => 67 | 208 => 86 | 206 => 99 | n => n, fun | 9 => 9 | 4 => 4 | 3 => 3 | n => n, fun | n => n⟩
theorem Tryz.lays101 : Go.Proofs.Lays.n101 Tryz.prog Tryz.lays101_ren := {
  mixed := by kernel_rfl
  f101 := Tryz.func67.trans (congrArg some (by kernel_rfl))
  f206 := Tryz.func99.trans (congrArg some (by kernel_rfl))
  f208 := Tryz.func86.trans (congrArg some (by kernel_rfl))
  t3 := Tryz.underlying3
  a3 := Tryz.isAgg3
  z3 := Tryz.sizeOf3
  v3 := Tryz.zeroValue3
  t4 := Tryz.underlying4
  a4 := Tryz.isAgg4
  z4 := Tryz.sizeOf4
  v4 := Tryz.zeroValue4
  t9 := Tryz.underlying9
  a9 := Tryz.isAgg9
  z9 := Tryz.sizeOf9
  v9 := Tryz.zeroValue9 }
open Go.RowKit Go.Lib in
/-- strings.TrimPrefix: "TrimPrefix returns s without the provided leading prefix string. If s doesn't start with prefix, s is returned unchanged.": IT RETURNS 'Lib.trimPrefix s prefix'; the world is as it was. (LAID: no walk: one application.) -/
theorem Tryz.strings_TrimPrefix (s p : ByteArray) (w : World) :
    Calls Tryz.prog 67 #[.string s, .string p] w fun e w' => e = .returned (.string ⟨(Lib.trimPrefix s.data.toList p.data.toList).toArray⟩) ∧ w' = w := Any.strings_TrimPrefix Tryz.lays101 s p w
def Tryz.lays212_ren : Go.Shelf.Ren := ⟨fun | 212 => 133 | 263 => 135 | 264 => 136 | n => n, fun | 46 => 131 | 51 => 154 | 146 => 193 | 53 => 130 | 148 => 195 | n => n, fun | n => n⟩
theorem Tryz.lays212 : Go.Proofs.Lays.n212 Tryz.prog Tryz.lays212_ren := {
  mixed := by kernel_rfl
  f212 := Tryz.func133.trans (congrArg some (by kernel_rfl))
  f263 := Tryz.func135.trans (congrArg some (by kernel_rfl))
  f264 := Tryz.func136.trans (congrArg some (by kernel_rfl))
  t46 := Tryz.underlying131
  a46 := Tryz.isAgg131
  z46 := Tryz.sizeOf131
  v46 := Tryz.zeroValue131
  t51 := Tryz.underlying154
  a51 := Tryz.isAgg154
  z51 := Tryz.sizeOf154
  v51 := Tryz.zeroValue154
  t53 := Tryz.underlying130
  a53 := Tryz.isAgg130
  z53 := Tryz.sizeOf130
  v53 := Tryz.zeroValue130
  t146 := Tryz.underlying193
  a146 := Tryz.isAgg193
  z146 := Tryz.sizeOf193
  v146 := Tryz.zeroValue193
  t148 := Tryz.underlying195
  a148 := Tryz.isAgg195
  z148 := Tryz.sizeOf195
  v148 := Tryz.zeroValue195 }
open Go.RowKit Go.Lib in
/-- math/bits.Mul: "Mul returns the full-width product of x and y": on a machine of 64 bits: Mul64's. (LAID: no walk: one application.) -/
theorem Tryz.bits_Mul (x y : Nat) (hx : x < 18446744073709551616) (hy : y < 18446744073709551616) (w : World) :
    Calls Tryz.prog 133 #[.int .u64 x, .int .u64 y] w fun e w' => e = .returned (.tuple #[.int .u64 ((x * y / 18446744073709551616 : Nat) : Int), .int .u64 ((x * y % 18446744073709551616 : Nat) : Int)]) ∧ w' = w := Any.bits_Mul Tryz.lays212 x y hx hy w
end Go.Proofs
