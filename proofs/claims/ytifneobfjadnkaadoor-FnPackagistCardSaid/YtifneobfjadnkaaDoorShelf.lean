/-
  DERIVED: THE SHELF's CONTRACTS AT THIS DUMP, IN PLAIN WORDS (tools/lay-plain.mjs out of 'TrydShelf.lean', which tools/lay-shelf.mjs wrote): THE SAME DECLARATIONS UNDER THE SAME NAMES: 'import', 'namespace', 'open', 'def', 'theorem' AND NOTHING ELSE: no command of the shelf's: FOR A HAND-IN. Each laying: the table of numbers ('.._ren') and one theorem, a field a fact of the dump's own or the kernel's comparison; each contract: ONE APPLICATION.
-/
import Derived.Shelf.Strconv.Atoi
import Derived.Shelf.Strconv.Itoa0
import Derived.Shelf.Strconv.Itoa1
import Derived.Shelf.LaysM
import Derived.Shelf.Strconv.Itoa2
import Derived.Shelf.Strconv.Itoa3
import Derived.Shelf.Strconv.AtoiErrFast
import Derived.Shelf.Strconv.ParseIntEmpty
import Derived.Shelf.Strconv.AtoiFail
import Derived.Shelf.Strconv.Clone
import Derived.Shelf.Strconv.SyntaxError
import Derived.Shelf.LaysC
import Derived.Shelf.Strconv.ToError
import Derived.Shelf.Strconv.AtoiErr
import Derived.Shelf.Strconv.ErrVar
import Derived.Shelf.Strconv.Lower
import Derived.Shelf.Strconv.ParseUint10
import Derived.Shelf.Strconv.ParseUint10Empty
import Derived.Shelf.Strconv.ParseUint10Any
import Derived.Shelf.Strconv.ParseInt10
import Derived.Shelf.Strconv.AtoiLong
import Derived.Shelf.Strconv.AtoiInnerAll
import Derived.Shelf.Strconv.RangeError
import Derived.Shelf.Strconv.ToErrorRange
import Derived.Shelf.Strconv.AtoiAll
import Derived.Shelf.Strconv.ErrVarAll
import Derived.Shelf.Strconv.ParseUintEmpty
import Derived.Shelf.Strconv.ParseUint10b64
import Derived.Shelf.Strconv.ParseUint10b32
import Derived.Shelf.Strconv.ParseUint10b16
import Derived.Shelf.Strconv.ParseUint10b8
import Derived.Shelf.Strconv.ParseUint10At
import Derived.Shelf.Strconv.ParseInt10At64
import Derived.Shelf.Strconv.ParseInt10At32
import Derived.Shelf.Strconv.ParseInt10At16
import Derived.Shelf.Strconv.ParseInt10At8
import Derived.Shelf.Strconv.ParseInt10All
import Derived.Shelf.Strings.Prefix
import Derived.Shelf.Bits.Mul64
import Derived.Test.YtifneobfjadnkaaDoorProg
namespace Go.Proofs
open Go.Shelf
def Tryd.laysC172_ren : Go.Shelf.Ren := ⟨fun | 172 => 22 | 244 => 29 | 245 => 30 | 247 => 34 | 279 => 35 | 280 => 36 | 281 => 37 | 282 => 38 | 287 => 41 | 316 => 42 | 171 => 44 | 205 => 43 | 321 => 47 | 322 => 48 | 243 => 49 | 246 => 56 | 283 => 64 | 284 => 65 | 285 => 66 | 286 => 67 | 129 => 71 | 317 => 70 | 318 => 72 | 319 => 73 | 320 => 74 | 337 => 76 | 338 => 77 | n => n, fun | 9 => 9 | 3 => 3 | 75 => 36 | 76 => 40 | 4 => 4 | 5 => 5 | 167 => 59 | 37 => 60 | 0 => 0 | 85 => 61 | 2 => 2 | 168 => 63 | 53 => 74 | 175 => 75 | 46 => 56 | 210 => 79 | 127 => 87 | 145 => 90 | 143 => 88 | 21 => 21 | 171 => 106 | 173 => 109 | 212 => 114 | 51 => 115 | 20 => 20 | 213 => 116 | 232 => 125 | 233 => 126 | 80 => 133 | n => n, fun | 15 => 2 | 16 => 3 | 17 => 6 | 18 => 7 | 19 => 8 | n => n⟩
theorem Tryd.laysC172 : Go.Proofs.LaysC.n172 Tryd.prog Tryd.laysC172_ren := {
  mixed := by kernel_rfl
  f129 := Tryd.func71.trans (congrArg some (by kernel_rfl))
  f171 := Tryd.func44.trans (congrArg some (by kernel_rfl))
  f172 := Tryd.func22.trans (congrArg some (by kernel_rfl))
  f205 := Tryd.func43.trans (congrArg some (by kernel_rfl))
  f243 := Tryd.func49.trans (congrArg some (by kernel_rfl))
  f244 := Tryd.func29.trans (congrArg some (by kernel_rfl))
  f245 := Tryd.func30.trans (congrArg some (by kernel_rfl))
  f246 := Tryd.func56.trans (congrArg some (by kernel_rfl))
  f247 := Tryd.func34.trans (congrArg some (by kernel_rfl))
  f279 := Tryd.func35.trans (congrArg some (by kernel_rfl))
  f280 := Tryd.func36.trans (congrArg some (by kernel_rfl))
  f281 := Tryd.func37.trans (congrArg some (by kernel_rfl))
  f282 := Tryd.func38.trans (congrArg some (by kernel_rfl))
  f283 := Tryd.func64.trans (congrArg some (by kernel_rfl))
  f284 := Tryd.func65.trans (congrArg some (by kernel_rfl))
  f285 := Tryd.func66.trans (congrArg some (by kernel_rfl))
  f286 := Tryd.func67.trans (congrArg some (by kernel_rfl))
  f287 := Tryd.func41.trans (congrArg some (by kernel_rfl))
  f316 := Tryd.func42.trans (congrArg some (by kernel_rfl))
  f317 := Tryd.func70.trans (congrArg some (by kernel_rfl))
  f318 := Tryd.func72.trans (congrArg some (by kernel_rfl))
  f319 := Tryd.func73.trans (congrArg some (by kernel_rfl))
  f320 := Tryd.func74.trans (congrArg some (by kernel_rfl))
  f321 := Tryd.func47.trans (congrArg some (by kernel_rfl))
  f322 := Tryd.func48.trans (congrArg some (by kernel_rfl))
  f337 := Tryd.func76.trans (congrArg some (by kernel_rfl))
  f338 := Tryd.func77.trans (congrArg some (by kernel_rfl))
  t0 := Tryd.underlying0
  a0 := Tryd.isAgg0
  z0 := Tryd.sizeOf0
  v0 := Tryd.zeroValue0
  t2 := Tryd.underlying2
  a2 := Tryd.isAgg2
  z2 := Tryd.sizeOf2
  v2 := Tryd.zeroValue2
  t3 := Tryd.underlying3
  a3 := Tryd.isAgg3
  z3 := Tryd.sizeOf3
  v3 := Tryd.zeroValue3
  t4 := Tryd.underlying4
  a4 := Tryd.isAgg4
  z4 := Tryd.sizeOf4
  v4 := Tryd.zeroValue4
  t5 := Tryd.underlying5
  a5 := Tryd.isAgg5
  z5 := Tryd.sizeOf5
  v5 := Tryd.zeroValue5
  t9 := Tryd.underlying9
  a9 := Tryd.isAgg9
  z9 := Tryd.sizeOf9
  v9 := Tryd.zeroValue9
  t20 := Tryd.underlying20
  a20 := Tryd.isAgg20
  z20 := Tryd.sizeOf20
  v20 := Tryd.zeroValue20
  t21 := Tryd.underlying21
  a21 := Tryd.isAgg21
  z21 := Tryd.sizeOf21
  v21 := Tryd.zeroValue21
  t37 := Tryd.underlying60
  a37 := Tryd.isAgg60
  z37 := Tryd.sizeOf60
  v37 := Tryd.zeroValue60
  t46 := Tryd.underlying56
  a46 := Tryd.isAgg56
  z46 := Tryd.sizeOf56
  v46 := Tryd.zeroValue56
  t51 := Tryd.underlying115
  a51 := Tryd.isAgg115
  z51 := Tryd.sizeOf115
  v51 := Tryd.zeroValue115
  t53 := Tryd.underlying74
  a53 := Tryd.isAgg74
  z53 := Tryd.sizeOf74
  v53 := Tryd.zeroValue74
  t75 := Tryd.underlying36
  a75 := Tryd.isAgg36
  z75 := Tryd.sizeOf36
  v75 := Tryd.zeroValue36
  t76 := Tryd.underlying40
  a76 := Tryd.isAgg40
  z76 := Tryd.sizeOf40
  v76 := Tryd.zeroValue40
  t85 := Tryd.underlying61
  a85 := Tryd.isAgg61
  z85 := Tryd.sizeOf61
  v85 := Tryd.zeroValue61
  t127 := Tryd.underlying87
  a127 := Tryd.isAgg87
  z127 := Tryd.sizeOf87
  v127 := Tryd.zeroValue87
  t143 := Tryd.underlying88
  a143 := Tryd.isAgg88
  z143 := Tryd.sizeOf88
  v143 := Tryd.zeroValue88
  t145 := Tryd.underlying90
  a145 := Tryd.isAgg90
  z145 := Tryd.sizeOf90
  v145 := Tryd.zeroValue90
  t167 := Tryd.underlying59
  a167 := Tryd.isAgg59
  z167 := Tryd.sizeOf59
  v167 := Tryd.zeroValue59
  t168 := Tryd.underlying63
  a168 := Tryd.isAgg63
  z168 := Tryd.sizeOf63
  v168 := Tryd.zeroValue63
  t171 := Tryd.underlying106
  a171 := Tryd.isAgg106
  z171 := Tryd.sizeOf106
  v171 := Tryd.zeroValue106
  t173 := Tryd.underlying109
  a173 := Tryd.isAgg109
  z173 := Tryd.sizeOf109
  v173 := Tryd.zeroValue109
  t175 := Tryd.underlying75
  a175 := Tryd.isAgg75
  z175 := Tryd.sizeOf75
  v175 := Tryd.zeroValue75
  t210 := Tryd.underlying79
  a210 := Tryd.isAgg79
  z210 := Tryd.sizeOf79
  v210 := Tryd.zeroValue79
  t212 := Tryd.underlying114
  a212 := Tryd.isAgg114
  z212 := Tryd.sizeOf114
  v212 := Tryd.zeroValue114
  t213 := Tryd.underlying116
  a213 := Tryd.isAgg116
  z213 := Tryd.sizeOf116
  t232 := Tryd.underlying125
  a232 := Tryd.isAgg125
  z232 := Tryd.sizeOf125
  v232 := Tryd.zeroValue125
  t233 := Tryd.underlying126
  a233 := Tryd.isAgg126
  z233 := Tryd.sizeOf126
  v233 := Tryd.zeroValue126
  g15 := by kernel_rfl
  g16 := by kernel_rfl
  g17 := by kernel_rfl
  g18 := by kernel_rfl
  g19 := by kernel_rfl
  t80 := Tryd.underlying133
  a80 := Tryd.isAgg133
  z80 := Tryd.sizeOf133
  v80 := Tryd.zeroValue133
  i0 := by kernel_rfl
  i2 := by kernel_rfl
  i3 := by kernel_rfl
  i4 := by kernel_rfl
  i5 := by kernel_rfl
  i9 := by kernel_rfl
  i20 := by kernel_rfl
  i21 := by kernel_rfl
  i37 := by kernel_rfl
  i46 := by kernel_rfl
  i51 := by kernel_rfl
  i53 := by kernel_rfl
  i75 := by kernel_rfl
  i76 := by kernel_rfl
  i80 := by kernel_rfl
  i85 := by kernel_rfl
  i127 := by kernel_rfl
  i143 := by kernel_rfl
  i145 := by kernel_rfl
  i167 := by kernel_rfl
  i168 := by kernel_rfl
  i171 := by kernel_rfl
  i173 := by kernel_rfl
  i175 := by kernel_rfl
  i210 := by kernel_rfl
  i212 := by kernel_rfl
  i232 := by kernel_rfl
  i233 := by kernel_rfl
  m15 := by kernel_rfl
  m16 := by kernel_rfl
  m17 := by kernel_rfl
  m18 := by kernel_rfl
  m19 := by kernel_rfl
  c0 := by kernel_rfl
  c2 := by kernel_rfl
  c3 := by kernel_rfl
  c4 := by kernel_rfl
  c5 := by kernel_rfl
  c9 := by kernel_rfl
  c20 := by kernel_rfl
  c21 := by kernel_rfl
  c37 := by kernel_rfl
  c46 := by kernel_rfl
  c51 := by kernel_rfl
  c53 := by kernel_rfl
  c75 := by kernel_rfl
  c76 := by kernel_rfl
  c80 := by kernel_rfl
  c85 := by kernel_rfl
  c127 := by kernel_rfl
  c143 := by kernel_rfl
  c145 := by kernel_rfl
  c167 := by kernel_rfl
  c168 := by kernel_rfl
  c171 := by kernel_rfl
  c173 := by kernel_rfl
  c175 := by kernel_rfl
  c210 := by kernel_rfl
  c212 := by kernel_rfl
  c213 := by kernel_rfl
  c232 := by kernel_rfl
  c233 := by kernel_rfl }
open Go.RowKit in
/-- strconv.Atoi, AT EVERY STRING THAT SPELLS AN int ('Lib.atoiAll .. = .ok v'; of whatever length: leading zeros count): v, AND NO ERROR. The world: as it was, or with the one new row that '[]byte(..)' lays. (LAID: no walk: one application.) -/
theorem Tryd.strconv_Atoi_ok (s : ByteArray) (hmax : s.size ≤ 9223372036854775806) (v : Int) (h : Lib.atoiAll s.data.toList = .ok v) (w : World) :
    Calls Tryd.prog 22 #[.string s] w fun e w' => e = .returned (.tuple #[.int .i64 v, .nilIface]) ∧ (w' = w ∨ ∃ t, w' = Lib.bytesWorld w 5 t) := Any.strconv_Atoi_ok Tryd.laysC172 s hmax v h w
open Go.RowKit in
/-- strconv.Atoi, AT EVERY NUMERAL THAT NO int HOLDS ('.range'): THE GREATEST OR THE LEAST int, BY THE SIGN ('Lib.atoiSat'), AND AN ERROR THAT IS NOT nil: a *NumError in a new block N: {Func: "Atoi", Num: s's bytes, Err: what the variable ErrRange holds}. Of what was there nothing has turned. (LAID: no walk: one application.) -/
theorem Tryd.strconv_Atoi_range (s : ByteArray) (hlim : s.size ≤ 281474976710656) (h : Lib.atoiAll s.data.toList = .range) (ev : Value) (w : World) (hv : w.cell? ⟨3, 0, none⟩ = some ev) (hev : ev = .nilIface ∨ ∃ te pe, ev = .iface te pe) :
    Calls Tryd.prog 22 #[.string s] w fun e w' => ∃ N, e = .returned (.tuple #[.int .i64 (Lib.atoiSat s.data.toList), .iface 63 (.pointer (some ⟨N, 0, none⟩))]) ∧ w.heap.size ≤ N ∧ w'.heap[N]? = some (.cells #[.string ⟨#[65, 116, 111, 105]⟩, .string s, ev] 79 (0, 0)) ∧ Below w.heap.size w w' := Any.strconv_Atoi_range Tryd.laysC172 s hlim h ev w hv hev
def Tryd.lays206_ren : Go.Shelf.Ren := ⟨fun | 206 => 40 | n => n, fun | 9 => 9 | 4 => 4 | 3 => 3 | n => n, fun | n => n⟩
theorem Tryd.lays206 : Go.Proofs.Lays.n206 Tryd.prog Tryd.lays206_ren := {
  mixed := by kernel_rfl
  f206 := Tryd.func40.trans (congrArg some (by kernel_rfl))
  t3 := Tryd.underlying3
  a3 := Tryd.isAgg3
  z3 := Tryd.sizeOf3
  v3 := Tryd.zeroValue3
  t4 := Tryd.underlying4
  a4 := Tryd.isAgg4
  z4 := Tryd.sizeOf4
  v4 := Tryd.zeroValue4
  t9 := Tryd.underlying9
  a9 := Tryd.isAgg9
  z9 := Tryd.sizeOf9
  v9 := Tryd.zeroValue9 }
open Go.RowKit Go.Lib in
/-- internal/stringslite.HasPrefix (what strings.HasPrefix calls). (LAID: no walk: one application.) -/
theorem Tryd.stringslite_HasPrefix (s p : ByteArray) (w : World) :
    Calls Tryd.prog 40 #[.string s, .string p] w fun e w' => e = .returned (.bool (Lib.hasPrefix s.data.toList p.data.toList)) ∧ w' = w := Any.stringslite_HasPrefix Tryd.lays206 s p w
def Tryd.lays99_ren : Go.Shelf.Ren := ⟨fun | 99 => 33 | 206 => 40 | n => n, fun | 9 => 9 | 4 => 4 | 3 => 3 | n => n, fun | n => n⟩
theorem Tryd.lays99 : Go.Proofs.Lays.n99 Tryd.prog Tryd.lays99_ren := {
  mixed := by kernel_rfl
  f99 := Tryd.func33.trans (congrArg some (by kernel_rfl))
  f206 := Tryd.func40.trans (congrArg some (by kernel_rfl))
  t3 := Tryd.underlying3
  a3 := Tryd.isAgg3
  z3 := Tryd.sizeOf3
  v3 := Tryd.zeroValue3
  t4 := Tryd.underlying4
  a4 := Tryd.isAgg4
  z4 := Tryd.sizeOf4
  v4 := Tryd.zeroValue4
  t9 := Tryd.underlying9
  a9 := Tryd.isAgg9
  z9 := Tryd.sizeOf9
  v9 := Tryd.zeroValue9 }
open Go.RowKit Go.Lib in
/-- strings.HasPrefix: "HasPrefix reports whether the string s begins with prefix.": IT RETURNS 'Lib.hasPrefix s prefix'; the world is as it was. (LAID: no walk: one application.) -/
theorem Tryd.strings_HasPrefix (s p : ByteArray) (w : World) :
    Calls Tryd.prog 33 #[.string s, .string p] w fun e w' => e = .returned (.bool (Lib.hasPrefix s.data.toList p.data.toList)) ∧ w' = w := Any.strings_HasPrefix Tryd.lays99 s p w
def Tryd.lays212_ren : Go.Shelf.Ren := ⟨fun | 212 => 78 | 263 => 80 | 264 => 81 | n => n, fun | 46 => 56 | 51 => 115 | 146 => 127 | 53 => 74 | 148 => 129 | n => n, fun | n => n⟩
theorem Tryd.lays212 : Go.Proofs.Lays.n212 Tryd.prog Tryd.lays212_ren := {
  mixed := by kernel_rfl
  f212 := Tryd.func78.trans (congrArg some (by kernel_rfl))
  f263 := Tryd.func80.trans (congrArg some (by kernel_rfl))
  f264 := Tryd.func81.trans (congrArg some (by kernel_rfl))
  t46 := Tryd.underlying56
  a46 := Tryd.isAgg56
  z46 := Tryd.sizeOf56
  v46 := Tryd.zeroValue56
  t51 := Tryd.underlying115
  a51 := Tryd.isAgg115
  z51 := Tryd.sizeOf115
  v51 := Tryd.zeroValue115
  t53 := Tryd.underlying74
  a53 := Tryd.isAgg74
  z53 := Tryd.sizeOf74
  v53 := Tryd.zeroValue74
  t146 := Tryd.underlying127
  a146 := Tryd.isAgg127
  z146 := Tryd.sizeOf127
  v146 := Tryd.zeroValue127
  t148 := Tryd.underlying129
  a148 := Tryd.isAgg129
  z148 := Tryd.sizeOf129
  v148 := Tryd.zeroValue129 }
open Go.RowKit Go.Lib in
/-- math/bits.Mul: "Mul returns the full-width product of x and y": on a machine of 64 bits: Mul64's. (LAID: no walk: one application.) -/
theorem Tryd.bits_Mul (x y : Nat) (hx : x < 18446744073709551616) (hy : y < 18446744073709551616) (w : World) :
    Calls Tryd.prog 78 #[.int .u64 x, .int .u64 y] w fun e w' => e = .returned (.tuple #[.int .u64 ((x * y / 18446744073709551616 : Nat) : Int), .int .u64 ((x * y % 18446744073709551616 : Nat) : Int)]) ∧ w' = w := Any.bits_Mul Tryd.lays212 x y hx hy w
end Go.Proofs
