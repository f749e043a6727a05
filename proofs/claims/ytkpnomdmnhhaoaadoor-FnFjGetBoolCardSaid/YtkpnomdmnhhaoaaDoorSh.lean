/-
  DERIVED: THE SHELF's CONTRACTS AT THIS DUMP, IN PLAIN WORDS (tools/lay-plain.mjs out of 'TrydShelf.lean', which tools/lay-shelf.mjs wrote): THE SAME DECLARATIONS UNDER THE SAME NAMES: 'import', 'namespace', 'open', 'def', 'theorem' AND NOTHING ELSE: no command of the shelf's: FOR A HAND-IN. Each laying: the table of numbers ('.._ren') and one theorem, a field a fact of the dump's own or the kernel's comparison; each contract: ONE APPLICATION.
-/
import Derived.Shelf.Small.Strs
import Derived.Shelf.Strconv.Atoi
import Derived.Shelf.Strconv.AtoiErrFast
import Derived.Shelf.Strconv.ParseIntEmpty
import Derived.Shelf.Strconv.AtoiFail
import Derived.Shelf.LaysM
import Derived.Shelf.Strconv.Clone
import Derived.Shelf.Strconv.SyntaxError
import Derived.Shelf.LaysC
import Derived.Shelf.Strconv.ToError
import Derived.Shelf.Strconv.Lower
import Derived.Shelf.Strconv.ParseUint10
import Derived.Shelf.Strconv.ParseUint10Empty
import Derived.Shelf.Strconv.ParseUint10Any
import Derived.Shelf.Strconv.ParseInt10
import Derived.Shelf.Strconv.AtoiLong
import Derived.Shelf.Strconv.AtoiInnerAll
import Derived.Shelf.Strconv.RangeError
import Derived.Shelf.Strconv.ToErrorRange
import Derived.Shelf.Strconv.AtoiAll
import Derived.Shelf.Strconv.ErrVarAll
import Derived.Shelf.Strings.Search1
import Derived.Test.YtkpnomdmnhhaoaaDoorProg
namespace Go.Proofs
open Go.Shelf
def Tryd.lays137_ren : Go.Shelf.Ren := ⟨fun | 137 => 68 | 217 => 78 | 266 => 85 | n => n, fun | 9 => 9 | 5 => 5 | 3 => 3 | n => n, fun | n => n⟩
theorem Tryd.lays137 : Go.Proofs.Lays.n137 Tryd.prog Tryd.lays137_ren := {
  mixed := by kernel_rfl
  f137 := Tryd.func68.trans (congrArg some (by kernel_rfl))
  f217 := Tryd.func78.trans (congrArg some (by kernel_rfl))
  f266 := Tryd.func85.trans (congrArg some (by kernel_rfl))
  t3 := Tryd.underlying3
  a3 := Tryd.isAgg3
  z3 := Tryd.sizeOf3
  v3 := Tryd.zeroValue3
  t5 := Tryd.underlying5
  a5 := Tryd.isAgg5
  z5 := Tryd.sizeOf5
  v5 := Tryd.zeroValue5
  t9 := Tryd.underlying9
  a9 := Tryd.isAgg9
  z9 := Tryd.sizeOf9
  v9 := Tryd.zeroValue9 }
open Go.RowKit in
/-- strings.IndexByte: "IndexByte returns the index of the first instance of c in s, or -1 if c is not present in s.": IT RETURNS 'Lib.indexByte s c'; the world is as it was. (LAID: no walk: one application.) -/
theorem Tryd.strings_IndexByte (s : ByteArray) (c : Int) (w : World) :
    Calls Tryd.prog 68 #[.string s, .int .u8 c] w fun e w' => e = .returned (.int .i64 (Lib.indexByte s.data.toList c.toNat.toUInt8)) ∧ w' = w := Any.strings_IndexByte Tryd.lays137 s c w
def Tryd.lays244_ren : Go.Shelf.Ren := ⟨fun | 244 => 73 | 247 => 80 | 287 => 79 | 321 => 86 | 322 => 87 | n => n, fun | 9 => 9 | 3 => 3 | 75 => 46 | 4 => 4 | 5 => 5 | 167 => 126 | 37 => 38 | 0 => 0 | 85 => 127 | 2 => 2 | 53 => 119 | 175 => 120 | 46 => 118 | 21 => 21 | 80 => 151 | n => n, fun | n => n⟩
theorem Tryd.lays244 : Go.Proofs.Lays.n244 Tryd.prog Tryd.lays244_ren := {
  mixed := by kernel_rfl
  f244 := Tryd.func73.trans (congrArg some (by kernel_rfl))
  f247 := Tryd.func80.trans (congrArg some (by kernel_rfl))
  f287 := Tryd.func79.trans (congrArg some (by kernel_rfl))
  f321 := Tryd.func86.trans (congrArg some (by kernel_rfl))
  f322 := Tryd.func87.trans (congrArg some (by kernel_rfl))
  t0 := Tryd.underlying0
  a0 := Tryd.isAgg0
  z0 := Tryd.sizeOf0
  v0 := Tryd.zeroValue0
  t2 := Tryd.underlying2
  a2 := Tryd.isAgg2
  z2 := Tryd.sizeOf2
  v2 := Tryd.zeroValue2
  t3 := Tryd.underlying3
  a3 := Tryd.isAgg3
  z3 := Tryd.sizeOf3
  v3 := Tryd.zeroValue3
  t4 := Tryd.underlying4
  a4 := Tryd.isAgg4
  z4 := Tryd.sizeOf4
  v4 := Tryd.zeroValue4
  t5 := Tryd.underlying5
  a5 := Tryd.isAgg5
  z5 := Tryd.sizeOf5
  v5 := Tryd.zeroValue5
  t9 := Tryd.underlying9
  a9 := Tryd.isAgg9
  z9 := Tryd.sizeOf9
  v9 := Tryd.zeroValue9
  t21 := Tryd.underlying21
  a21 := Tryd.isAgg21
  z21 := Tryd.sizeOf21
  v21 := Tryd.zeroValue21
  t37 := Tryd.underlying38
  a37 := Tryd.isAgg38
  z37 := Tryd.sizeOf38
  v37 := Tryd.zeroValue38
  t46 := Tryd.underlying118
  a46 := Tryd.isAgg118
  z46 := Tryd.sizeOf118
  v46 := Tryd.zeroValue118
  t53 := Tryd.underlying119
  a53 := Tryd.isAgg119
  z53 := Tryd.sizeOf119
  v53 := Tryd.zeroValue119
  t75 := Tryd.underlying46
  a75 := Tryd.isAgg46
  z75 := Tryd.sizeOf46
  v75 := Tryd.zeroValue46
  t85 := Tryd.underlying127
  a85 := Tryd.isAgg127
  z85 := Tryd.sizeOf127
  v85 := Tryd.zeroValue127
  t167 := Tryd.underlying126
  a167 := Tryd.isAgg126
  z167 := Tryd.sizeOf126
  v167 := Tryd.zeroValue126
  t175 := Tryd.underlying120
  a175 := Tryd.isAgg120
  z175 := Tryd.sizeOf120
  v175 := Tryd.zeroValue120 }
open Go.RowKit in
/-- internal/strconv.Atoi, at a decimal numeral of at most 18 bytes: ITS VALUE, AND NO ERROR. The world behind the call: the one new row that '[]byte(s)' lays. (LAID: no walk: one application.) -/
theorem Tryd.internal_strconv_Atoi (s : ByteArray) (n : Int) (hl : s.size ≤ 18) (h : Lib.atoi s.data.toList = some n) (w : World) :
    Calls Tryd.prog 73 #[.string s] w fun e w' => e = .returned (.tuple #[.int .i64 n, .nilIface]) ∧ ∃ t, w' = Lib.bytesWorld w 5 t := Any.internal_strconv_Atoi Tryd.lays244 s n hl h w
def Tryd.lays172_ren : Go.Shelf.Ren := ⟨fun | 172 => 55 | 244 => 73 | 245 => 74 | 247 => 80 | 279 => 81 | 280 => 82 | 281 => 83 | 282 => 84 | 287 => 79 | 316 => 88 | 171 => 89 | 205 => 32 | 321 => 86 | 322 => 87 | 243 => 90 | 246 => 91 | 283 => 92 | 284 => 93 | 285 => 94 | 286 => 95 | 129 => 97 | 317 => 96 | 318 => 98 | 319 => 99 | 320 => 100 | 337 => 101 | 338 => 102 | n => n, fun | 9 => 9 | 3 => 3 | 75 => 46 | 76 => 101 | 4 => 4 | 5 => 5 | 167 => 126 | 37 => 38 | 0 => 0 | 85 => 127 | 2 => 2 | 168 => 129 | 53 => 119 | 175 => 120 | 46 => 118 | 210 => 133 | 127 => 135 | 145 => 99 | 143 => 97 | 21 => 21 | 171 => 137 | 173 => 140 | 212 => 144 | 51 => 145 | 20 => 20 | 213 => 146 | 232 => 149 | 233 => 150 | 80 => 151 | n => n, fun | 15 => 0 | 16 => 1 | 17 => 3 | 18 => 4 | 19 => 5 | n => n⟩
theorem Tryd.lays172 : Go.Proofs.Lays.n172 Tryd.prog Tryd.lays172_ren := {
  mixed := by kernel_rfl
  f129 := Tryd.func97.trans (congrArg some (by kernel_rfl))
  f171 := Tryd.func89.trans (congrArg some (by kernel_rfl))
  f172 := Tryd.func55.trans (congrArg some (by kernel_rfl))
  f205 := Tryd.func32.trans (congrArg some (by kernel_rfl))
  f243 := Tryd.func90.trans (congrArg some (by kernel_rfl))
  f244 := Tryd.func73.trans (congrArg some (by kernel_rfl))
  f245 := Tryd.func74.trans (congrArg some (by kernel_rfl))
  f246 := Tryd.func91.trans (congrArg some (by kernel_rfl))
  f247 := Tryd.func80.trans (congrArg some (by kernel_rfl))
  f279 := Tryd.func81.trans (congrArg some (by kernel_rfl))
  f280 := Tryd.func82.trans (congrArg some (by kernel_rfl))
  f281 := Tryd.func83.trans (congrArg some (by kernel_rfl))
  f282 := Tryd.func84.trans (congrArg some (by kernel_rfl))
  f283 := Tryd.func92.trans (congrArg some (by kernel_rfl))
  f284 := Tryd.func93.trans (congrArg some (by kernel_rfl))
  f285 := Tryd.func94.trans (congrArg some (by kernel_rfl))
  f286 := Tryd.func95.trans (congrArg some (by kernel_rfl))
  f287 := Tryd.func79.trans (congrArg some (by kernel_rfl))
  f316 := Tryd.func88.trans (congrArg some (by kernel_rfl))
  f317 := Tryd.func96.trans (congrArg some (by kernel_rfl))
  f318 := Tryd.func98.trans (congrArg some (by kernel_rfl))
  f319 := Tryd.func99.trans (congrArg some (by kernel_rfl))
  f320 := Tryd.func100.trans (congrArg some (by kernel_rfl))
  f321 := Tryd.func86.trans (congrArg some (by kernel_rfl))
  f322 := Tryd.func87.trans (congrArg some (by kernel_rfl))
  f337 := Tryd.func101.trans (congrArg some (by kernel_rfl))
  f338 := Tryd.func102.trans (congrArg some (by kernel_rfl))
  t0 := Tryd.underlying0
  a0 := Tryd.isAgg0
  z0 := Tryd.sizeOf0
  v0 := Tryd.zeroValue0
  t2 := Tryd.underlying2
  a2 := Tryd.isAgg2
  z2 := Tryd.sizeOf2
  v2 := Tryd.zeroValue2
  t3 := Tryd.underlying3
  a3 := Tryd.isAgg3
  z3 := Tryd.sizeOf3
  v3 := Tryd.zeroValue3
  t4 := Tryd.underlying4
  a4 := Tryd.isAgg4
  z4 := Tryd.sizeOf4
  v4 := Tryd.zeroValue4
  t5 := Tryd.underlying5
  a5 := Tryd.isAgg5
  z5 := Tryd.sizeOf5
  v5 := Tryd.zeroValue5
  t9 := Tryd.underlying9
  a9 := Tryd.isAgg9
  z9 := Tryd.sizeOf9
  v9 := Tryd.zeroValue9
  t20 := Tryd.underlying20
  a20 := Tryd.isAgg20
  z20 := Tryd.sizeOf20
  v20 := Tryd.zeroValue20
  t21 := Tryd.underlying21
  a21 := Tryd.isAgg21
  z21 := Tryd.sizeOf21
  v21 := Tryd.zeroValue21
  t37 := Tryd.underlying38
  a37 := Tryd.isAgg38
  z37 := Tryd.sizeOf38
  v37 := Tryd.zeroValue38
  t46 := Tryd.underlying118
  a46 := Tryd.isAgg118
  z46 := Tryd.sizeOf118
  v46 := Tryd.zeroValue118
  t51 := Tryd.underlying145
  a51 := Tryd.isAgg145
  z51 := Tryd.sizeOf145
  v51 := Tryd.zeroValue145
  t53 := Tryd.underlying119
  a53 := Tryd.isAgg119
  z53 := Tryd.sizeOf119
  v53 := Tryd.zeroValue119
  t75 := Tryd.underlying46
  a75 := Tryd.isAgg46
  z75 := Tryd.sizeOf46
  v75 := Tryd.zeroValue46
  t76 := Tryd.underlying101
  a76 := Tryd.isAgg101
  z76 := Tryd.sizeOf101
  v76 := Tryd.zeroValue101
  t85 := Tryd.underlying127
  a85 := Tryd.isAgg127
  z85 := Tryd.sizeOf127
  v85 := Tryd.zeroValue127
  t127 := Tryd.underlying135
  a127 := Tryd.isAgg135
  z127 := Tryd.sizeOf135
  v127 := Tryd.zeroValue135
  t143 := Tryd.underlying97
  a143 := Tryd.isAgg97
  z143 := Tryd.sizeOf97
  v143 := Tryd.zeroValue97
  t145 := Tryd.underlying99
  a145 := Tryd.isAgg99
  z145 := Tryd.sizeOf99
  v145 := Tryd.zeroValue99
  t167 := Tryd.underlying126
  a167 := Tryd.isAgg126
  z167 := Tryd.sizeOf126
  v167 := Tryd.zeroValue126
  t168 := Tryd.underlying129
  a168 := Tryd.isAgg129
  z168 := Tryd.sizeOf129
  v168 := Tryd.zeroValue129
  t171 := Tryd.underlying137
  a171 := Tryd.isAgg137
  z171 := Tryd.sizeOf137
  v171 := Tryd.zeroValue137
  t173 := Tryd.underlying140
  a173 := Tryd.isAgg140
  z173 := Tryd.sizeOf140
  v173 := Tryd.zeroValue140
  t175 := Tryd.underlying120
  a175 := Tryd.isAgg120
  z175 := Tryd.sizeOf120
  v175 := Tryd.zeroValue120
  t210 := Tryd.underlying133
  a210 := Tryd.isAgg133
  z210 := Tryd.sizeOf133
  v210 := Tryd.zeroValue133
  t212 := Tryd.underlying144
  a212 := Tryd.isAgg144
  z212 := Tryd.sizeOf144
  v212 := Tryd.zeroValue144
  t213 := Tryd.underlying146
  a213 := Tryd.isAgg146
  z213 := Tryd.sizeOf146
  t232 := Tryd.underlying149
  a232 := Tryd.isAgg149
  z232 := Tryd.sizeOf149
  v232 := Tryd.zeroValue149
  t233 := Tryd.underlying150
  a233 := Tryd.isAgg150
  z233 := Tryd.sizeOf150
  v233 := Tryd.zeroValue150
  g15 := by kernel_rfl
  g16 := by kernel_rfl
  g17 := by kernel_rfl
  g18 := by kernel_rfl
  g19 := by kernel_rfl }
open Go.RowKit in
/-- strconv.Atoi: "Atoi is equivalent to ParseInt(s, 10, 0), converted to type int.": AT A DECIMAL NUMERAL OF AT MOST 18 BYTES: its value, and a nil error. The world behind the call: the one new row that the library's '[]byte(s)' lays. (LAID: no walk: one application.) -/
theorem Tryd.strconv_Atoi (s : ByteArray) (n : Int) (hl : s.size ≤ 18) (h : Lib.atoi s.data.toList = some n) (w : World) :
    Calls Tryd.prog 55 #[.string s] w fun e w' => e = .returned (.tuple #[.int .i64 n, .nilIface]) ∧ ∃ t, w' = Lib.bytesWorld w 5 t := Any.strconv_Atoi Tryd.lays172 s n hl h w
open Go.RowKit in
/-- internal/strconv.Atoi, at a string of 1 to 18 bytes THAT IS NO DECIMAL NUMERAL: 0, AND ErrSyntax (the package's own error number 2). The world behind the call: as it was, or with the one new row that '[]byte(s)' lays. (LAID: no walk: one application.) -/
theorem Tryd.internal_strconv_Atoi_err (s : ByteArray) (hl0 : 1 ≤ s.size) (hl : s.size ≤ 18) (h : Lib.atoi s.data.toList = none) (w : World) :
    Calls Tryd.prog 73 #[.string s] w fun e w' => e = .returned (.tuple #[.int .i64 0, (.iface 126 (.int .i64 2))]) ∧ (w' = w ∨ ∃ t, w' = Lib.bytesWorld w 5 t) := Any.internal_strconv_Atoi_err Tryd.lays244 s hl0 hl h w
def Tryd.lays247_ren : Go.Shelf.Ren := ⟨fun | 247 => 80 | 287 => 79 | 321 => 86 | 322 => 87 | n => n, fun | 9 => 9 | 3 => 3 | 2 => 2 | 75 => 46 | 4 => 4 | 167 => 126 | 5 => 5 | 53 => 119 | 175 => 120 | 46 => 118 | 37 => 38 | 0 => 0 | 21 => 21 | 80 => 151 | n => n, fun | n => n⟩
theorem Tryd.lays247 : Go.Proofs.Lays.n247 Tryd.prog Tryd.lays247_ren := {
  mixed := by kernel_rfl
  f247 := Tryd.func80.trans (congrArg some (by kernel_rfl))
  f287 := Tryd.func79.trans (congrArg some (by kernel_rfl))
  f321 := Tryd.func86.trans (congrArg some (by kernel_rfl))
  f322 := Tryd.func87.trans (congrArg some (by kernel_rfl))
  t0 := Tryd.underlying0
  a0 := Tryd.isAgg0
  z0 := Tryd.sizeOf0
  v0 := Tryd.zeroValue0
  t2 := Tryd.underlying2
  a2 := Tryd.isAgg2
  z2 := Tryd.sizeOf2
  v2 := Tryd.zeroValue2
  t3 := Tryd.underlying3
  a3 := Tryd.isAgg3
  z3 := Tryd.sizeOf3
  v3 := Tryd.zeroValue3
  t4 := Tryd.underlying4
  a4 := Tryd.isAgg4
  z4 := Tryd.sizeOf4
  v4 := Tryd.zeroValue4
  t5 := Tryd.underlying5
  a5 := Tryd.isAgg5
  z5 := Tryd.sizeOf5
  v5 := Tryd.zeroValue5
  t9 := Tryd.underlying9
  a9 := Tryd.isAgg9
  z9 := Tryd.sizeOf9
  v9 := Tryd.zeroValue9
  t21 := Tryd.underlying21
  a21 := Tryd.isAgg21
  z21 := Tryd.sizeOf21
  v21 := Tryd.zeroValue21
  t37 := Tryd.underlying38
  a37 := Tryd.isAgg38
  z37 := Tryd.sizeOf38
  v37 := Tryd.zeroValue38
  t46 := Tryd.underlying118
  a46 := Tryd.isAgg118
  z46 := Tryd.sizeOf118
  v46 := Tryd.zeroValue118
  t53 := Tryd.underlying119
  a53 := Tryd.isAgg119
  z53 := Tryd.sizeOf119
  v53 := Tryd.zeroValue119
  t75 := Tryd.underlying46
  a75 := Tryd.isAgg46
  z75 := Tryd.sizeOf46
  v75 := Tryd.zeroValue46
  t167 := Tryd.underlying126
  a167 := Tryd.isAgg126
  z167 := Tryd.sizeOf126
  v167 := Tryd.zeroValue126
  t175 := Tryd.underlying120
  a175 := Tryd.isAgg120
  z175 := Tryd.sizeOf120
  v175 := Tryd.zeroValue120 }
open Go.RowKit in
/-- internal/strconv.ParseInt at "": 'if s == "" { return 0, ErrSyntax }'. The world is as it was. (LAID: no walk: one application.) -/
theorem Tryd.internal_strconv_ParseInt_empty (base bits : Int) (w : World) :
    Calls Tryd.prog 80 #[.string ⟨#[]⟩, .int .i64 base, .int .i64 bits] w fun e w' => e = .returned (.tuple #[.int .i64 0, (.iface 126 (.int .i64 2))]) ∧ w' = w := Any.internal_strconv_ParseInt_empty Tryd.lays247 base bits w
open Go.RowKit in
/-- internal/strconv.Atoi at "". (LAID: no walk: one application.) -/
theorem Tryd.internal_strconv_Atoi_empty (w : World) :
    Calls Tryd.prog 73 #[.string ⟨#[]⟩] w fun e w' => e = .returned (.tuple #[.int .i64 0, (.iface 126 (.int .i64 2))]) ∧ w' = w := Any.internal_strconv_Atoi_empty Tryd.lays244 w
open Go.RowKit in
/-- internal/strconv.Atoi, AT EVERY STRING OF AT MOST 18 BYTES THAT IS NO DECIMAL NUMERAL: 0, and ErrSyntax. (LAID: no walk: one application.) -/
theorem Tryd.internal_strconv_Atoi_fail (s : ByteArray) (hl : s.size ≤ 18) (h : Lib.atoi s.data.toList = none) (w : World) :
    Calls Tryd.prog 73 #[.string s] w fun e w' => e = .returned (.tuple #[.int .i64 0, (.iface 126 (.int .i64 2))]) ∧ (w' = w ∨ ∃ t, w' = Lib.bytesWorld w 5 t) := Any.internal_strconv_Atoi_fail Tryd.lays244 s hl h w
def Tryd.laysM316_ren : Go.Shelf.Ren := ⟨fun | 316 => 88 | n => n, fun | 9 => 9 | 3 => 3 | 4 => 4 | 37 => 38 | 0 => 0 | 127 => 135 | 5 => 5 | n => n, fun | n => n⟩
theorem Tryd.laysM316 : Go.Proofs.LaysM.n316 Tryd.prog Tryd.laysM316_ren := {
  mixed := by kernel_rfl
  f316 := Tryd.func88.trans (congrArg some (by kernel_rfl))
  t0 := Tryd.underlying0
  a0 := Tryd.isAgg0
  z0 := Tryd.sizeOf0
  v0 := Tryd.zeroValue0
  t3 := Tryd.underlying3
  a3 := Tryd.isAgg3
  z3 := Tryd.sizeOf3
  v3 := Tryd.zeroValue3
  t4 := Tryd.underlying4
  a4 := Tryd.isAgg4
  z4 := Tryd.sizeOf4
  v4 := Tryd.zeroValue4
  t9 := Tryd.underlying9
  a9 := Tryd.isAgg9
  z9 := Tryd.sizeOf9
  v9 := Tryd.zeroValue9
  t37 := Tryd.underlying38
  a37 := Tryd.isAgg38
  z37 := Tryd.sizeOf38
  v37 := Tryd.zeroValue38
  t127 := Tryd.underlying135
  a127 := Tryd.isAgg135
  z127 := Tryd.sizeOf135
  v127 := Tryd.zeroValue135
  t5 := Tryd.underlying5
  a5 := Tryd.isAgg5
  z5 := Tryd.sizeOf5
  v5 := Tryd.zeroValue5
  i0 := by kernel_rfl
  i3 := by kernel_rfl
  i4 := by kernel_rfl
  i5 := by kernel_rfl
  i9 := by kernel_rfl
  i37 := by kernel_rfl
  i127 := by kernel_rfl }
open Go.RowKit in
/-- internal/stringslite.Clone (what strings.Clone calls): "Clone returns a fresh copy of s.": THE SAME BYTES. Of what was there nothing has turned (a new row is laid, and frozen, where s is not empty). (LAID: no walk: one application.) -/
theorem Tryd.stringslite_Clone (s : ByteArray) (w : World) (hlim : s.size ≤ 281474976710656) :
    Calls Tryd.prog 88 #[.string s] w fun e w' => e = .returned (.string s) ∧ Below w.heap.size w w' := Any.stringslite_Clone Tryd.laysM316 s w hlim
def Tryd.laysM279_ren : Go.Shelf.Ren := ⟨fun | 279 => 81 | 316 => 88 | n => n, fun | 9 => 9 | 168 => 129 | 75 => 46 | 210 => 133 | 3 => 3 | 4 => 4 | 37 => 38 | 0 => 0 | 127 => 135 | 80 => 151 | 5 => 5 | n => n, fun | 15 => 0 | n => n⟩
theorem Tryd.laysM279 : Go.Proofs.LaysM.n279 Tryd.prog Tryd.laysM279_ren := {
  mixed := by kernel_rfl
  f279 := Tryd.func81.trans (congrArg some (by kernel_rfl))
  f316 := Tryd.func88.trans (congrArg some (by kernel_rfl))
  t0 := Tryd.underlying0
  a0 := Tryd.isAgg0
  z0 := Tryd.sizeOf0
  v0 := Tryd.zeroValue0
  t3 := Tryd.underlying3
  a3 := Tryd.isAgg3
  z3 := Tryd.sizeOf3
  v3 := Tryd.zeroValue3
  t4 := Tryd.underlying4
  a4 := Tryd.isAgg4
  z4 := Tryd.sizeOf4
  v4 := Tryd.zeroValue4
  t9 := Tryd.underlying9
  a9 := Tryd.isAgg9
  z9 := Tryd.sizeOf9
  v9 := Tryd.zeroValue9
  t37 := Tryd.underlying38
  a37 := Tryd.isAgg38
  z37 := Tryd.sizeOf38
  v37 := Tryd.zeroValue38
  t75 := Tryd.underlying46
  a75 := Tryd.isAgg46
  z75 := Tryd.sizeOf46
  v75 := Tryd.zeroValue46
  t127 := Tryd.underlying135
  a127 := Tryd.isAgg135
  z127 := Tryd.sizeOf135
  v127 := Tryd.zeroValue135
  t168 := Tryd.underlying129
  a168 := Tryd.isAgg129
  z168 := Tryd.sizeOf129
  v168 := Tryd.zeroValue129
  t210 := Tryd.underlying133
  a210 := Tryd.isAgg133
  z210 := Tryd.sizeOf133
  v210 := Tryd.zeroValue133
  g15 := by kernel_rfl
  t5 := Tryd.underlying5
  a5 := Tryd.isAgg5
  z5 := Tryd.sizeOf5
  v5 := Tryd.zeroValue5
  t80 := Tryd.underlying151
  a80 := Tryd.isAgg151
  z80 := Tryd.sizeOf151
  v80 := Tryd.zeroValue151
  i0 := by kernel_rfl
  i3 := by kernel_rfl
  i4 := by kernel_rfl
  i5 := by kernel_rfl
  i9 := by kernel_rfl
  i37 := by kernel_rfl
  i75 := by kernel_rfl
  i80 := by kernel_rfl
  i127 := by kernel_rfl
  i168 := by kernel_rfl
  i210 := by kernel_rfl
  m15 := by kernel_rfl }
open Go.RowKit in
/-- strconv.syntaxError: '&NumError{fn, stringslite.Clone(str), ErrSyntax}': A POINTER TO A NEW BLOCK that holds fn, str's bytes, and what the variable ErrSyntax holds. Of what was there nothing has turned. (LAID: no walk: one application.) -/
theorem Tryd.strconv_syntaxError (fn s : ByteArray) (ev : Value) (w : World) (hlim : s.size ≤ 281474976710656) (hv : w.cell? ⟨0, 0, none⟩ = some ev) (hev : ev = .nilIface ∨ ∃ te pe, ev = .iface te pe) :
    Calls Tryd.prog 81 #[.string fn, .string s] w fun e w' => ∃ N, e = .returned (.pointer (some ⟨N, 0, none⟩)) ∧ w.heap.size ≤ N ∧ w'.heap[N]? = some (.cells #[.string fn, .string s, ev] 133 (0, 0)) ∧ Below w.heap.size w w' := Any.strconv_syntaxError Tryd.laysM279 fn s ev w hlim hv hev
def Tryd.laysC245_ren : Go.Shelf.Ren := ⟨fun | 245 => 74 | 279 => 81 | 280 => 82 | 281 => 83 | 282 => 84 | 316 => 88 | 171 => 89 | 205 => 32 | 243 => 90 | 246 => 91 | 283 => 92 | 284 => 93 | 285 => 94 | 286 => 95 | 129 => 97 | 317 => 96 | 318 => 98 | 319 => 99 | 320 => 100 | 337 => 101 | 338 => 102 | n => n, fun | 9 => 9 | 3 => 3 | 75 => 46 | 167 => 126 | 4 => 4 | 168 => 129 | 210 => 133 | 37 => 38 | 0 => 0 | 127 => 135 | 145 => 99 | 143 => 97 | 2 => 2 | 171 => 137 | 53 => 119 | 5 => 5 | 173 => 140 | 212 => 144 | 51 => 145 | 20 => 20 | 213 => 146 | 46 => 118 | 232 => 149 | 233 => 150 | 80 => 151 | n => n, fun | 15 => 0 | 16 => 1 | 17 => 3 | 18 => 4 | 19 => 5 | n => n⟩
theorem Tryd.laysC245 : Go.Proofs.LaysC.n245 Tryd.prog Tryd.laysC245_ren := {
  mixed := by kernel_rfl
  f129 := Tryd.func97.trans (congrArg some (by kernel_rfl))
  f171 := Tryd.func89.trans (congrArg some (by kernel_rfl))
  f205 := Tryd.func32.trans (congrArg some (by kernel_rfl))
  f243 := Tryd.func90.trans (congrArg some (by kernel_rfl))
  f245 := Tryd.func74.trans (congrArg some (by kernel_rfl))
  f246 := Tryd.func91.trans (congrArg some (by kernel_rfl))
  f279 := Tryd.func81.trans (congrArg some (by kernel_rfl))
  f280 := Tryd.func82.trans (congrArg some (by kernel_rfl))
  f281 := Tryd.func83.trans (congrArg some (by kernel_rfl))
  f282 := Tryd.func84.trans (congrArg some (by kernel_rfl))
  f283 := Tryd.func92.trans (congrArg some (by kernel_rfl))
  f284 := Tryd.func93.trans (congrArg some (by kernel_rfl))
  f285 := Tryd.func94.trans (congrArg some (by kernel_rfl))
  f286 := Tryd.func95.trans (congrArg some (by kernel_rfl))
  f316 := Tryd.func88.trans (congrArg some (by kernel_rfl))
  f317 := Tryd.func96.trans (congrArg some (by kernel_rfl))
  f318 := Tryd.func98.trans (congrArg some (by kernel_rfl))
  f319 := Tryd.func99.trans (congrArg some (by kernel_rfl))
  f320 := Tryd.func100.trans (congrArg some (by kernel_rfl))
  f337 := Tryd.func101.trans (congrArg some (by kernel_rfl))
  f338 := Tryd.func102.trans (congrArg some (by kernel_rfl))
  t0 := Tryd.underlying0
  a0 := Tryd.isAgg0
  z0 := Tryd.sizeOf0
  v0 := Tryd.zeroValue0
  t2 := Tryd.underlying2
  a2 := Tryd.isAgg2
  z2 := Tryd.sizeOf2
  v2 := Tryd.zeroValue2
  t3 := Tryd.underlying3
  a3 := Tryd.isAgg3
  z3 := Tryd.sizeOf3
  v3 := Tryd.zeroValue3
  t4 := Tryd.underlying4
  a4 := Tryd.isAgg4
  z4 := Tryd.sizeOf4
  v4 := Tryd.zeroValue4
  t5 := Tryd.underlying5
  a5 := Tryd.isAgg5
  z5 := Tryd.sizeOf5
  v5 := Tryd.zeroValue5
  t9 := Tryd.underlying9
  a9 := Tryd.isAgg9
  z9 := Tryd.sizeOf9
  v9 := Tryd.zeroValue9
  t20 := Tryd.underlying20
  a20 := Tryd.isAgg20
  z20 := Tryd.sizeOf20
  v20 := Tryd.zeroValue20
  t37 := Tryd.underlying38
  a37 := Tryd.isAgg38
  z37 := Tryd.sizeOf38
  v37 := Tryd.zeroValue38
  t46 := Tryd.underlying118
  a46 := Tryd.isAgg118
  z46 := Tryd.sizeOf118
  v46 := Tryd.zeroValue118
  t51 := Tryd.underlying145
  a51 := Tryd.isAgg145
  z51 := Tryd.sizeOf145
  v51 := Tryd.zeroValue145
  t53 := Tryd.underlying119
  a53 := Tryd.isAgg119
  z53 := Tryd.sizeOf119
  v53 := Tryd.zeroValue119
  t75 := Tryd.underlying46
  a75 := Tryd.isAgg46
  z75 := Tryd.sizeOf46
  v75 := Tryd.zeroValue46
  t127 := Tryd.underlying135
  a127 := Tryd.isAgg135
  z127 := Tryd.sizeOf135
  v127 := Tryd.zeroValue135
  t143 := Tryd.underlying97
  a143 := Tryd.isAgg97
  z143 := Tryd.sizeOf97
  v143 := Tryd.zeroValue97
  t145 := Tryd.underlying99
  a145 := Tryd.isAgg99
  z145 := Tryd.sizeOf99
  v145 := Tryd.zeroValue99
  t167 := Tryd.underlying126
  a167 := Tryd.isAgg126
  z167 := Tryd.sizeOf126
  v167 := Tryd.zeroValue126
  t168 := Tryd.underlying129
  a168 := Tryd.isAgg129
  z168 := Tryd.sizeOf129
  v168 := Tryd.zeroValue129
  t171 := Tryd.underlying137
  a171 := Tryd.isAgg137
  z171 := Tryd.sizeOf137
  v171 := Tryd.zeroValue137
  t173 := Tryd.underlying140
  a173 := Tryd.isAgg140
  z173 := Tryd.sizeOf140
  v173 := Tryd.zeroValue140
  t210 := Tryd.underlying133
  a210 := Tryd.isAgg133
  z210 := Tryd.sizeOf133
  v210 := Tryd.zeroValue133
  t212 := Tryd.underlying144
  a212 := Tryd.isAgg144
  z212 := Tryd.sizeOf144
  v212 := Tryd.zeroValue144
  t213 := Tryd.underlying146
  a213 := Tryd.isAgg146
  z213 := Tryd.sizeOf146
  t232 := Tryd.underlying149
  a232 := Tryd.isAgg149
  z232 := Tryd.sizeOf149
  v232 := Tryd.zeroValue149
  t233 := Tryd.underlying150
  a233 := Tryd.isAgg150
  z233 := Tryd.sizeOf150
  v233 := Tryd.zeroValue150
  g15 := by kernel_rfl
  g16 := by kernel_rfl
  g17 := by kernel_rfl
  g18 := by kernel_rfl
  g19 := by kernel_rfl
  t80 := Tryd.underlying151
  a80 := Tryd.isAgg151
  z80 := Tryd.sizeOf151
  v80 := Tryd.zeroValue151
  i0 := by kernel_rfl
  i2 := by kernel_rfl
  i3 := by kernel_rfl
  i4 := by kernel_rfl
  i5 := by kernel_rfl
  i9 := by kernel_rfl
  i20 := by kernel_rfl
  i37 := by kernel_rfl
  i46 := by kernel_rfl
  i51 := by kernel_rfl
  i53 := by kernel_rfl
  i75 := by kernel_rfl
  i80 := by kernel_rfl
  i127 := by kernel_rfl
  i143 := by kernel_rfl
  i145 := by kernel_rfl
  i167 := by kernel_rfl
  i168 := by kernel_rfl
  i171 := by kernel_rfl
  i173 := by kernel_rfl
  i210 := by kernel_rfl
  i212 := by kernel_rfl
  i232 := by kernel_rfl
  i233 := by kernel_rfl
  m15 := by kernel_rfl
  m16 := by kernel_rfl
  m17 := by kernel_rfl
  m18 := by kernel_rfl
  m19 := by kernel_rfl
  c0 := by kernel_rfl
  c2 := by kernel_rfl
  c3 := by kernel_rfl
  c4 := by kernel_rfl
  c5 := by kernel_rfl
  c9 := by kernel_rfl
  c20 := by kernel_rfl
  c37 := by kernel_rfl
  c46 := by kernel_rfl
  c51 := by kernel_rfl
  c53 := by kernel_rfl
  c75 := by kernel_rfl
  c80 := by kernel_rfl
  c127 := by kernel_rfl
  c143 := by kernel_rfl
  c145 := by kernel_rfl
  c167 := by kernel_rfl
  c168 := by kernel_rfl
  c171 := by kernel_rfl
  c173 := by kernel_rfl
  c210 := by kernel_rfl
  c212 := by kernel_rfl
  c213 := by kernel_rfl
  c232 := by kernel_rfl
  c233 := by kernel_rfl }
open Go.RowKit in
/-- strconv.toError, at the inner package's ErrSyntax: 'syntaxError(fn, s)' as an error: A *NumError IN A NEW BLOCK. (LAID: no walk: one application.) -/
theorem Tryd.strconv_toError_syntax (fn s : ByteArray) (base bits : Int) (ev : Value) (w : World) (hlim : s.size ≤ 281474976710656) (hv : w.cell? ⟨0, 0, none⟩ = some ev) (hev : ev = .nilIface ∨ ∃ te pe, ev = .iface te pe) :
    Calls Tryd.prog 74 #[.string fn, .string s, .int .i64 base, .int .i64 bits, .iface 126 (.int .i64 2)] w fun e w' => ∃ N, e = .returned (.iface 129 (.pointer (some ⟨N, 0, none⟩))) ∧ w.heap.size ≤ N ∧ w'.heap[N]? = some (.cells #[.string fn, .string s, ev] 133 (0, 0)) ∧ Below w.heap.size w w' := Any.strconv_toError_syntax Tryd.laysC245 fn s base bits ev w hlim hv hev
def Tryd.lays321_ren : Go.Shelf.Ren := ⟨fun | 321 => 86 | n => n, fun | 5 => 5 | n => n, fun | n => n⟩
theorem Tryd.lays321 : Go.Proofs.Lays.n321 Tryd.prog Tryd.lays321_ren := {
  mixed := by kernel_rfl
  f321 := Tryd.func86.trans (congrArg some (by kernel_rfl))
  t5 := Tryd.underlying5
  a5 := Tryd.isAgg5
  z5 := Tryd.sizeOf5
  v5 := Tryd.zeroValue5 }
open Go.RowKit in
/-- internal/strconv.lower: 'c | ('x' - 'X')': the bit 32 set. The world is as it was. (LAID: no walk: one application.) -/
theorem Tryd.internal_strconv_lower (c : Int) (w : World) :
    Calls Tryd.prog 86 #[.int .u8 c] w fun e w' => e = .returned (.int .u8 (bits .or .u8 c 32)) ∧ w' = w := Any.internal_strconv_lower Tryd.lays321 c w
def Tryd.lays287_ren : Go.Shelf.Ren := ⟨fun | 287 => 79 | 321 => 86 | 322 => 87 | n => n, fun | 9 => 9 | 3 => 3 | 53 => 119 | 75 => 46 | 4 => 4 | 167 => 126 | 5 => 5 | 46 => 118 | 37 => 38 | 0 => 0 | 21 => 21 | 80 => 151 | n => n, fun | n => n⟩
theorem Tryd.lays287 : Go.Proofs.Lays.n287 Tryd.prog Tryd.lays287_ren := {
  mixed := by kernel_rfl
  f287 := Tryd.func79.trans (congrArg some (by kernel_rfl))
  f321 := Tryd.func86.trans (congrArg some (by kernel_rfl))
  f322 := Tryd.func87.trans (congrArg some (by kernel_rfl))
  t0 := Tryd.underlying0
  a0 := Tryd.isAgg0
  z0 := Tryd.sizeOf0
  v0 := Tryd.zeroValue0
  t3 := Tryd.underlying3
  a3 := Tryd.isAgg3
  z3 := Tryd.sizeOf3
  v3 := Tryd.zeroValue3
  t4 := Tryd.underlying4
  a4 := Tryd.isAgg4
  z4 := Tryd.sizeOf4
  v4 := Tryd.zeroValue4
  t5 := Tryd.underlying5
  a5 := Tryd.isAgg5
  z5 := Tryd.sizeOf5
  v5 := Tryd.zeroValue5
  t9 := Tryd.underlying9
  a9 := Tryd.isAgg9
  z9 := Tryd.sizeOf9
  v9 := Tryd.zeroValue9
  t21 := Tryd.underlying21
  a21 := Tryd.isAgg21
  z21 := Tryd.sizeOf21
  v21 := Tryd.zeroValue21
  t37 := Tryd.underlying38
  a37 := Tryd.isAgg38
  z37 := Tryd.sizeOf38
  v37 := Tryd.zeroValue38
  t46 := Tryd.underlying118
  a46 := Tryd.isAgg118
  z46 := Tryd.sizeOf118
  v46 := Tryd.zeroValue118
  t53 := Tryd.underlying119
  a53 := Tryd.isAgg119
  z53 := Tryd.sizeOf119
  v53 := Tryd.zeroValue119
  t75 := Tryd.underlying46
  a75 := Tryd.isAgg46
  z75 := Tryd.sizeOf46
  v75 := Tryd.zeroValue46
  t167 := Tryd.underlying126
  a167 := Tryd.isAgg126
  z167 := Tryd.sizeOf126
  v167 := Tryd.zeroValue126 }
open Go.RowKit in
/-- internal/strconv.ParseUint(s, 10, 0), s NOT EMPTY: 'Lib.parseUint10 0' OF ITS BYTES: the number; or (0, ErrSyntax); or (the greatest uint64, ErrRange). The world behind the call: the one new row that '[]byte(s)' lays. (LAID: no walk: one application.) -/
theorem Tryd.internal_strconv_ParseUint_10 (t : ByteArray) (hne : t.size ≠ 0) (hmax : t.size ≤ 9223372036854775806) (w : World) :
    Calls Tryd.prog 79 #[.string t, .int .i64 10, .int .i64 0] w fun e w' => e = .returned (Lib.uintTuple 126 (Lib.parseUint10 0 t.data.toList)) ∧ w' = Lib.bytesWorld w 5 t := Any.internal_strconv_ParseUint_10 Tryd.lays287 t hne hmax w
open Go.RowKit in
/-- internal/strconv.ParseUint("", 10, 0): (0, ErrSyntax). The world is as it was. (LAID: no walk: one application.) -/
theorem Tryd.internal_strconv_ParseUint_10_empty (w : World) :
    Calls Tryd.prog 79 #[.string ⟨#[]⟩, .int .i64 10, .int .i64 0] w fun e w' => e = .returned (Lib.uintTuple 126 .syntax) ∧ w' = w := Any.internal_strconv_ParseUint_10_empty Tryd.lays287 w
open Go.RowKit in
/-- internal/strconv.ParseUint(s, 10, 0): 'Lib.parseMag' OF ITS BYTES. The world: as it was (the empty string), or with the one new row that '[]byte(s)' lays. (LAID: no walk: one application.) -/
theorem Tryd.internal_strconv_ParseUint_10_any (t : ByteArray) (hmax : t.size ≤ 9223372036854775806) (w : World) :
    Calls Tryd.prog 79 #[.string t, .int .i64 10, .int .i64 0] w fun e w' => e = .returned (Lib.uintTuple 126 (Lib.parseMag t.data.toList)) ∧ (w' = w ∨ w' = Lib.bytesWorld w 5 t) := Any.internal_strconv_ParseUint_10_any Tryd.lays287 t hmax w
def Tryd.laysC247_ren : Go.Shelf.Ren := ⟨fun | 247 => 80 | 287 => 79 | 321 => 86 | 322 => 87 | n => n, fun | 9 => 9 | 3 => 3 | 2 => 2 | 75 => 46 | 4 => 4 | 167 => 126 | 5 => 5 | 53 => 119 | 175 => 120 | 46 => 118 | 37 => 38 | 0 => 0 | 21 => 21 | 80 => 151 | n => n, fun | n => n⟩
theorem Tryd.laysC247 : Go.Proofs.LaysC.n247 Tryd.prog Tryd.laysC247_ren := {
  mixed := by kernel_rfl
  f247 := Tryd.func80.trans (congrArg some (by kernel_rfl))
  f287 := Tryd.func79.trans (congrArg some (by kernel_rfl))
  f321 := Tryd.func86.trans (congrArg some (by kernel_rfl))
  f322 := Tryd.func87.trans (congrArg some (by kernel_rfl))
  t0 := Tryd.underlying0
  a0 := Tryd.isAgg0
  z0 := Tryd.sizeOf0
  v0 := Tryd.zeroValue0
  t2 := Tryd.underlying2
  a2 := Tryd.isAgg2
  z2 := Tryd.sizeOf2
  v2 := Tryd.zeroValue2
  t3 := Tryd.underlying3
  a3 := Tryd.isAgg3
  z3 := Tryd.sizeOf3
  v3 := Tryd.zeroValue3
  t4 := Tryd.underlying4
  a4 := Tryd.isAgg4
  z4 := Tryd.sizeOf4
  v4 := Tryd.zeroValue4
  t5 := Tryd.underlying5
  a5 := Tryd.isAgg5
  z5 := Tryd.sizeOf5
  v5 := Tryd.zeroValue5
  t9 := Tryd.underlying9
  a9 := Tryd.isAgg9
  z9 := Tryd.sizeOf9
  v9 := Tryd.zeroValue9
  t21 := Tryd.underlying21
  a21 := Tryd.isAgg21
  z21 := Tryd.sizeOf21
  v21 := Tryd.zeroValue21
  t37 := Tryd.underlying38
  a37 := Tryd.isAgg38
  z37 := Tryd.sizeOf38
  v37 := Tryd.zeroValue38
  t46 := Tryd.underlying118
  a46 := Tryd.isAgg118
  z46 := Tryd.sizeOf118
  v46 := Tryd.zeroValue118
  t53 := Tryd.underlying119
  a53 := Tryd.isAgg119
  z53 := Tryd.sizeOf119
  v53 := Tryd.zeroValue119
  t75 := Tryd.underlying46
  a75 := Tryd.isAgg46
  z75 := Tryd.sizeOf46
  v75 := Tryd.zeroValue46
  t167 := Tryd.underlying126
  a167 := Tryd.isAgg126
  z167 := Tryd.sizeOf126
  v167 := Tryd.zeroValue126
  t175 := Tryd.underlying120
  a175 := Tryd.isAgg120
  z175 := Tryd.sizeOf120
  v175 := Tryd.zeroValue120
  t80 := Tryd.underlying151
  a80 := Tryd.isAgg151
  z80 := Tryd.sizeOf151
  v80 := Tryd.zeroValue151
  i0 := by kernel_rfl
  i2 := by kernel_rfl
  i3 := by kernel_rfl
  i4 := by kernel_rfl
  i5 := by kernel_rfl
  i9 := by kernel_rfl
  i21 := by kernel_rfl
  i37 := by kernel_rfl
  i46 := by kernel_rfl
  i53 := by kernel_rfl
  i75 := by kernel_rfl
  i80 := by kernel_rfl
  i167 := by kernel_rfl
  i175 := by kernel_rfl
  c0 := by kernel_rfl
  c2 := by kernel_rfl
  c3 := by kernel_rfl
  c4 := by kernel_rfl
  c5 := by kernel_rfl
  c9 := by kernel_rfl
  c21 := by kernel_rfl
  c37 := by kernel_rfl
  c46 := by kernel_rfl
  c53 := by kernel_rfl
  c75 := by kernel_rfl
  c80 := by kernel_rfl
  c167 := by kernel_rfl
  c175 := by kernel_rfl }
open Go.RowKit in
/-- internal/strconv.ParseInt(s, 10, 0), s NOT EMPTY: 'Lib.atoiAll' OF ITS BYTES: (the number, nil); (0, ErrSyntax); (the greatest or the least int64 by the sign, ErrRange). The world: as it was, or with the one new row that '[]byte(..)' lays. (LAID: no walk: one application.) -/
theorem Tryd.internal_strconv_ParseInt_10 (s : ByteArray) (hne : s.size ≠ 0) (hmax : s.size ≤ 9223372036854775806) (w : World) :
    Calls Tryd.prog 80 #[.string s, .int .i64 10, .int .i64 0] w fun e w' => e = .returned (Lib.intTuple 126 (Lib.atoiSat s.data.toList) (Lib.atoiAll s.data.toList)) ∧ (w' = w ∨ ∃ t, w' = Lib.bytesWorld w 5 t) := Any.internal_strconv_ParseInt_10 Tryd.laysC247 s hne hmax w
def Tryd.laysC244_ren : Go.Shelf.Ren := ⟨fun | 244 => 73 | 247 => 80 | 287 => 79 | 321 => 86 | 322 => 87 | n => n, fun | 9 => 9 | 3 => 3 | 75 => 46 | 4 => 4 | 5 => 5 | 167 => 126 | 37 => 38 | 0 => 0 | 85 => 127 | 2 => 2 | 53 => 119 | 175 => 120 | 46 => 118 | 21 => 21 | 80 => 151 | n => n, fun | n => n⟩
theorem Tryd.laysC244 : Go.Proofs.LaysC.n244 Tryd.prog Tryd.laysC244_ren := {
  mixed := by kernel_rfl
  f244 := Tryd.func73.trans (congrArg some (by kernel_rfl))
  f247 := Tryd.func80.trans (congrArg some (by kernel_rfl))
  f287 := Tryd.func79.trans (congrArg some (by kernel_rfl))
  f321 := Tryd.func86.trans (congrArg some (by kernel_rfl))
  f322 := Tryd.func87.trans (congrArg some (by kernel_rfl))
  t0 := Tryd.underlying0
  a0 := Tryd.isAgg0
  z0 := Tryd.sizeOf0
  v0 := Tryd.zeroValue0
  t2 := Tryd.underlying2
  a2 := Tryd.isAgg2
  z2 := Tryd.sizeOf2
  v2 := Tryd.zeroValue2
  t3 := Tryd.underlying3
  a3 := Tryd.isAgg3
  z3 := Tryd.sizeOf3
  v3 := Tryd.zeroValue3
  t4 := Tryd.underlying4
  a4 := Tryd.isAgg4
  z4 := Tryd.sizeOf4
  v4 := Tryd.zeroValue4
  t5 := Tryd.underlying5
  a5 := Tryd.isAgg5
  z5 := Tryd.sizeOf5
  v5 := Tryd.zeroValue5
  t9 := Tryd.underlying9
  a9 := Tryd.isAgg9
  z9 := Tryd.sizeOf9
  v9 := Tryd.zeroValue9
  t21 := Tryd.underlying21
  a21 := Tryd.isAgg21
  z21 := Tryd.sizeOf21
  v21 := Tryd.zeroValue21
  t37 := Tryd.underlying38
  a37 := Tryd.isAgg38
  z37 := Tryd.sizeOf38
  v37 := Tryd.zeroValue38
  t46 := Tryd.underlying118
  a46 := Tryd.isAgg118
  z46 := Tryd.sizeOf118
  v46 := Tryd.zeroValue118
  t53 := Tryd.underlying119
  a53 := Tryd.isAgg119
  z53 := Tryd.sizeOf119
  v53 := Tryd.zeroValue119
  t75 := Tryd.underlying46
  a75 := Tryd.isAgg46
  z75 := Tryd.sizeOf46
  v75 := Tryd.zeroValue46
  t85 := Tryd.underlying127
  a85 := Tryd.isAgg127
  z85 := Tryd.sizeOf127
  v85 := Tryd.zeroValue127
  t167 := Tryd.underlying126
  a167 := Tryd.isAgg126
  z167 := Tryd.sizeOf126
  v167 := Tryd.zeroValue126
  t175 := Tryd.underlying120
  a175 := Tryd.isAgg120
  z175 := Tryd.sizeOf120
  v175 := Tryd.zeroValue120
  t80 := Tryd.underlying151
  a80 := Tryd.isAgg151
  z80 := Tryd.sizeOf151
  v80 := Tryd.zeroValue151
  i0 := by kernel_rfl
  i2 := by kernel_rfl
  i3 := by kernel_rfl
  i4 := by kernel_rfl
  i5 := by kernel_rfl
  i9 := by kernel_rfl
  i21 := by kernel_rfl
  i37 := by kernel_rfl
  i46 := by kernel_rfl
  i53 := by kernel_rfl
  i75 := by kernel_rfl
  i80 := by kernel_rfl
  i85 := by kernel_rfl
  i167 := by kernel_rfl
  i175 := by kernel_rfl
  c0 := by kernel_rfl
  c2 := by kernel_rfl
  c3 := by kernel_rfl
  c4 := by kernel_rfl
  c5 := by kernel_rfl
  c9 := by kernel_rfl
  c21 := by kernel_rfl
  c37 := by kernel_rfl
  c46 := by kernel_rfl
  c53 := by kernel_rfl
  c75 := by kernel_rfl
  c80 := by kernel_rfl
  c85 := by kernel_rfl
  c167 := by kernel_rfl
  c175 := by kernel_rfl }
open Go.RowKit in
/-- internal/strconv.Atoi, AT EVERY STRING OF 19 BYTES OR MORE: 'Lib.atoiAll' OF ITS BYTES: (the number, nil); (0, ErrSyntax); (the greatest or the least int by the sign, ErrRange). (LAID: no walk: one application.) -/
theorem Tryd.internal_strconv_Atoi_long (s : ByteArray) (h19 : 19 ≤ s.size) (hmax : s.size ≤ 9223372036854775806) (w : World) :
    Calls Tryd.prog 73 #[.string s] w fun e w' => e = .returned (Lib.intTuple 126 (Lib.atoiSat s.data.toList) (Lib.atoiAll s.data.toList)) ∧ (w' = w ∨ ∃ t, w' = Lib.bytesWorld w 5 t) := Any.internal_strconv_Atoi_long Tryd.laysC244 s h19 hmax w
open Go.RowKit in
/-- internal/strconv.Atoi, AT EVERY STRING: 'Lib.atoiAll' OF ITS BYTES: (the number, nil); (0, ErrSyntax); (the greatest or the least int by the sign, ErrRange). The world: as it was, or with the one new row that '[]byte(..)' lays. (LAID: no walk: one application.) -/
theorem Tryd.internal_strconv_Atoi_all (s : ByteArray) (hmax : s.size ≤ 9223372036854775806) (w : World) :
    Calls Tryd.prog 73 #[.string s] w fun e w' => e = .returned (Lib.intTuple 126 (Lib.atoiSat s.data.toList) (Lib.atoiAll s.data.toList)) ∧ (w' = w ∨ ∃ t, w' = Lib.bytesWorld w 5 t) := Any.internal_strconv_Atoi_all Tryd.laysC244 s hmax w
def Tryd.laysM280_ren : Go.Shelf.Ren := ⟨fun | 280 => 82 | 316 => 88 | n => n, fun | 9 => 9 | 168 => 129 | 75 => 46 | 210 => 133 | 3 => 3 | 4 => 4 | 37 => 38 | 0 => 0 | 127 => 135 | 80 => 151 | 5 => 5 | n => n, fun | 16 => 1 | n => n⟩
theorem Tryd.laysM280 : Go.Proofs.LaysM.n280 Tryd.prog Tryd.laysM280_ren := {
  mixed := by kernel_rfl
  f280 := Tryd.func82.trans (congrArg some (by kernel_rfl))
  f316 := Tryd.func88.trans (congrArg some (by kernel_rfl))
  t0 := Tryd.underlying0
  a0 := Tryd.isAgg0
  z0 := Tryd.sizeOf0
  v0 := Tryd.zeroValue0
  t3 := Tryd.underlying3
  a3 := Tryd.isAgg3
  z3 := Tryd.sizeOf3
  v3 := Tryd.zeroValue3
  t4 := Tryd.underlying4
  a4 := Tryd.isAgg4
  z4 := Tryd.sizeOf4
  v4 := Tryd.zeroValue4
  t9 := Tryd.underlying9
  a9 := Tryd.isAgg9
  z9 := Tryd.sizeOf9
  v9 := Tryd.zeroValue9
  t37 := Tryd.underlying38
  a37 := Tryd.isAgg38
  z37 := Tryd.sizeOf38
  v37 := Tryd.zeroValue38
  t75 := Tryd.underlying46
  a75 := Tryd.isAgg46
  z75 := Tryd.sizeOf46
  v75 := Tryd.zeroValue46
  t127 := Tryd.underlying135
  a127 := Tryd.isAgg135
  z127 := Tryd.sizeOf135
  v127 := Tryd.zeroValue135
  t168 := Tryd.underlying129
  a168 := Tryd.isAgg129
  z168 := Tryd.sizeOf129
  v168 := Tryd.zeroValue129
  t210 := Tryd.underlying133
  a210 := Tryd.isAgg133
  z210 := Tryd.sizeOf133
  v210 := Tryd.zeroValue133
  g16 := by kernel_rfl
  t5 := Tryd.underlying5
  a5 := Tryd.isAgg5
  z5 := Tryd.sizeOf5
  v5 := Tryd.zeroValue5
  t80 := Tryd.underlying151
  a80 := Tryd.isAgg151
  z80 := Tryd.sizeOf151
  v80 := Tryd.zeroValue151
  i0 := by kernel_rfl
  i3 := by kernel_rfl
  i4 := by kernel_rfl
  i5 := by kernel_rfl
  i9 := by kernel_rfl
  i37 := by kernel_rfl
  i75 := by kernel_rfl
  i80 := by kernel_rfl
  i127 := by kernel_rfl
  i168 := by kernel_rfl
  i210 := by kernel_rfl
  m16 := by kernel_rfl }
open Go.RowKit in
/-- strconv.rangeError: '&NumError{fn, stringslite.Clone(str), ErrRange}': A POINTER TO A NEW BLOCK that holds fn, str's bytes, and what the variable ErrRange holds. Of what was there nothing has turned. (LAID: no walk: one application.) -/
theorem Tryd.strconv_rangeError (fn s : ByteArray) (ev : Value) (w : World) (hlim : s.size ≤ 281474976710656) (hv : w.cell? ⟨1, 0, none⟩ = some ev) (hev : ev = .nilIface ∨ ∃ te pe, ev = .iface te pe) :
    Calls Tryd.prog 82 #[.string fn, .string s] w fun e w' => ∃ N, e = .returned (.pointer (some ⟨N, 0, none⟩)) ∧ w.heap.size ≤ N ∧ w'.heap[N]? = some (.cells #[.string fn, .string s, ev] 133 (0, 0)) ∧ Below w.heap.size w w' := Any.strconv_rangeError Tryd.laysM280 fn s ev w hlim hv hev
open Go.RowKit in
/-- strconv.toError, at the inner package's ErrRange: 'rangeError(fn, s)' as an error: A *NumError IN A NEW BLOCK. (LAID: no walk: one application.) -/
theorem Tryd.strconv_toError_range (fn s : ByteArray) (base bits : Int) (ev : Value) (w : World) (hlim : s.size ≤ 281474976710656) (hv : w.cell? ⟨1, 0, none⟩ = some ev) (hev : ev = .nilIface ∨ ∃ te pe, ev = .iface te pe) :
    Calls Tryd.prog 74 #[.string fn, .string s, .int .i64 base, .int .i64 bits, .iface 126 (.int .i64 1)] w fun e w' => ∃ N, e = .returned (.iface 129 (.pointer (some ⟨N, 0, none⟩))) ∧ w.heap.size ≤ N ∧ w'.heap[N]? = some (.cells #[.string fn, .string s, ev] 133 (0, 0)) ∧ Below w.heap.size w w' := Any.strconv_toError_range Tryd.laysC245 fn s base bits ev w hlim hv hev
def Tryd.laysC172_ren : Go.Shelf.Ren := ⟨fun | 172 => 55 | 244 => 73 | 245 => 74 | 247 => 80 | 279 => 81 | 280 => 82 | 281 => 83 | 282 => 84 | 287 => 79 | 316 => 88 | 171 => 89 | 205 => 32 | 321 => 86 | 322 => 87 | 243 => 90 | 246 => 91 | 283 => 92 | 284 => 93 | 285 => 94 | 286 => 95 | 129 => 97 | 317 => 96 | 318 => 98 | 319 => 99 | 320 => 100 | 337 => 101 | 338 => 102 | n => n, fun | 9 => 9 | 3 => 3 | 75 => 46 | 76 => 101 | 4 => 4 | 5 => 5 | 167 => 126 | 37 => 38 | 0 => 0 | 85 => 127 | 2 => 2 | 168 => 129 | 53 => 119 | 175 => 120 | 46 => 118 | 210 => 133 | 127 => 135 | 145 => 99 | 143 => 97 | 21 => 21 | 171 => 137 | 173 => 140 | 212 => 144 | 51 => 145 | 20 => 20 | 213 => 146 | 232 => 149 | 233 => 150 | 80 => 151 | n => n, fun | 15 => 0 | 16 => 1 | 17 => 3 | 18 => 4 | 19 => 5 | n => n⟩
theorem Tryd.laysC172 : Go.Proofs.LaysC.n172 Tryd.prog Tryd.laysC172_ren := {
  mixed := by kernel_rfl
  f129 := Tryd.func97.trans (congrArg some (by kernel_rfl))
  f171 := Tryd.func89.trans (congrArg some (by kernel_rfl))
  f172 := Tryd.func55.trans (congrArg some (by kernel_rfl))
  f205 := Tryd.func32.trans (congrArg some (by kernel_rfl))
  f243 := Tryd.func90.trans (congrArg some (by kernel_rfl))
  f244 := Tryd.func73.trans (congrArg some (by kernel_rfl))
  f245 := Tryd.func74.trans (congrArg some (by kernel_rfl))
  f246 := Tryd.func91.trans (congrArg some (by kernel_rfl))
  f247 := Tryd.func80.trans (congrArg some (by kernel_rfl))
  f279 := Tryd.func81.trans (congrArg some (by kernel_rfl))
  f280 := Tryd.func82.trans (congrArg some (by kernel_rfl))
  f281 := Tryd.func83.trans (congrArg some (by kernel_rfl))
  f282 := Tryd.func84.trans (congrArg some (by kernel_rfl))
  f283 := Tryd.func92.trans (congrArg some (by kernel_rfl))
  f284 := Tryd.func93.trans (congrArg some (by kernel_rfl))
  f285 := Tryd.func94.trans (congrArg some (by kernel_rfl))
  f286 := Tryd.func95.trans (congrArg some (by kernel_rfl))
  f287 := Tryd.func79.trans (congrArg some (by kernel_rfl))
  f316 := Tryd.func88.trans (congrArg some (by kernel_rfl))
  f317 := Tryd.func96.trans (congrArg some (by kernel_rfl))
  f318 := Tryd.func98.trans (congrArg some (by kernel_rfl))
  f319 := Tryd.func99.trans (congrArg some (by kernel_rfl))
  f320 := Tryd.func100.trans (congrArg some (by kernel_rfl))
  f321 := Tryd.func86.trans (congrArg some (by kernel_rfl))
  f322 := Tryd.func87.trans (congrArg some (by kernel_rfl))
  f337 := Tryd.func101.trans (congrArg some (by kernel_rfl))
  f338 := Tryd.func102.trans (congrArg some (by kernel_rfl))
  t0 := Tryd.underlying0
  a0 := Tryd.isAgg0
  z0 := Tryd.sizeOf0
  v0 := Tryd.zeroValue0
  t2 := Tryd.underlying2
  a2 := Tryd.isAgg2
  z2 := Tryd.sizeOf2
  v2 := Tryd.zeroValue2
  t3 := Tryd.underlying3
  a3 := Tryd.isAgg3
  z3 := Tryd.sizeOf3
  v3 := Tryd.zeroValue3
  t4 := Tryd.underlying4
  a4 := Tryd.isAgg4
  z4 := Tryd.sizeOf4
  v4 := Tryd.zeroValue4
  t5 := Tryd.underlying5
  a5 := Tryd.isAgg5
  z5 := Tryd.sizeOf5
  v5 := Tryd.zeroValue5
  t9 := Tryd.underlying9
  a9 := Tryd.isAgg9
  z9 := Tryd.sizeOf9
  v9 := Tryd.zeroValue9
  t20 := Tryd.underlying20
  a20 := Tryd.isAgg20
  z20 := Tryd.sizeOf20
  v20 := Tryd.zeroValue20
  t21 := Tryd.underlying21
  a21 := Tryd.isAgg21
  z21 := Tryd.sizeOf21
  v21 := Tryd.zeroValue21
  t37 := Tryd.underlying38
  a37 := Tryd.isAgg38
  z37 := Tryd.sizeOf38
  v37 := Tryd.zeroValue38
  t46 := Tryd.underlying118
  a46 := Tryd.isAgg118
  z46 := Tryd.sizeOf118
  v46 := Tryd.zeroValue118
  t51 := Tryd.underlying145
  a51 := Tryd.isAgg145
  z51 := Tryd.sizeOf145
  v51 := Tryd.zeroValue145
  t53 := Tryd.underlying119
  a53 := Tryd.isAgg119
  z53 := Tryd.sizeOf119
  v53 := Tryd.zeroValue119
  t75 := Tryd.underlying46
  a75 := Tryd.isAgg46
  z75 := Tryd.sizeOf46
  v75 := Tryd.zeroValue46
  t76 := Tryd.underlying101
  a76 := Tryd.isAgg101
  z76 := Tryd.sizeOf101
  v76 := Tryd.zeroValue101
  t85 := Tryd.underlying127
  a85 := Tryd.isAgg127
  z85 := Tryd.sizeOf127
  v85 := Tryd.zeroValue127
  t127 := Tryd.underlying135
  a127 := Tryd.isAgg135
  z127 := Tryd.sizeOf135
  v127 := Tryd.zeroValue135
  t143 := Tryd.underlying97
  a143 := Tryd.isAgg97
  z143 := Tryd.sizeOf97
  v143 := Tryd.zeroValue97
  t145 := Tryd.underlying99
  a145 := Tryd.isAgg99
  z145 := Tryd.sizeOf99
  v145 := Tryd.zeroValue99
  t167 := Tryd.underlying126
  a167 := Tryd.isAgg126
  z167 := Tryd.sizeOf126
  v167 := Tryd.zeroValue126
  t168 := Tryd.underlying129
  a168 := Tryd.isAgg129
  z168 := Tryd.sizeOf129
  v168 := Tryd.zeroValue129
  t171 := Tryd.underlying137
  a171 := Tryd.isAgg137
  z171 := Tryd.sizeOf137
  v171 := Tryd.zeroValue137
  t173 := Tryd.underlying140
  a173 := Tryd.isAgg140
  z173 := Tryd.sizeOf140
  v173 := Tryd.zeroValue140
  t175 := Tryd.underlying120
  a175 := Tryd.isAgg120
  z175 := Tryd.sizeOf120
  v175 := Tryd.zeroValue120
  t210 := Tryd.underlying133
  a210 := Tryd.isAgg133
  z210 := Tryd.sizeOf133
  v210 := Tryd.zeroValue133
  t212 := Tryd.underlying144
  a212 := Tryd.isAgg144
  z212 := Tryd.sizeOf144
  v212 := Tryd.zeroValue144
  t213 := Tryd.underlying146
  a213 := Tryd.isAgg146
  z213 := Tryd.sizeOf146
  t232 := Tryd.underlying149
  a232 := Tryd.isAgg149
  z232 := Tryd.sizeOf149
  v232 := Tryd.zeroValue149
  t233 := Tryd.underlying150
  a233 := Tryd.isAgg150
  z233 := Tryd.sizeOf150
  v233 := Tryd.zeroValue150
  g15 := by kernel_rfl
  g16 := by kernel_rfl
  g17 := by kernel_rfl
  g18 := by kernel_rfl
  g19 := by kernel_rfl
  t80 := Tryd.underlying151
  a80 := Tryd.isAgg151
  z80 := Tryd.sizeOf151
  v80 := Tryd.zeroValue151
  i0 := by kernel_rfl
  i2 := by kernel_rfl
  i3 := by kernel_rfl
  i4 := by kernel_rfl
  i5 := by kernel_rfl
  i9 := by kernel_rfl
  i20 := by kernel_rfl
  i21 := by kernel_rfl
  i37 := by kernel_rfl
  i46 := by kernel_rfl
  i51 := by kernel_rfl
  i53 := by kernel_rfl
  i75 := by kernel_rfl
  i76 := by kernel_rfl
  i80 := by kernel_rfl
  i85 := by kernel_rfl
  i127 := by kernel_rfl
  i143 := by kernel_rfl
  i145 := by kernel_rfl
  i167 := by kernel_rfl
  i168 := by kernel_rfl
  i171 := by kernel_rfl
  i173 := by kernel_rfl
  i175 := by kernel_rfl
  i210 := by kernel_rfl
  i212 := by kernel_rfl
  i232 := by kernel_rfl
  i233 := by kernel_rfl
  m15 := by kernel_rfl
  m16 := by kernel_rfl
  m17 := by kernel_rfl
  m18 := by kernel_rfl
  m19 := by kernel_rfl
  c0 := by kernel_rfl
  c2 := by kernel_rfl
  c3 := by kernel_rfl
  c4 := by kernel_rfl
  c5 := by kernel_rfl
  c9 := by kernel_rfl
  c20 := by kernel_rfl
  c21 := by kernel_rfl
  c37 := by kernel_rfl
  c46 := by kernel_rfl
  c51 := by kernel_rfl
  c53 := by kernel_rfl
  c75 := by kernel_rfl
  c76 := by kernel_rfl
  c80 := by kernel_rfl
  c85 := by kernel_rfl
  c127 := by kernel_rfl
  c143 := by kernel_rfl
  c145 := by kernel_rfl
  c167 := by kernel_rfl
  c168 := by kernel_rfl
  c171 := by kernel_rfl
  c173 := by kernel_rfl
  c175 := by kernel_rfl
  c210 := by kernel_rfl
  c212 := by kernel_rfl
  c213 := by kernel_rfl
  c232 := by kernel_rfl
  c233 := by kernel_rfl }
open Go.RowKit in
/-- strconv.Atoi, AT EVERY STRING THAT SPELLS AN int ('Lib.atoiAll .. = .ok v'; of whatever length: leading zeros count): v, AND NO ERROR. The world: as it was, or with the one new row that '[]byte(..)' lays. (LAID: no walk: one application.) -/
theorem Tryd.strconv_Atoi_ok (s : ByteArray) (hmax : s.size ≤ 9223372036854775806) (v : Int) (h : Lib.atoiAll s.data.toList = .ok v) (w : World) :
    Calls Tryd.prog 55 #[.string s] w fun e w' => e = .returned (.tuple #[.int .i64 v, .nilIface]) ∧ (w' = w ∨ ∃ t, w' = Lib.bytesWorld w 5 t) := Any.strconv_Atoi_ok Tryd.laysC172 s hmax v h w
open Go.RowKit in
/-- strconv.Atoi, AT EVERY STRING THAT IS NO DECIMAL NUMERAL ('.syntax'): 0, AND AN ERROR THAT IS NOT nil: a *NumError in a new block N: {Func: "Atoi", Num: s's bytes, Err: what the variable ErrSyntax holds}. Of what was there nothing has turned. (LAID: no walk: one application.) -/
theorem Tryd.strconv_Atoi_syntax (s : ByteArray) (hlim : s.size ≤ 281474976710656) (h : Lib.atoiAll s.data.toList = .«syntax») (ev : Value) (w : World) (hv : w.cell? ⟨0, 0, none⟩ = some ev) (hev : ev = .nilIface ∨ ∃ te pe, ev = .iface te pe) :
    Calls Tryd.prog 55 #[.string s] w fun e w' => ∃ N, e = .returned (.tuple #[.int .i64 (0), .iface 129 (.pointer (some ⟨N, 0, none⟩))]) ∧ w.heap.size ≤ N ∧ w'.heap[N]? = some (.cells #[.string ⟨#[65, 116, 111, 105]⟩, .string s, ev] 133 (0, 0)) ∧ Below w.heap.size w w' := Any.strconv_Atoi_syntax Tryd.laysC172 s hlim h ev w hv hev
open Go.RowKit in
/-- strconv.Atoi, AT EVERY NUMERAL THAT NO int HOLDS ('.range'): THE GREATEST OR THE LEAST int, BY THE SIGN ('Lib.atoiSat'), AND AN ERROR THAT IS NOT nil: a *NumError in a new block N: {Func: "Atoi", Num: s's bytes, Err: what the variable ErrRange holds}. Of what was there nothing has turned. (LAID: no walk: one application.) -/
theorem Tryd.strconv_Atoi_range (s : ByteArray) (hlim : s.size ≤ 281474976710656) (h : Lib.atoiAll s.data.toList = .range) (ev : Value) (w : World) (hv : w.cell? ⟨1, 0, none⟩ = some ev) (hev : ev = .nilIface ∨ ∃ te pe, ev = .iface te pe) :
    Calls Tryd.prog 55 #[.string s] w fun e w' => ∃ N, e = .returned (.tuple #[.int .i64 (Lib.atoiSat s.data.toList), .iface 129 (.pointer (some ⟨N, 0, none⟩))]) ∧ w.heap.size ≤ N ∧ w'.heap[N]? = some (.cells #[.string ⟨#[65, 116, 111, 105]⟩, .string s, ev] 133 (0, 0)) ∧ Below w.heap.size w w' := Any.strconv_Atoi_range Tryd.laysC172 s hlim h ev w hv hev
open Go.RowKit in
theorem Tryd.strconv_Atoi_syntax_var (s : ByteArray) (hlim : s.size ≤ 281474976710656) (h : Lib.atoiAll s.data.toList = .«syntax») (tp : TypeId) (p : Value) (w : World) (hvar : w.var? Tryd.prog "strconv.ErrSyntax" = some #[.iface tp p]) :
    Calls Tryd.prog 55 #[.string s] w fun e w' => ∃ N, e = .returned (.tuple #[.int .i64 0, .iface 129 (.pointer (some ⟨N, 0, none⟩))]) ∧ w.heap.size ≤ N ∧ w'.heap[N]? = some (.cells #[.string ⟨#[65, 116, 111, 105]⟩, .string s, .iface tp p] 133 (0, 0)) ∧ Below w.heap.size w w' := Any.strconv_Atoi_syntax_var Tryd.laysC172 s hlim h tp p w hvar
open Go.RowKit in
theorem Tryd.strconv_Atoi_range_var (s : ByteArray) (hlim : s.size ≤ 281474976710656) (h : Lib.atoiAll s.data.toList = .range) (tp : TypeId) (p : Value) (w : World) (hvar : w.var? Tryd.prog "strconv.ErrRange" = some #[.iface tp p]) :
    Calls Tryd.prog 55 #[.string s] w fun e w' => ∃ N, e = .returned (.tuple #[.int .i64 (Lib.atoiSat s.data.toList), .iface 129 (.pointer (some ⟨N, 0, none⟩))]) ∧ w.heap.size ≤ N ∧ w'.heap[N]? = some (.cells #[.string ⟨#[65, 116, 111, 105]⟩, .string s, .iface tp p] 133 (0, 0)) ∧ Below w.heap.size w w' := Any.strconv_Atoi_range_var Tryd.laysC172 s hlim h tp p w hvar
def Tryd.lays217_ren : Go.Shelf.Ren := ⟨fun | 217 => 78 | 266 => 85 | n => n, fun | 9 => 9 | 5 => 5 | 3 => 3 | n => n, fun | n => n⟩
theorem Tryd.lays217 : Go.Proofs.Lays.n217 Tryd.prog Tryd.lays217_ren := {
  mixed := by kernel_rfl
  f217 := Tryd.func78.trans (congrArg some (by kernel_rfl))
  f266 := Tryd.func85.trans (congrArg some (by kernel_rfl))
  t3 := Tryd.underlying3
  a3 := Tryd.isAgg3
  z3 := Tryd.sizeOf3
  v3 := Tryd.zeroValue3
  t5 := Tryd.underlying5
  a5 := Tryd.isAgg5
  z5 := Tryd.sizeOf5
  v5 := Tryd.zeroValue5
  t9 := Tryd.underlying9
  a9 := Tryd.isAgg9
  z9 := Tryd.sizeOf9
  v9 := Tryd.zeroValue9 }
open Go.RowKit Go.Lib in
/-- internal/stringslite.IndexByte (what strings.IndexByte calls): IT RETURNS 'Lib.indexByte s c'; the world is as it was. (LAID: no walk: one application.) -/
theorem Tryd.stringslite_IndexByte (s : ByteArray) (c : Int) (w : World) :
    Calls Tryd.prog 78 #[.string s, .int .u8 c] w fun e w' => e = .returned (.int .i64 (Lib.indexByte s.data.toList c.toNat.toUInt8)) ∧ w' = w := Any.stringslite_IndexByte Tryd.lays217 s c w
end Go.Proofs
