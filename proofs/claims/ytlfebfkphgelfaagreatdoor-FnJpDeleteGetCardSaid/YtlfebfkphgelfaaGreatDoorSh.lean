/-
  DERIVED: THE SHELF's CONTRACTS AT THIS DUMP, IN PLAIN WORDS (tools/lay-plain.mjs out of 'TryzShelf.lean', which tools/lay-shelf.mjs wrote): THE SAME DECLARATIONS UNDER THE SAME NAMES: 'import', 'namespace', 'open', 'def', 'theorem' AND NOTHING ELSE: no command of the shelf's: FOR A HAND-IN. Each laying: the table of numbers ('.._ren') and one theorem, a field a fact of the dump's own or the kernel's comparison; each contract: ONE APPLICATION.
-/
import Derived.Shelf.Strconv.Atoi
import Derived.Shelf.Bytes.IndexByte
import Derived.Test.YtlfebfkphgelfaaGreatDoorProg
namespace Go.Proofs
open Go.Shelf
open Go.RowKit in
def Tryz.lays172_ren : Go.Shelf.Ren := ⟨fun | 172 => 86 | 244 => 92 | 245 => 93 | 247 => 98 | 279 => 99 | 280 => 100 | 281 => 101 | 282 => 102 | 287 => 107 | 316 => 108 | 171 => 110 | 205 => 109 | 321 => 112 | 322 => 113 | 243 => 114 | 246 => 115 | 283 => 116 | 284 => 117 | 285 => 118 | 286 => 119 | 129 => 121 | 317 => 120 | 318 => 122 | 319 => 123 | 320 => 124 | 337 => 125 | 338 => 126 | n => n, fun | 9 => 9 | 3 => 3 | 75 => 61 | 76 => 105 | 4 => 4 | 5 => 5 | 167 => 134 | 37 => 59 | 0 => 0 | 85 => 135 | 2 => 2 | 168 => 137 | 53 => 122 | 175 => 145 | 46 => 129 | 210 => 148 | 127 => 152 | 145 => 155 | 143 => 153 | 21 => 21 | 171 => 157 | 173 => 160 | 212 => 164 | 51 => 144 | 20 => 20 | 213 => 165 | 232 => 168 | 233 => 113 | 80 => 169 | n => n, fun | 15 => 11 | 16 => 12 | 17 => 13 | 18 => 14 | 19 => 15 | n => n⟩
theorem Tryz.lays172 : Go.Proofs.Lays.n172 Tryz.prog Tryz.lays172_ren := {
  mixed := by kernel_rfl
  f129 := Tryz.func121.trans (congrArg some (by kernel_rfl))
  f171 := Tryz.func110.trans (congrArg some (by kernel_rfl))
  f172 := Tryz.func86.trans (congrArg some (by kernel_rfl))
  f205 := Tryz.func109.trans (congrArg some (by kernel_rfl))
  f243 := Tryz.func114.trans (congrArg some (by kernel_rfl))
  f244 := Tryz.func92.trans (congrArg some (by kernel_rfl))
  f245 := Tryz.func93.trans (congrArg some (by kernel_rfl))
  f246 := Tryz.func115.trans (congrArg some (by kernel_rfl))
  f247 := Tryz.func98.trans (congrArg some (by kernel_rfl))
  f279 := Tryz.func99.trans (congrArg some (by kernel_rfl))
  f280 := Tryz.func100.trans (congrArg some (by kernel_rfl))
  f281 := Tryz.func101.trans (congrArg some (by kernel_rfl))
  f282 := Tryz.func102.trans (congrArg some (by kernel_rfl))
  f283 := Tryz.func116.trans (congrArg some (by kernel_rfl))
  f284 := Tryz.func117.trans (congrArg some (by kernel_rfl))
  f285 := Tryz.func118.trans (congrArg some (by kernel_rfl))
  f286 := Tryz.func119.trans (congrArg some (by kernel_rfl))
  f287 := Tryz.func107.trans (congrArg some (by kernel_rfl))
  f316 := Tryz.func108.trans (congrArg some (by kernel_rfl))
  f317 := Tryz.func120.trans (congrArg some (by kernel_rfl))
  f318 := Tryz.func122.trans (congrArg some (by kernel_rfl))
  f319 := Tryz.func123.trans (congrArg some (by kernel_rfl))
  f320 := Tryz.func124.trans (congrArg some (by kernel_rfl))
  f321 := Tryz.func112.trans (congrArg some (by kernel_rfl))
  f322 := Tryz.func113.trans (congrArg some (by kernel_rfl))
  f337 := Tryz.func125.trans (congrArg some (by kernel_rfl))
  f338 := Tryz.func126.trans (congrArg some (by kernel_rfl))
  t0 := Tryz.underlying0
  a0 := Tryz.isAgg0
  z0 := Tryz.sizeOf0
  v0 := Tryz.zeroValue0
  t2 := Tryz.underlying2
  a2 := Tryz.isAgg2
  z2 := Tryz.sizeOf2
  v2 := Tryz.zeroValue2
  t3 := Tryz.underlying3
  a3 := Tryz.isAgg3
  z3 := Tryz.sizeOf3
  v3 := Tryz.zeroValue3
  t4 := Tryz.underlying4
  a4 := Tryz.isAgg4
  z4 := Tryz.sizeOf4
  v4 := Tryz.zeroValue4
  t5 := Tryz.underlying5
  a5 := Tryz.isAgg5
  z5 := Tryz.sizeOf5
  v5 := Tryz.zeroValue5
  t9 := Tryz.underlying9
  a9 := Tryz.isAgg9
  z9 := Tryz.sizeOf9
  v9 := Tryz.zeroValue9
  t20 := Tryz.underlying20
  a20 := Tryz.isAgg20
  z20 := Tryz.sizeOf20
  v20 := Tryz.zeroValue20
  t21 := Tryz.underlying21
  a21 := Tryz.isAgg21
  z21 := Tryz.sizeOf21
  v21 := Tryz.zeroValue21
  t37 := Tryz.underlying59
  a37 := Tryz.isAgg59
  z37 := Tryz.sizeOf59
  v37 := Tryz.zeroValue59
  t46 := Tryz.underlying129
  a46 := Tryz.isAgg129
  z46 := Tryz.sizeOf129
  v46 := Tryz.zeroValue129
  t51 := Tryz.underlying144
  a51 := Tryz.isAgg144
  z51 := Tryz.sizeOf144
  v51 := Tryz.zeroValue144
  t53 := Tryz.underlying122
  a53 := Tryz.isAgg122
  z53 := Tryz.sizeOf122
  v53 := Tryz.zeroValue122
  t75 := Tryz.underlying61
  a75 := Tryz.isAgg61
  z75 := Tryz.sizeOf61
  v75 := Tryz.zeroValue61
  t76 := Tryz.underlying105
  a76 := Tryz.isAgg105
  z76 := Tryz.sizeOf105
  v76 := Tryz.zeroValue105
  t85 := Tryz.underlying135
  a85 := Tryz.isAgg135
  z85 := Tryz.sizeOf135
  v85 := Tryz.zeroValue135
  t127 := Tryz.underlying152
  a127 := Tryz.isAgg152
  z127 := Tryz.sizeOf152
  v127 := Tryz.zeroValue152
  t143 := Tryz.underlying153
  a143 := Tryz.isAgg153
  z143 := Tryz.sizeOf153
  v143 := Tryz.zeroValue153
  t145 := Tryz.underlying155
  a145 := Tryz.isAgg155
  z145 := Tryz.sizeOf155
  v145 := Tryz.zeroValue155
  t167 := Tryz.underlying134
  a167 := Tryz.isAgg134
  z167 := Tryz.sizeOf134
  v167 := Tryz.zeroValue134
  t168 := Tryz.underlying137
  a168 := Tryz.isAgg137
  z168 := Tryz.sizeOf137
  v168 := Tryz.zeroValue137
  t171 := Tryz.underlying157
  a171 := Tryz.isAgg157
  z171 := Tryz.sizeOf157
  v171 := Tryz.zeroValue157
  t173 := Tryz.underlying160
  a173 := Tryz.isAgg160
  z173 := Tryz.sizeOf160
  v173 := Tryz.zeroValue160
  t175 := Tryz.underlying145
  a175 := Tryz.isAgg145
  z175 := Tryz.sizeOf145
  v175 := Tryz.zeroValue145
  t210 := Tryz.underlying148
  a210 := Tryz.isAgg148
  z210 := Tryz.sizeOf148
  v210 := Tryz.zeroValue148
  t212 := Tryz.underlying164
  a212 := Tryz.isAgg164
  z212 := Tryz.sizeOf164
  v212 := Tryz.zeroValue164
  t213 := Tryz.underlying165
  a213 := Tryz.isAgg165
  z213 := Tryz.sizeOf165
  t232 := Tryz.underlying168
  a232 := Tryz.isAgg168
  z232 := Tryz.sizeOf168
  v232 := Tryz.zeroValue168
  t233 := Tryz.underlying113
  a233 := Tryz.isAgg113
  z233 := Tryz.sizeOf113
  v233 := Tryz.zeroValue113
  g15 := by kernel_rfl
  g16 := by kernel_rfl
  g17 := by kernel_rfl
  g18 := by kernel_rfl
  g19 := by kernel_rfl }
open Go.RowKit in
/-- strconv.Atoi: "Atoi is equivalent to ParseInt(s, 10, 0), converted to type int.": AT A DECIMAL NUMERAL OF AT MOST 18 BYTES: its value, and a nil error. The world behind the call: the one new row that the library's '[]byte(s)' lays. (LAID: no walk: one application.) -/
theorem Tryz.strconv_Atoi (s : ByteArray) (n : Int) (hl : s.size ≤ 18) (h : Lib.atoi s.data.toList = some n) (w : World) :
    Calls Tryz.prog 86 #[.string s] w fun e w' => e = .returned (.tuple #[.int .i64 n, .nilIface]) ∧ ∃ t, w' = Lib.bytesWorld w 5 t := Any.strconv_Atoi Tryz.lays172 s n hl h w
def Tryz.lays187_ren : Go.Shelf.Ren := ⟨fun | 187 => 90 | 255 => 95 | n => n, fun | 37 => 59 | 5 => 5 | 3 => 3 | n => n, fun | n => n⟩
theorem Tryz.lays187 : Go.Proofs.Lays.n187 Tryz.prog Tryz.lays187_ren := {
  mixed := by kernel_rfl
  f187 := Tryz.func90.trans (congrArg some (by kernel_rfl))
  f255 := Tryz.func95.trans (congrArg some (by kernel_rfl))
  t3 := Tryz.underlying3
  a3 := Tryz.isAgg3
  z3 := Tryz.sizeOf3
  v3 := Tryz.zeroValue3
  t5 := Tryz.underlying5
  a5 := Tryz.isAgg5
  z5 := Tryz.sizeOf5
  v5 := Tryz.zeroValue5
  t37 := Tryz.underlying59
  a37 := Tryz.isAgg59
  z37 := Tryz.sizeOf59
  v37 := Tryz.zeroValue59 }
/-- bytes.IndexByte: "IndexByte returns the index of the first instance of c in b, or -1 if c is not present in b.": IT RETURNS 'Lib.indexByte (the bytes of b) c'; the world is as it was. 'xs': the numbers that the slice's cells hold. (LAID: no walk: one application.) -/
theorem Tryz.bytes_IndexByte (b o n c : Nat) (xs : List Int) (cv : Int) (w : World) (hx : xs.length = n) (hc : ∀ i, i < n → w.cell? ⟨b, o + i, none⟩ = some (.int .u8 (xs.getD i 0))) :
    Calls Tryz.prog 90 #[.slice (some ⟨b, o, none⟩) n c, .int .u8 cv] w fun e w' => e = .returned (.int .i64 (Lib.indexByte (Lib.bytesOf xs) cv.toNat.toUInt8)) ∧ w' = w := Any.bytes_IndexByte Tryz.lays187 b o n c xs cv w hx hc
end Go.Proofs
