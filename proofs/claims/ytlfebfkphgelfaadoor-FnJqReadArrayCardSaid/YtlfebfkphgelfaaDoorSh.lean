/-
  DERIVED: THE SHELF's CONTRACTS AT THIS DUMP, IN PLAIN WORDS (tools/lay-plain.mjs out of 'TrydShelf.lean', which tools/lay-shelf.mjs wrote): THE SAME DECLARATIONS UNDER THE SAME NAMES: 'import', 'namespace', 'open', 'def', 'theorem' AND NOTHING ELSE: no command of the shelf's: FOR A HAND-IN. Each laying: the table of numbers ('.._ren') and one theorem, a field a fact of the dump's own or the kernel's comparison; each contract: ONE APPLICATION.
-/
import Derived.Shelf.Strconv.Atoi
import Derived.Shelf.Strconv.Itoa0
import Derived.Ground.MnProg
import Derived.Shelf.Bin.LEUint64
import Derived.Shelf.Bin.ReadersZ
import Derived.Shelf.Bytes.IndexByte
import Derived.Test.YtlfebfkphgelfaaDoorProg
namespace Go.Proofs
open Go.Shelf
def Tryd.lays244_ren : Go.Shelf.Ren := ⟨fun | 244 => 83 | 247 => 88 | 287 => 97 | 321 => 102 | 322 => 103 | n => n, fun | 9 => 9 | 3 => 3 | 75 => 51 | 4 => 4 | 5 => 5 | 167 => 137 | 37 => 36 | 0 => 0 | 85 => 138 | 2 => 2 | 53 => 124 | 175 => 148 | 46 => 132 | 21 => 21 | 80 => 171 | n => n, fun | n => n⟩
theorem Tryd.lays244 : Go.Proofs.Lays.n244 Tryd.prog Tryd.lays244_ren := {
  mixed := by kernel_rfl
  f244 := Tryd.func83.trans (congrArg some (by kernel_rfl))
  f247 := Tryd.func88.trans (congrArg some (by kernel_rfl))
  f287 := Tryd.func97.trans (congrArg some (by kernel_rfl))
  f321 := Tryd.func102.trans (congrArg some (by kernel_rfl))
  f322 := Tryd.func103.trans (congrArg some (by kernel_rfl))
  t0 := Tryd.underlying0
  a0 := Tryd.isAgg0
  z0 := Tryd.sizeOf0
  v0 := Tryd.zeroValue0
  t2 := Tryd.underlying2
  a2 := Tryd.isAgg2
  z2 := Tryd.sizeOf2
  v2 := Tryd.zeroValue2
  t3 := Tryd.underlying3
  a3 := Tryd.isAgg3
  z3 := Tryd.sizeOf3
  v3 := Tryd.zeroValue3
  t4 := Tryd.underlying4
  a4 := Tryd.isAgg4
  z4 := Tryd.sizeOf4
  v4 := Tryd.zeroValue4
  t5 := Tryd.underlying5
  a5 := Tryd.isAgg5
  z5 := Tryd.sizeOf5
  v5 := Tryd.zeroValue5
  t9 := Tryd.underlying9
  a9 := Tryd.isAgg9
  z9 := Tryd.sizeOf9
  v9 := Tryd.zeroValue9
  t21 := Tryd.underlying21
  a21 := Tryd.isAgg21
  z21 := Tryd.sizeOf21
  v21 := Tryd.zeroValue21
  t37 := Tryd.underlying36
  a37 := Tryd.isAgg36
  z37 := Tryd.sizeOf36
  v37 := Tryd.zeroValue36
  t46 := Tryd.underlying132
  a46 := Tryd.isAgg132
  z46 := Tryd.sizeOf132
  v46 := Tryd.zeroValue132
  t53 := Tryd.underlying124
  a53 := Tryd.isAgg124
  z53 := Tryd.sizeOf124
  v53 := Tryd.zeroValue124
  t75 := Tryd.underlying51
  a75 := Tryd.isAgg51
  z75 := Tryd.sizeOf51
  v75 := Tryd.zeroValue51
  t85 := Tryd.underlying138
  a85 := Tryd.isAgg138
  z85 := Tryd.sizeOf138
  v85 := Tryd.zeroValue138
  t167 := Tryd.underlying137
  a167 := Tryd.isAgg137
  z167 := Tryd.sizeOf137
  v167 := Tryd.zeroValue137
  t175 := Tryd.underlying148
  a175 := Tryd.isAgg148
  z175 := Tryd.sizeOf148
  v175 := Tryd.zeroValue148 }
open Go.RowKit in
/-- internal/strconv.Atoi, at a decimal numeral of at most 18 bytes: ITS VALUE, AND NO ERROR. The world behind the call: the one new row that '[]byte(s)' lays. (LAID: no walk: one application.) -/
theorem Tryd.internal_strconv_Atoi (s : ByteArray) (n : Int) (hl : s.size ≤ 18) (h : Lib.atoi s.data.toList = some n) (w : World) :
    Calls Tryd.prog 83 #[.string s] w fun e w' => e = .returned (.tuple #[.int .i64 n, .nilIface]) ∧ ∃ t, w' = Lib.bytesWorld w 5 t := Any.internal_strconv_Atoi Tryd.lays244 s n hl h w
def Tryd.lays172_ren : Go.Shelf.Ren := ⟨fun | 172 => 74 | 244 => 83 | 245 => 84 | 247 => 88 | 279 => 89 | 280 => 90 | 281 => 91 | 282 => 92 | 287 => 97 | 316 => 98 | 171 => 100 | 205 => 99 | 321 => 102 | 322 => 103 | 243 => 104 | 246 => 105 | 283 => 106 | 284 => 107 | 285 => 108 | 286 => 109 | 129 => 111 | 317 => 110 | 318 => 112 | 319 => 113 | 320 => 114 | 337 => 115 | 338 => 116 | n => n, fun | 9 => 9 | 3 => 3 | 75 => 51 | 76 => 114 | 4 => 4 | 5 => 5 | 167 => 137 | 37 => 36 | 0 => 0 | 85 => 138 | 2 => 2 | 168 => 140 | 53 => 124 | 175 => 148 | 46 => 132 | 210 => 151 | 127 => 155 | 145 => 158 | 143 => 156 | 21 => 21 | 171 => 160 | 173 => 163 | 212 => 166 | 51 => 147 | 20 => 20 | 213 => 167 | 232 => 170 | 233 => 117 | 80 => 171 | n => n, fun | 15 => 13 | 16 => 14 | 17 => 15 | 18 => 16 | 19 => 17 | n => n⟩
theorem Tryd.lays172 : Go.Proofs.Lays.n172 Tryd.prog Tryd.lays172_ren := {
  mixed := by kernel_rfl
  f129 := Tryd.func111.trans (congrArg some (by kernel_rfl))
  f171 := Tryd.func100.trans (congrArg some (by kernel_rfl))
  f172 := Tryd.func74.trans (congrArg some (by kernel_rfl))
  f205 := Tryd.func99.trans (congrArg some (by kernel_rfl))
  f243 := Tryd.func104.trans (congrArg some (by kernel_rfl))
  f244 := Tryd.func83.trans (congrArg some (by kernel_rfl))
  f245 := Tryd.func84.trans (congrArg some (by kernel_rfl))
  f246 := Tryd.func105.trans (congrArg some (by kernel_rfl))
  f247 := Tryd.func88.trans (congrArg some (by kernel_rfl))
  f279 := Tryd.func89.trans (congrArg some (by kernel_rfl))
  f280 := Tryd.func90.trans (congrArg some (by kernel_rfl))
  f281 := Tryd.func91.trans (congrArg some (by kernel_rfl))
  f282 := Tryd.func92.trans (congrArg some (by kernel_rfl))
  f283 := Tryd.func106.trans (congrArg some (by kernel_rfl))
  f284 := Tryd.func107.trans (congrArg some (by kernel_rfl))
  f285 := Tryd.func108.trans (congrArg some (by kernel_rfl))
  f286 := Tryd.func109.trans (congrArg some (by kernel_rfl))
  f287 := Tryd.func97.trans (congrArg some (by kernel_rfl))
  f316 := Tryd.func98.trans (congrArg some (by kernel_rfl))
  f317 := Tryd.func110.trans (congrArg some (by kernel_rfl))
  f318 := Tryd.func112.trans (congrArg some (by kernel_rfl))
  f319 := Tryd.func113.trans (congrArg some (by kernel_rfl))
  f320 := Tryd.func114.trans (congrArg some (by kernel_rfl))
  f321 := Tryd.func102.trans (congrArg some (by kernel_rfl))
  f322 := Tryd.func103.trans (congrArg some (by kernel_rfl))
  f337 := Tryd.func115.trans (congrArg some (by kernel_rfl))
  f338 := Tryd.func116.trans (congrArg some (by kernel_rfl))
  t0 := Tryd.underlying0
  a0 := Tryd.isAgg0
  z0 := Tryd.sizeOf0
  v0 := Tryd.zeroValue0
  t2 := Tryd.underlying2
  a2 := Tryd.isAgg2
  z2 := Tryd.sizeOf2
  v2 := Tryd.zeroValue2
  t3 := Tryd.underlying3
  a3 := Tryd.isAgg3
  z3 := Tryd.sizeOf3
  v3 := Tryd.zeroValue3
  t4 := Tryd.underlying4
  a4 := Tryd.isAgg4
  z4 := Tryd.sizeOf4
  v4 := Tryd.zeroValue4
  t5 := Tryd.underlying5
  a5 := Tryd.isAgg5
  z5 := Tryd.sizeOf5
  v5 := Tryd.zeroValue5
  t9 := Tryd.underlying9
  a9 := Tryd.isAgg9
  z9 := Tryd.sizeOf9
  v9 := Tryd.zeroValue9
  t20 := Tryd.underlying20
  a20 := Tryd.isAgg20
  z20 := Tryd.sizeOf20
  v20 := Tryd.zeroValue20
  t21 := Tryd.underlying21
  a21 := Tryd.isAgg21
  z21 := Tryd.sizeOf21
  v21 := Tryd.zeroValue21
  t37 := Tryd.underlying36
  a37 := Tryd.isAgg36
  z37 := Tryd.sizeOf36
  v37 := Tryd.zeroValue36
  t46 := Tryd.underlying132
  a46 := Tryd.isAgg132
  z46 := Tryd.sizeOf132
  v46 := Tryd.zeroValue132
  t51 := Tryd.underlying147
  a51 := Tryd.isAgg147
  z51 := Tryd.sizeOf147
  v51 := Tryd.zeroValue147
  t53 := Tryd.underlying124
  a53 := Tryd.isAgg124
  z53 := Tryd.sizeOf124
  v53 := Tryd.zeroValue124
  t75 := Tryd.underlying51
  a75 := Tryd.isAgg51
  z75 := Tryd.sizeOf51
  v75 := Tryd.zeroValue51
  t76 := Tryd.underlying114
  a76 := Tryd.isAgg114
  z76 := Tryd.sizeOf114
  v76 := Tryd.zeroValue114
  t85 := Tryd.underlying138
  a85 := Tryd.isAgg138
  z85 := Tryd.sizeOf138
  v85 := Tryd.zeroValue138
  t127 := Tryd.underlying155
  a127 := Tryd.isAgg155
  z127 := Tryd.sizeOf155
  v127 := Tryd.zeroValue155
  t143 := Tryd.underlying156
  a143 := Tryd.isAgg156
  z143 := Tryd.sizeOf156
  v143 := Tryd.zeroValue156
  t145 := Tryd.underlying158
  a145 := Tryd.isAgg158
  z145 := Tryd.sizeOf158
  v145 := Tryd.zeroValue158
  t167 := Tryd.underlying137
  a167 := Tryd.isAgg137
  z167 := Tryd.sizeOf137
  v167 := Tryd.zeroValue137
  t168 := Tryd.underlying140
  a168 := Tryd.isAgg140
  z168 := Tryd.sizeOf140
  v168 := Tryd.zeroValue140
  t171 := Tryd.underlying160
  a171 := Tryd.isAgg160
  z171 := Tryd.sizeOf160
  v171 := Tryd.zeroValue160
  t173 := Tryd.underlying163
  a173 := Tryd.isAgg163
  z173 := Tryd.sizeOf163
  v173 := Tryd.zeroValue163
  t175 := Tryd.underlying148
  a175 := Tryd.isAgg148
  z175 := Tryd.sizeOf148
  v175 := Tryd.zeroValue148
  t210 := Tryd.underlying151
  a210 := Tryd.isAgg151
  z210 := Tryd.sizeOf151
  v210 := Tryd.zeroValue151
  t212 := Tryd.underlying166
  a212 := Tryd.isAgg166
  z212 := Tryd.sizeOf166
  v212 := Tryd.zeroValue166
  t213 := Tryd.underlying167
  a213 := Tryd.isAgg167
  z213 := Tryd.sizeOf167
  t232 := Tryd.underlying170
  a232 := Tryd.isAgg170
  z232 := Tryd.sizeOf170
  v232 := Tryd.zeroValue170
  t233 := Tryd.underlying117
  a233 := Tryd.isAgg117
  z233 := Tryd.sizeOf117
  v233 := Tryd.zeroValue117
  g15 := by kernel_rfl
  g16 := by kernel_rfl
  g17 := by kernel_rfl
  g18 := by kernel_rfl
  g19 := by kernel_rfl }
open Go.RowKit in
/-- strconv.Atoi: "Atoi is equivalent to ParseInt(s, 10, 0), converted to type int.": AT A DECIMAL NUMERAL OF AT MOST 18 BYTES: its value, and a nil error. The world behind the call: the one new row that the library's '[]byte(s)' lays. (LAID: no walk: one application.) -/
theorem Tryd.strconv_Atoi (s : ByteArray) (n : Int) (hl : s.size ≤ 18) (h : Lib.atoi s.data.toList = some n) (w : World) :
    Calls Tryd.prog 74 #[.string s] w fun e w' => e = .returned (.tuple #[.int .i64 n, .nilIface]) ∧ ∃ t, w' = Lib.bytesWorld w 5 t := Any.strconv_Atoi Tryd.lays172 s n hl h w
def Tryd.lays129_ren : Go.Shelf.Ren := ⟨fun | 129 => 111 | n => n, fun | 53 => 124 | 3 => 3 | 4 => 4 | 46 => 132 | 5 => 5 | 9 => 9 | n => n, fun | n => n⟩
theorem Tryd.lays129 : Go.Proofs.Lays.n129 Tryd.prog Tryd.lays129_ren := {
  mixed := by kernel_rfl
  f129 := Tryd.func111.trans (congrArg some (by kernel_rfl))
  t3 := Tryd.underlying3
  a3 := Tryd.isAgg3
  z3 := Tryd.sizeOf3
  v3 := Tryd.zeroValue3
  t4 := Tryd.underlying4
  a4 := Tryd.isAgg4
  z4 := Tryd.sizeOf4
  v4 := Tryd.zeroValue4
  t5 := Tryd.underlying5
  a5 := Tryd.isAgg5
  z5 := Tryd.sizeOf5
  v5 := Tryd.zeroValue5
  t9 := Tryd.underlying9
  a9 := Tryd.isAgg9
  z9 := Tryd.sizeOf9
  v9 := Tryd.zeroValue9
  t46 := Tryd.underlying132
  a46 := Tryd.isAgg132
  z46 := Tryd.sizeOf132
  v46 := Tryd.zeroValue132
  t53 := Tryd.underlying124
  a53 := Tryd.isAgg124
  z53 := Tryd.sizeOf124
  v53 := Tryd.zeroValue124 }
/-- bits.Len64: "Len64 returns the minimum number of bits required to represent x; the result is 0 for x == 0.": IT RETURNS 'Lib.bitLen x'; the world is as it was. ('h0', 'h1': x is a uint64.) (LAID: no walk: one application.) -/
theorem Tryd.bits_Len64 (x : Int) (w : World) (h0 : 0 ≤ x) (h1 : x ≤ 18446744073709551615) :
    Calls Tryd.prog 111 #[.int .u64 x] w fun e w' => e = .returned (.int .i64 (Lib.bitLen x.toNat)) ∧ w' = w := Any.bits_Len64 Tryd.lays129 x w h0 h1
def Tryd.laysBin33_ren : Go.Shelf.Ren := ⟨fun | 33 => 78 | n => n, fun | 25 => 126 | 22 => 36 | 33 => 124 | 0 => 0 | 5 => 5 | 45 => 132 | n => n, fun | n => n⟩
theorem Tryd.laysBin33 : Go.Proofs.LaysBin.n33 Tryd.prog Tryd.laysBin33_ren := {
  mixed := by kernel_rfl
  f33 := Tryd.func78.trans (congrArg some (by kernel_rfl))
  t0 := Tryd.underlying0
  a0 := Tryd.isAgg0
  z0 := Tryd.sizeOf0
  v0 := Tryd.zeroValue0
  i0 := by kernel_rfl
  t5 := Tryd.underlying5
  a5 := Tryd.isAgg5
  z5 := Tryd.sizeOf5
  v5 := Tryd.zeroValue5
  i5 := by kernel_rfl
  t22 := Tryd.underlying36
  a22 := Tryd.isAgg36
  z22 := Tryd.sizeOf36
  v22 := Tryd.zeroValue36
  i22 := by kernel_rfl
  t25 := Tryd.underlying126
  a25 := Tryd.isAgg126
  z25 := Tryd.sizeOf126
  v25 := Tryd.zeroValue126
  i25 := by kernel_rfl
  t33 := Tryd.underlying124
  a33 := Tryd.isAgg124
  z33 := Tryd.sizeOf124
  v33 := Tryd.zeroValue124
  i33 := by kernel_rfl
  t45 := Tryd.underlying132
  a45 := Tryd.isAgg132
  z45 := Tryd.sizeOf132
  v45 := Tryd.zeroValue132
  i45 := by kernel_rfl }
open Go.RowKit in
/-- binary.LittleEndian.Uint64: "Uint64 returns the uint64 representation of b[0:8].": THE NUMBER THAT THE FIRST 8 BYTES SPELL, the least byte first ('Lib.leNat'). Of what was there nothing has turned (the receiver, an empty struct, is laid in a new block without cells; the statement's order is drawn). (LAID: no walk: one application.) -/
theorem Tryd.binary_LE_Uint64 (g o n c : Nat) (b0 b1 b2 b3 b4 b5 b6 b7 : UInt8) (w : World) (hn : 8 ≤ n) (c0 : w.cell? ⟨g, o, none⟩ = some (.int .u8 b0.toNat)) (c1 : w.cell? ⟨g, o + 1, none⟩ = some (.int .u8 b1.toNat)) (c2 : w.cell? ⟨g, o + 2, none⟩ = some (.int .u8 b2.toNat)) (c3 : w.cell? ⟨g, o + 3, none⟩ = some (.int .u8 b3.toNat)) (c4 : w.cell? ⟨g, o + 4, none⟩ = some (.int .u8 b4.toNat)) (c5 : w.cell? ⟨g, o + 5, none⟩ = some (.int .u8 b5.toNat)) (c6 : w.cell? ⟨g, o + 6, none⟩ = some (.int .u8 b6.toNat)) (c7 : w.cell? ⟨g, o + 7, none⟩ = some (.int .u8 b7.toNat)) :
    Calls Tryd.prog 78 #[.agg #[], .slice (some ⟨g, o, none⟩) n c] w fun e w' => e = .returned (.int .u64 (Lib.leNat [b0, b1, b2, b3, b4, b5, b6, b7])) ∧ Below w.heap.size w w' := Any.binary_LE_Uint64 Tryd.laysBin33 g o n c b0 b1 b2 b3 b4 b5 b6 b7 w hn c0 c1 c2 c3 c4 c5 c6 c7
open Go.RowKit in
/-- binary.LittleEndian.Uint64, ITS PREMISES 'open_ints'' CONCLUSION TO THE LETTER: a slice at WHATEVER address a, the numbers zs that its cells hold: THE NUMBER THAT THE FIRST 8 SPELL ('Lib.leZ'). (LAID: no walk: one application.) -/
theorem Tryd.binary_LE_Uint64_z (a : Addr) (n c : Nat) (zs : List Int) (w : World) (hn : 8 ≤ n) (hl : 8 ≤ zs.length) (hcell : ∀ i, i < zs.length → w.cell? (a.add i) = some (.int .u8 (zs.getD i 0))) (hw : ∀ z ∈ zs, (Lit.int .u8 z).wf = true) :
    Calls Tryd.prog 78 #[.agg #[], .slice (some a) n c] w fun e w' => e = .returned (.int .u64 (Lib.leZ (zs.take 8))) ∧ Below w.heap.size w w' := Any.binary_LE_Uint64_z Tryd.laysBin33 a n c zs w hn hl hcell hw
def Tryd.lays187_ren : Go.Shelf.Ren := ⟨fun | 187 => 81 | 255 => 85 | n => n, fun | 37 => 36 | 5 => 5 | 3 => 3 | n => n, fun | n => n⟩
theorem Tryd.lays187 : Go.Proofs.Lays.n187 Tryd.prog Tryd.lays187_ren := {
  mixed := by kernel_rfl
  f187 := Tryd.func81.trans (congrArg some (by kernel_rfl))
  f255 := Tryd.func85.trans (congrArg some (by kernel_rfl))
  t3 := Tryd.underlying3
  a3 := Tryd.isAgg3
  z3 := Tryd.sizeOf3
  v3 := Tryd.zeroValue3
  t5 := Tryd.underlying5
  a5 := Tryd.isAgg5
  z5 := Tryd.sizeOf5
  v5 := Tryd.zeroValue5
  t37 := Tryd.underlying36
  a37 := Tryd.isAgg36
  z37 := Tryd.sizeOf36
  v37 := Tryd.zeroValue36 }
/-- bytes.IndexByte: "IndexByte returns the index of the first instance of c in b, or -1 if c is not present in b.": IT RETURNS 'Lib.indexByte (the bytes of b) c'; the world is as it was. 'xs': the numbers that the slice's cells hold. (LAID: no walk: one application.) -/
theorem Tryd.bytes_IndexByte (b o n c : Nat) (xs : List Int) (cv : Int) (w : World) (hx : xs.length = n) (hc : ∀ i, i < n → w.cell? ⟨b, o + i, none⟩ = some (.int .u8 (xs.getD i 0))) :
    Calls Tryd.prog 81 #[.slice (some ⟨b, o, none⟩) n c, .int .u8 cv] w fun e w' => e = .returned (.int .i64 (Lib.indexByte (Lib.bytesOf xs) cv.toNat.toUInt8)) ∧ w' = w := Any.bytes_IndexByte Tryd.lays187 b o n c xs cv w hx hc
/-- bytes.IndexByte AT nil: -1. (LAID: no walk: one application.) -/
theorem Tryd.bytes_IndexByte_nil (cv : Int) (w : World) :
    Calls Tryd.prog 81 #[.slice none 0 0, .int .u8 cv] w fun e w' => e = .returned (.int .i64 (-1)) ∧ w' = w := Any.bytes_IndexByte_nil Tryd.lays187 cv w
end Go.Proofs
