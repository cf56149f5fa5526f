/-
  DERIVED: THE SHELF's CONTRACTS AT THIS DUMP, IN PLAIN WORDS (tools/lay-plain.mjs out of 'TryzShelf.lean', which tools/lay-shelf.mjs wrote): THE SAME DECLARATIONS UNDER THE SAME NAMES: 'import', 'namespace', 'open', 'def', 'theorem' AND NOTHING ELSE: no command of the shelf's: FOR A HAND-IN. Each laying: the table of numbers ('.._ren') and one theorem, a field a fact of the dump's own or the kernel's comparison; each contract: ONE APPLICATION.
-/
import Derived.Shelf.Strconv.Atoi
import Derived.Shelf.Strconv.Itoa0
import Derived.Shelf.Strconv.Itoa1
import Derived.Shelf.LaysM
import Derived.Shelf.Strconv.Itoa2
import Derived.Shelf.Strconv.Itoa3
import Derived.Shelf.Strconv.AtoiErrFast
import Derived.Shelf.Strconv.ParseIntEmpty
import Derived.Shelf.Strconv.AtoiFail
import Derived.Shelf.Strconv.Clone
import Derived.Shelf.Strconv.SyntaxError
import Derived.Shelf.LaysC
import Derived.Shelf.Strconv.ToError
import Derived.Shelf.Strconv.AtoiErr
import Derived.Shelf.Strconv.Lower
import Derived.Shelf.Strconv.ParseUint10
import Derived.Shelf.Strconv.ParseUint10Empty
import Derived.Shelf.Strconv.ParseUint10Any
import Derived.Shelf.Strconv.ParseInt10
import Derived.Shelf.Strconv.AtoiLong
import Derived.Shelf.Strconv.AtoiInnerAll
import Derived.Shelf.Strconv.RangeError
import Derived.Shelf.Strconv.ToErrorRange
import Derived.Shelf.Strconv.AtoiAll
import Derived.Shelf.Strconv.ParseUintEmpty
import Derived.Shelf.Strconv.ParseUint10b64
import Derived.Shelf.Strconv.ParseUint10b32
import Derived.Shelf.Strconv.ParseUint10b16
import Derived.Shelf.Strconv.ParseUint10b8
import Derived.Shelf.Strconv.ParseUint10At
import Derived.Shelf.Strconv.ParseInt10At64
import Derived.Shelf.Strconv.ParseInt10At32
import Derived.Shelf.Strconv.ParseInt10At16
import Derived.Shelf.Strconv.ParseInt10At8
import Derived.Shelf.Strings.Prefix
import Derived.Shelf.Unicode.Decode
import Derived.Shelf.Unicode.DecodeSlow
import Derived.Shelf.Unicode.DecodeAny
import Derived.Shelf.Strings.FieldsFuncAny
import Derived.Shelf.Strings.FieldsFuncGrows
import Derived.Test.YtomkhhpigpilfaaGreatDoorProg
namespace Go.Proofs
open Go.Shelf
def Tryz.lays244_ren : Go.Shelf.Ren := ⟨fun | 244 => 107 | 247 => 114 | 287 => 122 | 321 => 130 | 322 => 131 | n => n, fun | 9 => 9 | 3 => 3 | 75 => 63 | 4 => 4 | 5 => 5 | 167 => 185 | 37 => 36 | 0 => 0 | 85 => 186 | 2 => 2 | 53 => 29 | 175 => 101 | 46 => 97 | 21 => 21 | 80 => 211 | n => n, fun | n => n⟩
theorem Tryz.lays244 : Go.Proofs.Lays.n244 Tryz.prog Tryz.lays244_ren := {
  mixed := by kernel_rfl
  f244 := Tryz.func107.trans (congrArg some (by kernel_rfl))
  f247 := Tryz.func114.trans (congrArg some (by kernel_rfl))
  f287 := Tryz.func122.trans (congrArg some (by kernel_rfl))
  f321 := Tryz.func130.trans (congrArg some (by kernel_rfl))
  f322 := Tryz.func131.trans (congrArg some (by kernel_rfl))
  t0 := Tryz.underlying0
  a0 := Tryz.isAgg0
  z0 := Tryz.sizeOf0
  v0 := Tryz.zeroValue0
  t2 := Tryz.underlying2
  a2 := Tryz.isAgg2
  z2 := Tryz.sizeOf2
  v2 := Tryz.zeroValue2
  t3 := Tryz.underlying3
  a3 := Tryz.isAgg3
  z3 := Tryz.sizeOf3
  v3 := Tryz.zeroValue3
  t4 := Tryz.underlying4
  a4 := Tryz.isAgg4
  z4 := Tryz.sizeOf4
  v4 := Tryz.zeroValue4
  t5 := Tryz.underlying5
  a5 := Tryz.isAgg5
  z5 := Tryz.sizeOf5
  v5 := Tryz.zeroValue5
  t9 := Tryz.underlying9
  a9 := Tryz.isAgg9
  z9 := Tryz.sizeOf9
  v9 := Tryz.zeroValue9
  t21 := Tryz.underlying21
  a21 := Tryz.isAgg21
  z21 := Tryz.sizeOf21
  v21 := Tryz.zeroValue21
  t37 := Tryz.underlying36
  a37 := Tryz.isAgg36
  z37 := Tryz.sizeOf36
  v37 := Tryz.zeroValue36
  t46 := Tryz.underlying97
  a46 := Tryz.isAgg97
  z46 := Tryz.sizeOf97
  v46 := Tryz.zeroValue97
  t53 := Tryz.underlying29
  a53 := Tryz.isAgg29
  z53 := Tryz.sizeOf29
  v53 := Tryz.zeroValue29
  t75 := Tryz.underlying63
  a75 := Tryz.isAgg63
  z75 := Tryz.sizeOf63
  v75 := Tryz.zeroValue63
  t85 := Tryz.underlying186
  a85 := Tryz.isAgg186
  z85 := Tryz.sizeOf186
  v85 := Tryz.zeroValue186
  t167 := Tryz.underlying185
  a167 := Tryz.isAgg185
  z167 := Tryz.sizeOf185
  v167 := Tryz.zeroValue185
  t175 := Tryz.underlying101
  a175 := Tryz.isAgg101
  z175 := Tryz.sizeOf101
  v175 := Tryz.zeroValue101 }
open Go.RowKit in
/-- internal/strconv.Atoi, at a decimal numeral of at most 18 bytes: ITS VALUE, AND NO ERROR. The world behind the call: the one new row that '[]byte(s)' lays. (LAID: no walk: one application.) -/
theorem Tryz.internal_strconv_Atoi (s : ByteArray) (n : Int) (hl : s.size ≤ 18) (h : Lib.atoi s.data.toList = some n) (w : World) :
    Calls Tryz.prog 107 #[.string s] w fun e w' => e = .returned (.tuple #[.int .i64 n, .nilIface]) ∧ ∃ t, w' = Lib.bytesWorld w 5 t := Any.internal_strconv_Atoi Tryz.lays244 s n hl h w
def Tryz.lays172_ren : Go.Shelf.Ren := ⟨fun | 172 => 100 | 244 => 107 | 245 => 108 | 247 => 114 | 279 => 115 | 280 => 116 | 281 => 117 | 282 => 118 | 287 => 122 | 316 => 123 | 171 => 105 | 205 => 39 | 321 => 130 | 322 => 131 | 243 => 113 | 246 => 121 | 283 => 126 | 284 => 127 | 285 => 128 | 286 => 129 | 129 => 134 | 317 => 133 | 318 => 135 | 319 => 136 | 320 => 137 | 337 => 138 | 338 => 139 | n => n, fun | 9 => 9 | 3 => 3 | 75 => 63 | 76 => 173 | 4 => 4 | 5 => 5 | 167 => 185 | 37 => 36 | 0 => 0 | 85 => 186 | 2 => 2 | 168 => 188 | 53 => 29 | 175 => 101 | 46 => 97 | 210 => 195 | 127 => 202 | 145 => 114 | 143 => 112 | 21 => 21 | 171 => 196 | 173 => 199 | 212 => 204 | 51 => 205 | 20 => 20 | 213 => 206 | 232 => 209 | 233 => 210 | 80 => 211 | n => n, fun | 15 => 4 | 16 => 5 | 17 => 6 | 18 => 7 | 19 => 8 | n => n⟩
theorem Tryz.lays172 : Go.Proofs.Lays.n172 Tryz.prog Tryz.lays172_ren := {
  mixed := by kernel_rfl
  f129 := Tryz.func134.trans (congrArg some (by kernel_rfl))
  f171 := Tryz.func105.trans (congrArg some (by kernel_rfl))
  f172 := Tryz.func100.trans (congrArg some (by kernel_rfl))
  f205 := Tryz.func39.trans (congrArg some (by kernel_rfl))
  f243 := Tryz.func113.trans (congrArg some (by kernel_rfl))
  f244 := Tryz.func107.trans (congrArg some (by kernel_rfl))
  f245 := Tryz.func108.trans (congrArg some (by kernel_rfl))
  f246 := Tryz.func121.trans (congrArg some (by kernel_rfl))
  f247 := Tryz.func114.trans (congrArg some (by kernel_rfl))
  f279 := Tryz.func115.trans (congrArg some (by kernel_rfl))
  f280 := Tryz.func116.trans (congrArg some (by kernel_rfl))
  f281 := Tryz.func117.trans (congrArg some (by kernel_rfl))
  f282 := Tryz.func118.trans (congrArg some (by kernel_rfl))
  f283 := Tryz.func126.trans (congrArg some (by kernel_rfl))
  f284 := Tryz.func127.trans (congrArg some (by kernel_rfl))
  f285 := Tryz.func128.trans (congrArg some (by kernel_rfl))
  f286 := Tryz.func129.trans (congrArg some (by kernel_rfl))
  f287 := Tryz.func122.trans (congrArg some (by kernel_rfl))
  f316 := Tryz.func123.trans (congrArg some (by kernel_rfl))
  f317 := Tryz.func133.trans (congrArg some (by kernel_rfl))
  f318 := Tryz.func135.trans (congrArg some (by kernel_rfl))
  f319 := Tryz.func136.trans (congrArg some (by kernel_rfl))
  f320 := Tryz.func137.trans (congrArg some (by kernel_rfl))
  f321 := Tryz.func130.trans (congrArg some (by kernel_rfl))
  f322 := Tryz.func131.trans (congrArg some (by kernel_rfl))
  f337 := Tryz.func138.trans (congrArg some (by kernel_rfl))
  f338 := Tryz.func139.trans (congrArg some (by kernel_rfl))
  t0 := Tryz.underlying0
  a0 := Tryz.isAgg0
  z0 := Tryz.sizeOf0
  v0 := Tryz.zeroValue0
  t2 := Tryz.underlying2
  a2 := Tryz.isAgg2
  z2 := Tryz.sizeOf2
  v2 := Tryz.zeroValue2
  t3 := Tryz.underlying3
  a3 := Tryz.isAgg3
  z3 := Tryz.sizeOf3
  v3 := Tryz.zeroValue3
  t4 := Tryz.underlying4
  a4 := Tryz.isAgg4
  z4 := Tryz.sizeOf4
  v4 := Tryz.zeroValue4
  t5 := Tryz.underlying5
  a5 := Tryz.isAgg5
  z5 := Tryz.sizeOf5
  v5 := Tryz.zeroValue5
  t9 := Tryz.underlying9
  a9 := Tryz.isAgg9
  z9 := Tryz.sizeOf9
  v9 := Tryz.zeroValue9
  t20 := Tryz.underlying20
  a20 := Tryz.isAgg20
  z20 := Tryz.sizeOf20
  v20 := Tryz.zeroValue20
  t21 := Tryz.underlying21
  a21 := Tryz.isAgg21
  z21 := Tryz.sizeOf21
  v21 := Tryz.zeroValue21
  t37 := Tryz.underlying36
  a37 := Tryz.isAgg36
  z37 := Tryz.sizeOf36
  v37 := Tryz.zeroValue36
  t46 := Tryz.underlying97
  a46 := Tryz.isAgg97
  z46 := Tryz.sizeOf97
  v46 := Tryz.zeroValue97
  t51 := Tryz.underlying205
  a51 := Tryz.isAgg205
  z51 := Tryz.sizeOf205
  v51 := Tryz.zeroValue205
  t53 := Tryz.underlying29
  a53 := Tryz.isAgg29
  z53 := Tryz.sizeOf29
  v53 := Tryz.zeroValue29
  t75 := Tryz.underlying63
  a75 := Tryz.isAgg63
  z75 := Tryz.sizeOf63
  v75 := Tryz.zeroValue63
  t76 := Tryz.underlying173
  a76 := Tryz.isAgg173
  z76 := Tryz.sizeOf173
  v76 := Tryz.zeroValue173
  t85 := Tryz.underlying186
  a85 := Tryz.isAgg186
  z85 := Tryz.sizeOf186
  v85 := Tryz.zeroValue186
  t127 := Tryz.underlying202
  a127 := Tryz.isAgg202
  z127 := Tryz.sizeOf202
  v127 := Tryz.zeroValue202
  t143 := Tryz.underlying112
  a143 := Tryz.isAgg112
  z143 := Tryz.sizeOf112
  v143 := Tryz.zeroValue112
  t145 := Tryz.underlying114
  a145 := Tryz.isAgg114
  z145 := Tryz.sizeOf114
  v145 := Tryz.zeroValue114
  t167 := Tryz.underlying185
  a167 := Tryz.isAgg185
  z167 := Tryz.sizeOf185
  v167 := Tryz.zeroValue185
  t168 := Tryz.underlying188
  a168 := Tryz.isAgg188
  z168 := Tryz.sizeOf188
  v168 := Tryz.zeroValue188
  t171 := Tryz.underlying196
  a171 := Tryz.isAgg196
  z171 := Tryz.sizeOf196
  v171 := Tryz.zeroValue196
  t173 := Tryz.underlying199
  a173 := Tryz.isAgg199
  z173 := Tryz.sizeOf199
  v173 := Tryz.zeroValue199
  t175 := Tryz.underlying101
  a175 := Tryz.isAgg101
  z175 := Tryz.sizeOf101
  v175 := Tryz.zeroValue101
  t210 := Tryz.underlying195
  a210 := Tryz.isAgg195
  z210 := Tryz.sizeOf195
  v210 := Tryz.zeroValue195
  t212 := Tryz.underlying204
  a212 := Tryz.isAgg204
  z212 := Tryz.sizeOf204
  v212 := Tryz.zeroValue204
  t213 := Tryz.underlying206
  a213 := Tryz.isAgg206
  z213 := Tryz.sizeOf206
  t232 := Tryz.underlying209
  a232 := Tryz.isAgg209
  z232 := Tryz.sizeOf209
  v232 := Tryz.zeroValue209
  t233 := Tryz.underlying210
  a233 := Tryz.isAgg210
  z233 := Tryz.sizeOf210
  v233 := Tryz.zeroValue210
  g15 := by kernel_rfl
  g16 := by kernel_rfl
  g17 := by kernel_rfl
  g18 := by kernel_rfl
  g19 := by kernel_rfl }
open Go.RowKit in
/-- strconv.Atoi: "Atoi is equivalent to ParseInt(s, 10, 0), converted to type int.": AT A DECIMAL NUMERAL OF AT MOST 18 BYTES: its value, and a nil error. The world behind the call: the one new row that the library's '[]byte(s)' lays. (LAID: no walk: one application.) -/
theorem Tryz.strconv_Atoi (s : ByteArray) (n : Int) (hl : s.size ≤ 18) (h : Lib.atoi s.data.toList = some n) (w : World) :
    Calls Tryz.prog 100 #[.string s] w fun e w' => e = .returned (.tuple #[.int .i64 n, .nilIface]) ∧ ∃ t, w' = Lib.bytesWorld w 5 t := Any.strconv_Atoi Tryz.lays172 s n hl h w
def Tryz.lays129_ren : Go.Shelf.Ren := ⟨fun | 129 => 134 | n => n, fun | 53 => 29 | 3 => 3 | 4 => 4 | 46 => 97 | 5 => 5 | 9 => 9 | n => n, fun | n => n⟩
theorem Tryz.lays129 : Go.Proofs.Lays.n129 Tryz.prog Tryz.lays129_ren := {
  mixed := by kernel_rfl
  f129 := Tryz.func134.trans (congrArg some (by kernel_rfl))
  t3 := Tryz.underlying3
  a3 := Tryz.isAgg3
  z3 := Tryz.sizeOf3
  v3 := Tryz.zeroValue3
  t4 := Tryz.underlying4
  a4 := Tryz.isAgg4
  z4 := Tryz.sizeOf4
  v4 := Tryz.zeroValue4
  t5 := Tryz.underlying5
  a5 := Tryz.isAgg5
  z5 := Tryz.sizeOf5
  v5 := Tryz.zeroValue5
  t9 := Tryz.underlying9
  a9 := Tryz.isAgg9
  z9 := Tryz.sizeOf9
  v9 := Tryz.zeroValue9
  t46 := Tryz.underlying97
  a46 := Tryz.isAgg97
  z46 := Tryz.sizeOf97
  v46 := Tryz.zeroValue97
  t53 := Tryz.underlying29
  a53 := Tryz.isAgg29
  z53 := Tryz.sizeOf29
  v53 := Tryz.zeroValue29 }
/-- bits.Len64: "Len64 returns the minimum number of bits required to represent x; the result is 0 for x == 0.": IT RETURNS 'Lib.bitLen x'; the world is as it was. ('h0', 'h1': x is a uint64.) (LAID: no walk: one application.) -/
theorem Tryz.bits_Len64 (x : Int) (w : World) (h0 : 0 ≤ x) (h1 : x ≤ 18446744073709551615) :
    Calls Tryz.prog 134 #[.int .u64 x] w fun e w' => e = .returned (.int .i64 (Lib.bitLen x.toNat)) ∧ w' = w := Any.bits_Len64 Tryz.lays129 x w h0 h1
def Tryz.lays317_ren : Go.Shelf.Ren := ⟨fun | 317 => 133 | n => n, fun | 3 => 3 | 46 => 97 | n => n, fun | n => n⟩
theorem Tryz.lays317 : Go.Proofs.Lays.n317 Tryz.prog Tryz.lays317_ren := {
  mixed := by kernel_rfl
  f317 := Tryz.func133.trans (congrArg some (by kernel_rfl))
  t3 := Tryz.underlying3
  a3 := Tryz.isAgg3
  z3 := Tryz.sizeOf3
  v3 := Tryz.zeroValue3
  t46 := Tryz.underlying97
  a46 := Tryz.isAgg97
  z46 := Tryz.sizeOf97
  v46 := Tryz.zeroValue97 }
open Go.Lib in
/-- internal/strconv.log10Pow2: "log10Pow2(x) returns ⌊log₁₀ 2**x⌋ = ⌊x * log₁₀ 2⌋.": '(x * 78913) >> 18', at an x up to 64 (a length in bits). The world is as it was. (LAID: no walk: one application.) -/
theorem Tryz.internal_strconv_log10Pow2 (x : Nat) (h : x ≤ 64) (w : World) :
    Calls Tryz.prog 133 #[.int .i64 x] w fun e w' => e = .returned (.int .i64 (Lib.l10 x)) ∧ w' = w := Any.internal_strconv_log10Pow2 Tryz.lays317 x h w
def Tryz.lays318_ren : Go.Shelf.Ren := ⟨fun | 318 => 135 | n => n, fun | 3 => 3 | 4 => 4 | n => n, fun | n => n⟩
theorem Tryz.lays318 : Go.Proofs.Lays.n318 Tryz.prog Tryz.lays318_ren := {
  mixed := by kernel_rfl
  f318 := Tryz.func135.trans (congrArg some (by kernel_rfl))
  t3 := Tryz.underlying3
  a3 := Tryz.isAgg3
  z3 := Tryz.sizeOf3
  v3 := Tryz.zeroValue3
  t4 := Tryz.underlying4
  a4 := Tryz.isAgg4
  z4 := Tryz.sizeOf4
  v4 := Tryz.zeroValue4 }
open Go.Lib in
/-- internal/strconv.bool2: "bool2 converts b to an integer: 1 for true, 0 for false." The world is as it was. (LAID: no walk: one application.) -/
theorem Tryz.internal_strconv_bool2_int (b : Bool) (w : World) :
    Calls Tryz.prog 135 #[.bool b] w fun e w' => e = .returned (.int .i64 (if b then 1 else 0)) ∧ w' = w := Any.internal_strconv_bool2_int Tryz.lays318 b w
def Tryz.lays283_ren : Go.Shelf.Ren := ⟨fun | 283 => 126 | n => n, fun | 3 => 3 | 9 => 9 | 4 => 4 | n => n, fun | n => n⟩
theorem Tryz.lays283 : Go.Proofs.Lays.n283 Tryz.prog Tryz.lays283_ren := {
  mixed := by kernel_rfl
  f283 := Tryz.func126.trans (congrArg some (by kernel_rfl))
  t3 := Tryz.underlying3
  a3 := Tryz.isAgg3
  z3 := Tryz.sizeOf3
  v3 := Tryz.zeroValue3
  t4 := Tryz.underlying4
  a4 := Tryz.isAgg4
  z4 := Tryz.sizeOf4
  v4 := Tryz.zeroValue4
  t9 := Tryz.underlying9
  a9 := Tryz.isAgg9
  z9 := Tryz.sizeOf9
  v9 := Tryz.zeroValue9 }
open Go.Lib in
/-- internal/strconv.small: "small returns the string for an i with 0 <= i < nSmalls.": i's decimal numeral. The world is as it was. (LAID: no walk: one application.) -/
theorem Tryz.internal_strconv_small (i : Nat) (h : i < 100) (w : World) :
    Calls Tryz.prog 126 #[.int .i64 i] w fun e w' => e = .returned (.string ⟨(Lib.decDigits i).toArray⟩) ∧ w' = w := Any.internal_strconv_small Tryz.lays283 i h w
def Tryz.laysM284_ren : Go.Shelf.Ren := ⟨fun | 284 => 127 | 129 => 134 | 317 => 133 | 318 => 135 | n => n, fun | 53 => 29 | 3 => 3 | 212 => 204 | 0 => 0 | 4 => 4 | 46 => 97 | 5 => 5 | 9 => 9 | n => n, fun | 17 => 6 | n => n⟩
theorem Tryz.laysM284 : Go.Proofs.LaysM.n284 Tryz.prog Tryz.laysM284_ren := {
  mixed := by kernel_rfl
  f129 := Tryz.func134.trans (congrArg some (by kernel_rfl))
  f284 := Tryz.func127.trans (congrArg some (by kernel_rfl))
  f317 := Tryz.func133.trans (congrArg some (by kernel_rfl))
  f318 := Tryz.func135.trans (congrArg some (by kernel_rfl))
  t0 := Tryz.underlying0
  a0 := Tryz.isAgg0
  z0 := Tryz.sizeOf0
  v0 := Tryz.zeroValue0
  t3 := Tryz.underlying3
  a3 := Tryz.isAgg3
  z3 := Tryz.sizeOf3
  v3 := Tryz.zeroValue3
  t4 := Tryz.underlying4
  a4 := Tryz.isAgg4
  z4 := Tryz.sizeOf4
  v4 := Tryz.zeroValue4
  t5 := Tryz.underlying5
  a5 := Tryz.isAgg5
  z5 := Tryz.sizeOf5
  v5 := Tryz.zeroValue5
  t9 := Tryz.underlying9
  a9 := Tryz.isAgg9
  z9 := Tryz.sizeOf9
  v9 := Tryz.zeroValue9
  t46 := Tryz.underlying97
  a46 := Tryz.isAgg97
  z46 := Tryz.sizeOf97
  v46 := Tryz.zeroValue97
  t53 := Tryz.underlying29
  a53 := Tryz.isAgg29
  z53 := Tryz.sizeOf29
  v53 := Tryz.zeroValue29
  t212 := Tryz.underlying204
  a212 := Tryz.isAgg204
  z212 := Tryz.sizeOf204
  v212 := Tryz.zeroValue204
  g17 := by kernel_rfl
  i0 := by kernel_rfl
  i3 := by kernel_rfl
  i4 := by kernel_rfl
  i5 := by kernel_rfl
  i9 := by kernel_rfl
  i46 := by kernel_rfl
  i53 := by kernel_rfl
  i212 := by kernel_rfl
  m17 := by kernel_rfl }
open Go.Lib in
/-- internal/strconv.numDigits, at a d that is not 0: THE NUMBER OF d's DECIMAL DIGITS. The world is as it was. (LAID: no walk: one application.) -/
theorem Tryz.internal_strconv_numDigits (u : Nat) (h1 : 1 ≤ u) (h2 : u < 18446744073709551616) (w : World) (htab : Lib.TabIs Tryz.prog w "internal/strconv.uint64pow10" .u64 Lib.pow10Tab) :
    Calls Tryz.prog 127 #[.int .u64 u] w fun e w' => e = .returned (.int .i64 (Lib.nDigits u)) ∧ w' = w := Any.internal_strconv_numDigits Tryz.laysM284 u h1 h2 w htab
def Tryz.lays285_ren : Go.Shelf.Ren := ⟨fun | 285 => 128 | n => n, fun | 37 => 36 | 53 => 29 | 3 => 3 | 4 => 4 | 51 => 205 | 9 => 9 | 5 => 5 | 0 => 0 | n => n, fun | n => n⟩
theorem Tryz.lays285 : Go.Proofs.Lays.n285 Tryz.prog Tryz.lays285_ren := {
  mixed := by kernel_rfl
  f285 := Tryz.func128.trans (congrArg some (by kernel_rfl))
  t0 := Tryz.underlying0
  a0 := Tryz.isAgg0
  z0 := Tryz.sizeOf0
  v0 := Tryz.zeroValue0
  t3 := Tryz.underlying3
  a3 := Tryz.isAgg3
  z3 := Tryz.sizeOf3
  v3 := Tryz.zeroValue3
  t4 := Tryz.underlying4
  a4 := Tryz.isAgg4
  z4 := Tryz.sizeOf4
  v4 := Tryz.zeroValue4
  t5 := Tryz.underlying5
  a5 := Tryz.isAgg5
  z5 := Tryz.sizeOf5
  v5 := Tryz.zeroValue5
  t9 := Tryz.underlying9
  a9 := Tryz.isAgg9
  z9 := Tryz.sizeOf9
  v9 := Tryz.zeroValue9
  t37 := Tryz.underlying36
  a37 := Tryz.isAgg36
  z37 := Tryz.sizeOf36
  v37 := Tryz.zeroValue36
  t51 := Tryz.underlying205
  a51 := Tryz.isAgg205
  z51 := Tryz.sizeOf205
  v51 := Tryz.zeroValue205
  t53 := Tryz.underlying29
  a53 := Tryz.isAgg29
  z53 := Tryz.sizeOf29
  v53 := Tryz.zeroValue29 }
open Go.RowKit Go.Sort Go.Lib in
/-- internal/strconv.formatBase10: "formatBase10 formats the decimal representation of u into a. The caller is responsible for ensuring that a is big enough to hold u. If a is too big, leading zeros will be filled in as needed.": THE ROW HOLDS u's DIGITS ('FmtInv .. 0 ..': every place t holds 'dg u (len - 1 - t)'); all else is as it was but for the count of draws. (LAID: no walk: one application.) -/
theorem Tryz.internal_strconv_formatBase10 (blk off cap : Nat) (u : Nat) (d : Array UInt8) (w : World) (hH : Holds (fun (b : UInt8) => Value.int .u8 (b.toNat : Int)) w blk off d) (hu : u < 10 ^ d.size) (hu64 : u < 18446744073709551616) (hsz : d.size < 4611686018427387904) :
    Calls Tryz.prog 128 #[.slice (some ⟨blk, off, none⟩) d.size cap, .int .u64 u] w fun e w' =>
      e = .returned (.tuple #[]) ∧ ∃ (n v' : Nat) (dk : Array UInt8), w' = (putRow (fun (b : UInt8) => Value.int .u8 (b.toNat : Int)) w blk off dk).drewN n ∧ FmtInv d.size u 0 v' dk := Any.internal_strconv_formatBase10 Tryz.lays285 blk off cap u d w hH hu hu64 hsz
def Tryz.laysM246_ren : Go.Shelf.Ren := ⟨fun | 246 => 121 | 283 => 126 | 284 => 127 | 285 => 128 | 286 => 129 | 129 => 134 | 317 => 133 | 318 => 135 | 319 => 136 | 320 => 137 | 337 => 138 | 338 => 139 | n => n, fun | 2 => 2 | 3 => 3 | 9 => 9 | 4 => 4 | 171 => 196 | 0 => 0 | 53 => 29 | 37 => 36 | 5 => 5 | 173 => 199 | 212 => 204 | 51 => 205 | 20 => 20 | 213 => 206 | 46 => 97 | 232 => 209 | 233 => 210 | n => n, fun | 17 => 6 | 18 => 7 | 19 => 8 | n => n⟩
theorem Tryz.laysM246 : Go.Proofs.LaysM.n246 Tryz.prog Tryz.laysM246_ren := {
  mixed := by kernel_rfl
  f129 := Tryz.func134.trans (congrArg some (by kernel_rfl))
  f246 := Tryz.func121.trans (congrArg some (by kernel_rfl))
  f283 := Tryz.func126.trans (congrArg some (by kernel_rfl))
  f284 := Tryz.func127.trans (congrArg some (by kernel_rfl))
  f285 := Tryz.func128.trans (congrArg some (by kernel_rfl))
  f286 := Tryz.func129.trans (congrArg some (by kernel_rfl))
  f317 := Tryz.func133.trans (congrArg some (by kernel_rfl))
  f318 := Tryz.func135.trans (congrArg some (by kernel_rfl))
  f319 := Tryz.func136.trans (congrArg some (by kernel_rfl))
  f320 := Tryz.func137.trans (congrArg some (by kernel_rfl))
  f337 := Tryz.func138.trans (congrArg some (by kernel_rfl))
  f338 := Tryz.func139.trans (congrArg some (by kernel_rfl))
  t0 := Tryz.underlying0
  a0 := Tryz.isAgg0
  z0 := Tryz.sizeOf0
  v0 := Tryz.zeroValue0
  t2 := Tryz.underlying2
  a2 := Tryz.isAgg2
  z2 := Tryz.sizeOf2
  v2 := Tryz.zeroValue2
  t3 := Tryz.underlying3
  a3 := Tryz.isAgg3
  z3 := Tryz.sizeOf3
  v3 := Tryz.zeroValue3
  t4 := Tryz.underlying4
  a4 := Tryz.isAgg4
  z4 := Tryz.sizeOf4
  v4 := Tryz.zeroValue4
  t5 := Tryz.underlying5
  a5 := Tryz.isAgg5
  z5 := Tryz.sizeOf5
  v5 := Tryz.zeroValue5
  t9 := Tryz.underlying9
  a9 := Tryz.isAgg9
  z9 := Tryz.sizeOf9
  v9 := Tryz.zeroValue9
  t20 := Tryz.underlying20
  a20 := Tryz.isAgg20
  z20 := Tryz.sizeOf20
  v20 := Tryz.zeroValue20
  t37 := Tryz.underlying36
  a37 := Tryz.isAgg36
  z37 := Tryz.sizeOf36
  v37 := Tryz.zeroValue36
  t46 := Tryz.underlying97
  a46 := Tryz.isAgg97
  z46 := Tryz.sizeOf97
  v46 := Tryz.zeroValue97
  t51 := Tryz.underlying205
  a51 := Tryz.isAgg205
  z51 := Tryz.sizeOf205
  v51 := Tryz.zeroValue205
  t53 := Tryz.underlying29
  a53 := Tryz.isAgg29
  z53 := Tryz.sizeOf29
  v53 := Tryz.zeroValue29
  t171 := Tryz.underlying196
  a171 := Tryz.isAgg196
  z171 := Tryz.sizeOf196
  v171 := Tryz.zeroValue196
  t173 := Tryz.underlying199
  a173 := Tryz.isAgg199
  z173 := Tryz.sizeOf199
  v173 := Tryz.zeroValue199
  t212 := Tryz.underlying204
  a212 := Tryz.isAgg204
  z212 := Tryz.sizeOf204
  v212 := Tryz.zeroValue204
  t213 := Tryz.underlying206
  a213 := Tryz.isAgg206
  z213 := Tryz.sizeOf206
  t232 := Tryz.underlying209
  a232 := Tryz.isAgg209
  z232 := Tryz.sizeOf209
  v232 := Tryz.zeroValue209
  t233 := Tryz.underlying210
  a233 := Tryz.isAgg210
  z233 := Tryz.sizeOf210
  v233 := Tryz.zeroValue210
  g17 := by kernel_rfl
  g18 := by kernel_rfl
  g19 := by kernel_rfl
  i0 := by kernel_rfl
  i2 := by kernel_rfl
  i3 := by kernel_rfl
  i4 := by kernel_rfl
  i5 := by kernel_rfl
  i9 := by kernel_rfl
  i20 := by kernel_rfl
  i37 := by kernel_rfl
  i46 := by kernel_rfl
  i51 := by kernel_rfl
  i53 := by kernel_rfl
  i171 := by kernel_rfl
  i173 := by kernel_rfl
  i212 := by kernel_rfl
  i232 := by kernel_rfl
  i233 := by kernel_rfl
  m17 := by kernel_rfl
  m18 := by kernel_rfl
  m19 := by kernel_rfl }
open Go.RowKit Go.Sort Go.Lib in
/-- internal/strconv.FormatInt: "FormatInt returns the string representation of i in the given base": AT BASE 10: i's decimal numeral, for every int64. The world behind the call: the world before it, new blocks behind the heap, draws. (LAID: no walk: one application.) -/
theorem Tryz.internal_strconv_FormatInt_10 (n : Int) (h0 : -9223372036854775808 ≤ n) (h1 : n ≤ 9223372036854775807) (w : World) (htab : Lib.TabIs Tryz.prog w "internal/strconv.uint64pow10" .u64 Lib.pow10Tab) :
    Calls Tryz.prog 121 #[.int .i64 n, .int .i64 10] w fun e w' => e = .returned (.string ⟨(Lib.itoa n).toArray⟩) ∧ ∃ k os, w' = grow (w.drewN k) os := Any.internal_strconv_FormatInt_10 Tryz.laysM246 n h0 h1 w htab
def Tryz.lays246_ren : Go.Shelf.Ren := ⟨fun | 246 => 121 | 283 => 126 | 284 => 127 | 285 => 128 | 286 => 129 | 129 => 134 | 317 => 133 | 318 => 135 | 319 => 136 | 320 => 137 | 337 => 138 | 338 => 139 | n => n, fun | 2 => 2 | 3 => 3 | 9 => 9 | 4 => 4 | 171 => 196 | 0 => 0 | 53 => 29 | 37 => 36 | 5 => 5 | 173 => 199 | 212 => 204 | 51 => 205 | 20 => 20 | 213 => 206 | 46 => 97 | 232 => 209 | 233 => 210 | n => n, fun | 17 => 6 | 18 => 7 | 19 => 8 | n => n⟩
theorem Tryz.lays246 : Go.Proofs.Lays.n246 Tryz.prog Tryz.lays246_ren := {
  mixed := by kernel_rfl
  f129 := Tryz.func134.trans (congrArg some (by kernel_rfl))
  f246 := Tryz.func121.trans (congrArg some (by kernel_rfl))
  f283 := Tryz.func126.trans (congrArg some (by kernel_rfl))
  f284 := Tryz.func127.trans (congrArg some (by kernel_rfl))
  f285 := Tryz.func128.trans (congrArg some (by kernel_rfl))
  f286 := Tryz.func129.trans (congrArg some (by kernel_rfl))
  f317 := Tryz.func133.trans (congrArg some (by kernel_rfl))
  f318 := Tryz.func135.trans (congrArg some (by kernel_rfl))
  f319 := Tryz.func136.trans (congrArg some (by kernel_rfl))
  f320 := Tryz.func137.trans (congrArg some (by kernel_rfl))
  f337 := Tryz.func138.trans (congrArg some (by kernel_rfl))
  f338 := Tryz.func139.trans (congrArg some (by kernel_rfl))
  t0 := Tryz.underlying0
  a0 := Tryz.isAgg0
  z0 := Tryz.sizeOf0
  v0 := Tryz.zeroValue0
  t2 := Tryz.underlying2
  a2 := Tryz.isAgg2
  z2 := Tryz.sizeOf2
  v2 := Tryz.zeroValue2
  t3 := Tryz.underlying3
  a3 := Tryz.isAgg3
  z3 := Tryz.sizeOf3
  v3 := Tryz.zeroValue3
  t4 := Tryz.underlying4
  a4 := Tryz.isAgg4
  z4 := Tryz.sizeOf4
  v4 := Tryz.zeroValue4
  t5 := Tryz.underlying5
  a5 := Tryz.isAgg5
  z5 := Tryz.sizeOf5
  v5 := Tryz.zeroValue5
  t9 := Tryz.underlying9
  a9 := Tryz.isAgg9
  z9 := Tryz.sizeOf9
  v9 := Tryz.zeroValue9
  t20 := Tryz.underlying20
  a20 := Tryz.isAgg20
  z20 := Tryz.sizeOf20
  v20 := Tryz.zeroValue20
  t37 := Tryz.underlying36
  a37 := Tryz.isAgg36
  z37 := Tryz.sizeOf36
  v37 := Tryz.zeroValue36
  t46 := Tryz.underlying97
  a46 := Tryz.isAgg97
  z46 := Tryz.sizeOf97
  v46 := Tryz.zeroValue97
  t51 := Tryz.underlying205
  a51 := Tryz.isAgg205
  z51 := Tryz.sizeOf205
  v51 := Tryz.zeroValue205
  t53 := Tryz.underlying29
  a53 := Tryz.isAgg29
  z53 := Tryz.sizeOf29
  v53 := Tryz.zeroValue29
  t171 := Tryz.underlying196
  a171 := Tryz.isAgg196
  z171 := Tryz.sizeOf196
  v171 := Tryz.zeroValue196
  t173 := Tryz.underlying199
  a173 := Tryz.isAgg199
  z173 := Tryz.sizeOf199
  v173 := Tryz.zeroValue199
  t212 := Tryz.underlying204
  a212 := Tryz.isAgg204
  z212 := Tryz.sizeOf204
  v212 := Tryz.zeroValue204
  t213 := Tryz.underlying206
  a213 := Tryz.isAgg206
  z213 := Tryz.sizeOf206
  t232 := Tryz.underlying209
  a232 := Tryz.isAgg209
  z232 := Tryz.sizeOf209
  v232 := Tryz.zeroValue209
  t233 := Tryz.underlying210
  a233 := Tryz.isAgg210
  z233 := Tryz.sizeOf210
  v233 := Tryz.zeroValue210
  g17 := by kernel_rfl
  g18 := by kernel_rfl
  g19 := by kernel_rfl }
open Go.RowKit Go.Sort Go.Lib in
/-- THE ROAD WITHOUT THE TABLE: 0 <= i < 100: two constants are read, nothing is laid: no premise on the world, and the world is as it was. (LAID: no walk: one application.) -/
theorem Tryz.internal_strconv_FormatInt_10_small (i : Nat) (hi : i < 100) (w : World) :
    Calls Tryz.prog 121 #[.int .i64 i, .int .i64 10] w fun e w' => e = .returned (.string ⟨(Lib.decDigits i).toArray⟩) ∧ w' = w := Any.internal_strconv_FormatInt_10_small Tryz.lays246 i hi w
def Tryz.laysM243_ren : Go.Shelf.Ren := ⟨fun | 243 => 113 | 246 => 121 | 283 => 126 | 284 => 127 | 285 => 128 | 286 => 129 | 129 => 134 | 317 => 133 | 318 => 135 | 319 => 136 | 320 => 137 | 337 => 138 | 338 => 139 | n => n, fun | 3 => 3 | 9 => 9 | 2 => 2 | 4 => 4 | 171 => 196 | 0 => 0 | 53 => 29 | 37 => 36 | 5 => 5 | 173 => 199 | 212 => 204 | 51 => 205 | 20 => 20 | 213 => 206 | 46 => 97 | 232 => 209 | 233 => 210 | n => n, fun | 17 => 6 | 18 => 7 | 19 => 8 | n => n⟩
theorem Tryz.laysM243 : Go.Proofs.LaysM.n243 Tryz.prog Tryz.laysM243_ren := {
  mixed := by kernel_rfl
  f129 := Tryz.func134.trans (congrArg some (by kernel_rfl))
  f243 := Tryz.func113.trans (congrArg some (by kernel_rfl))
  f246 := Tryz.func121.trans (congrArg some (by kernel_rfl))
  f283 := Tryz.func126.trans (congrArg some (by kernel_rfl))
  f284 := Tryz.func127.trans (congrArg some (by kernel_rfl))
  f285 := Tryz.func128.trans (congrArg some (by kernel_rfl))
  f286 := Tryz.func129.trans (congrArg some (by kernel_rfl))
  f317 := Tryz.func133.trans (congrArg some (by kernel_rfl))
  f318 := Tryz.func135.trans (congrArg some (by kernel_rfl))
  f319 := Tryz.func136.trans (congrArg some (by kernel_rfl))
  f320 := Tryz.func137.trans (congrArg some (by kernel_rfl))
  f337 := Tryz.func138.trans (congrArg some (by kernel_rfl))
  f338 := Tryz.func139.trans (congrArg some (by kernel_rfl))
  t0 := Tryz.underlying0
  a0 := Tryz.isAgg0
  z0 := Tryz.sizeOf0
  v0 := Tryz.zeroValue0
  t2 := Tryz.underlying2
  a2 := Tryz.isAgg2
  z2 := Tryz.sizeOf2
  v2 := Tryz.zeroValue2
  t3 := Tryz.underlying3
  a3 := Tryz.isAgg3
  z3 := Tryz.sizeOf3
  v3 := Tryz.zeroValue3
  t4 := Tryz.underlying4
  a4 := Tryz.isAgg4
  z4 := Tryz.sizeOf4
  v4 := Tryz.zeroValue4
  t5 := Tryz.underlying5
  a5 := Tryz.isAgg5
  z5 := Tryz.sizeOf5
  v5 := Tryz.zeroValue5
  t9 := Tryz.underlying9
  a9 := Tryz.isAgg9
  z9 := Tryz.sizeOf9
  v9 := Tryz.zeroValue9
  t20 := Tryz.underlying20
  a20 := Tryz.isAgg20
  z20 := Tryz.sizeOf20
  v20 := Tryz.zeroValue20
  t37 := Tryz.underlying36
  a37 := Tryz.isAgg36
  z37 := Tryz.sizeOf36
  v37 := Tryz.zeroValue36
  t46 := Tryz.underlying97
  a46 := Tryz.isAgg97
  z46 := Tryz.sizeOf97
  v46 := Tryz.zeroValue97
  t51 := Tryz.underlying205
  a51 := Tryz.isAgg205
  z51 := Tryz.sizeOf205
  v51 := Tryz.zeroValue205
  t53 := Tryz.underlying29
  a53 := Tryz.isAgg29
  z53 := Tryz.sizeOf29
  v53 := Tryz.zeroValue29
  t171 := Tryz.underlying196
  a171 := Tryz.isAgg196
  z171 := Tryz.sizeOf196
  v171 := Tryz.zeroValue196
  t173 := Tryz.underlying199
  a173 := Tryz.isAgg199
  z173 := Tryz.sizeOf199
  v173 := Tryz.zeroValue199
  t212 := Tryz.underlying204
  a212 := Tryz.isAgg204
  z212 := Tryz.sizeOf204
  v212 := Tryz.zeroValue204
  t213 := Tryz.underlying206
  a213 := Tryz.isAgg206
  z213 := Tryz.sizeOf206
  t232 := Tryz.underlying209
  a232 := Tryz.isAgg209
  z232 := Tryz.sizeOf209
  v232 := Tryz.zeroValue209
  t233 := Tryz.underlying210
  a233 := Tryz.isAgg210
  z233 := Tryz.sizeOf210
  v233 := Tryz.zeroValue210
  g17 := by kernel_rfl
  g18 := by kernel_rfl
  g19 := by kernel_rfl
  i0 := by kernel_rfl
  i2 := by kernel_rfl
  i3 := by kernel_rfl
  i4 := by kernel_rfl
  i5 := by kernel_rfl
  i9 := by kernel_rfl
  i20 := by kernel_rfl
  i37 := by kernel_rfl
  i46 := by kernel_rfl
  i51 := by kernel_rfl
  i53 := by kernel_rfl
  i171 := by kernel_rfl
  i173 := by kernel_rfl
  i212 := by kernel_rfl
  i232 := by kernel_rfl
  i233 := by kernel_rfl
  m17 := by kernel_rfl
  m18 := by kernel_rfl
  m19 := by kernel_rfl }
open Go.RowKit Go.Sort Go.Lib in
/-- internal/strconv.Itoa: "Itoa is equivalent to FormatInt(int64(i), 10).": i's decimal numeral, for every int. (LAID: no walk: one application.) -/
theorem Tryz.internal_strconv_Itoa (n : Int) (h0 : -9223372036854775808 ≤ n) (h1 : n ≤ 9223372036854775807) (w : World) (htab : Lib.TabIs Tryz.prog w "internal/strconv.uint64pow10" .u64 Lib.pow10Tab) :
    Calls Tryz.prog 113 #[.int .i64 n] w fun e w' => e = .returned (.string ⟨(Lib.itoa n).toArray⟩) ∧ ∃ k os, w' = grow (w.drewN k) os := Any.internal_strconv_Itoa Tryz.laysM243 n h0 h1 w htab
def Tryz.lays243_ren : Go.Shelf.Ren := ⟨fun | 243 => 113 | 246 => 121 | 283 => 126 | 284 => 127 | 285 => 128 | 286 => 129 | 129 => 134 | 317 => 133 | 318 => 135 | 319 => 136 | 320 => 137 | 337 => 138 | 338 => 139 | n => n, fun | 3 => 3 | 9 => 9 | 2 => 2 | 4 => 4 | 171 => 196 | 0 => 0 | 53 => 29 | 37 => 36 | 5 => 5 | 173 => 199 | 212 => 204 | 51 => 205 | 20 => 20 | 213 => 206 | 46 => 97 | 232 => 209 | 233 => 210 | n => n, fun | 17 => 6 | 18 => 7 | 19 => 8 | n => n⟩
theorem Tryz.lays243 : Go.Proofs.Lays.n243 Tryz.prog Tryz.lays243_ren := {
  mixed := by kernel_rfl
  f129 := Tryz.func134.trans (congrArg some (by kernel_rfl))
  f243 := Tryz.func113.trans (congrArg some (by kernel_rfl))
  f246 := Tryz.func121.trans (congrArg some (by kernel_rfl))
  f283 := Tryz.func126.trans (congrArg some (by kernel_rfl))
  f284 := Tryz.func127.trans (congrArg some (by kernel_rfl))
  f285 := Tryz.func128.trans (congrArg some (by kernel_rfl))
  f286 := Tryz.func129.trans (congrArg some (by kernel_rfl))
  f317 := Tryz.func133.trans (congrArg some (by kernel_rfl))
  f318 := Tryz.func135.trans (congrArg some (by kernel_rfl))
  f319 := Tryz.func136.trans (congrArg some (by kernel_rfl))
  f320 := Tryz.func137.trans (congrArg some (by kernel_rfl))
  f337 := Tryz.func138.trans (congrArg some (by kernel_rfl))
  f338 := Tryz.func139.trans (congrArg some (by kernel_rfl))
  t0 := Tryz.underlying0
  a0 := Tryz.isAgg0
  z0 := Tryz.sizeOf0
  v0 := Tryz.zeroValue0
  t2 := Tryz.underlying2
  a2 := Tryz.isAgg2
  z2 := Tryz.sizeOf2
  v2 := Tryz.zeroValue2
  t3 := Tryz.underlying3
  a3 := Tryz.isAgg3
  z3 := Tryz.sizeOf3
  v3 := Tryz.zeroValue3
  t4 := Tryz.underlying4
  a4 := Tryz.isAgg4
  z4 := Tryz.sizeOf4
  v4 := Tryz.zeroValue4
  t5 := Tryz.underlying5
  a5 := Tryz.isAgg5
  z5 := Tryz.sizeOf5
  v5 := Tryz.zeroValue5
  t9 := Tryz.underlying9
  a9 := Tryz.isAgg9
  z9 := Tryz.sizeOf9
  v9 := Tryz.zeroValue9
  t20 := Tryz.underlying20
  a20 := Tryz.isAgg20
  z20 := Tryz.sizeOf20
  v20 := Tryz.zeroValue20
  t37 := Tryz.underlying36
  a37 := Tryz.isAgg36
  z37 := Tryz.sizeOf36
  v37 := Tryz.zeroValue36
  t46 := Tryz.underlying97
  a46 := Tryz.isAgg97
  z46 := Tryz.sizeOf97
  v46 := Tryz.zeroValue97
  t51 := Tryz.underlying205
  a51 := Tryz.isAgg205
  z51 := Tryz.sizeOf205
  v51 := Tryz.zeroValue205
  t53 := Tryz.underlying29
  a53 := Tryz.isAgg29
  z53 := Tryz.sizeOf29
  v53 := Tryz.zeroValue29
  t171 := Tryz.underlying196
  a171 := Tryz.isAgg196
  z171 := Tryz.sizeOf196
  v171 := Tryz.zeroValue196
  t173 := Tryz.underlying199
  a173 := Tryz.isAgg199
  z173 := Tryz.sizeOf199
  v173 := Tryz.zeroValue199
  t212 := Tryz.underlying204
  a212 := Tryz.isAgg204
  z212 := Tryz.sizeOf204
  v212 := Tryz.zeroValue204
  t213 := Tryz.underlying206
  a213 := Tryz.isAgg206
  z213 := Tryz.sizeOf206
  t232 := Tryz.underlying209
  a232 := Tryz.isAgg209
  z232 := Tryz.sizeOf209
  v232 := Tryz.zeroValue209
  t233 := Tryz.underlying210
  a233 := Tryz.isAgg210
  z233 := Tryz.sizeOf210
  v233 := Tryz.zeroValue210
  g17 := by kernel_rfl
  g18 := by kernel_rfl
  g19 := by kernel_rfl }
open Go.RowKit Go.Sort Go.Lib in
/-- THE ROAD WITHOUT THE TABLE: 0 <= i < 100. (LAID: no walk: one application.) -/
theorem Tryz.internal_strconv_Itoa_small (i : Nat) (hi : i < 100) (w : World) :
    Calls Tryz.prog 113 #[.int .i64 i] w fun e w' => e = .returned (.string ⟨(Lib.decDigits i).toArray⟩) ∧ w' = w := Any.internal_strconv_Itoa_small Tryz.lays243 i hi w
def Tryz.laysM171_ren : Go.Shelf.Ren := ⟨fun | 171 => 105 | 243 => 113 | 246 => 121 | 283 => 126 | 284 => 127 | 285 => 128 | 286 => 129 | 129 => 134 | 317 => 133 | 318 => 135 | 319 => 136 | 320 => 137 | 337 => 138 | 338 => 139 | n => n, fun | 3 => 3 | 9 => 9 | 2 => 2 | 4 => 4 | 171 => 196 | 0 => 0 | 53 => 29 | 37 => 36 | 5 => 5 | 173 => 199 | 212 => 204 | 51 => 205 | 20 => 20 | 213 => 206 | 46 => 97 | 232 => 209 | 233 => 210 | n => n, fun | 17 => 6 | 18 => 7 | 19 => 8 | n => n⟩
theorem Tryz.laysM171 : Go.Proofs.LaysM.n171 Tryz.prog Tryz.laysM171_ren := {
  mixed := by kernel_rfl
  f129 := Tryz.func134.trans (congrArg some (by kernel_rfl))
  f171 := Tryz.func105.trans (congrArg some (by kernel_rfl))
  f243 := Tryz.func113.trans (congrArg some (by kernel_rfl))
  f246 := Tryz.func121.trans (congrArg some (by kernel_rfl))
  f283 := Tryz.func126.trans (congrArg some (by kernel_rfl))
  f284 := Tryz.func127.trans (congrArg some (by kernel_rfl))
  f285 := Tryz.func128.trans (congrArg some (by kernel_rfl))
  f286 := Tryz.func129.trans (congrArg some (by kernel_rfl))
  f317 := Tryz.func133.trans (congrArg some (by kernel_rfl))
  f318 := Tryz.func135.trans (congrArg some (by kernel_rfl))
  f319 := Tryz.func136.trans (congrArg some (by kernel_rfl))
  f320 := Tryz.func137.trans (congrArg some (by kernel_rfl))
  f337 := Tryz.func138.trans (congrArg some (by kernel_rfl))
  f338 := Tryz.func139.trans (congrArg some (by kernel_rfl))
  t0 := Tryz.underlying0
  a0 := Tryz.isAgg0
  z0 := Tryz.sizeOf0
  v0 := Tryz.zeroValue0
  t2 := Tryz.underlying2
  a2 := Tryz.isAgg2
  z2 := Tryz.sizeOf2
  v2 := Tryz.zeroValue2
  t3 := Tryz.underlying3
  a3 := Tryz.isAgg3
  z3 := Tryz.sizeOf3
  v3 := Tryz.zeroValue3
  t4 := Tryz.underlying4
  a4 := Tryz.isAgg4
  z4 := Tryz.sizeOf4
  v4 := Tryz.zeroValue4
  t5 := Tryz.underlying5
  a5 := Tryz.isAgg5
  z5 := Tryz.sizeOf5
  v5 := Tryz.zeroValue5
  t9 := Tryz.underlying9
  a9 := Tryz.isAgg9
  z9 := Tryz.sizeOf9
  v9 := Tryz.zeroValue9
  t20 := Tryz.underlying20
  a20 := Tryz.isAgg20
  z20 := Tryz.sizeOf20
  v20 := Tryz.zeroValue20
  t37 := Tryz.underlying36
  a37 := Tryz.isAgg36
  z37 := Tryz.sizeOf36
  v37 := Tryz.zeroValue36
  t46 := Tryz.underlying97
  a46 := Tryz.isAgg97
  z46 := Tryz.sizeOf97
  v46 := Tryz.zeroValue97
  t51 := Tryz.underlying205
  a51 := Tryz.isAgg205
  z51 := Tryz.sizeOf205
  v51 := Tryz.zeroValue205
  t53 := Tryz.underlying29
  a53 := Tryz.isAgg29
  z53 := Tryz.sizeOf29
  v53 := Tryz.zeroValue29
  t171 := Tryz.underlying196
  a171 := Tryz.isAgg196
  z171 := Tryz.sizeOf196
  v171 := Tryz.zeroValue196
  t173 := Tryz.underlying199
  a173 := Tryz.isAgg199
  z173 := Tryz.sizeOf199
  v173 := Tryz.zeroValue199
  t212 := Tryz.underlying204
  a212 := Tryz.isAgg204
  z212 := Tryz.sizeOf204
  v212 := Tryz.zeroValue204
  t213 := Tryz.underlying206
  a213 := Tryz.isAgg206
  z213 := Tryz.sizeOf206
  t232 := Tryz.underlying209
  a232 := Tryz.isAgg209
  z232 := Tryz.sizeOf209
  v232 := Tryz.zeroValue209
  t233 := Tryz.underlying210
  a233 := Tryz.isAgg210
  z233 := Tryz.sizeOf210
  v233 := Tryz.zeroValue210
  g17 := by kernel_rfl
  g18 := by kernel_rfl
  g19 := by kernel_rfl
  i0 := by kernel_rfl
  i2 := by kernel_rfl
  i3 := by kernel_rfl
  i4 := by kernel_rfl
  i5 := by kernel_rfl
  i9 := by kernel_rfl
  i20 := by kernel_rfl
  i37 := by kernel_rfl
  i46 := by kernel_rfl
  i51 := by kernel_rfl
  i53 := by kernel_rfl
  i171 := by kernel_rfl
  i173 := by kernel_rfl
  i212 := by kernel_rfl
  i232 := by kernel_rfl
  i233 := by kernel_rfl
  m17 := by kernel_rfl
  m18 := by kernel_rfl
  m19 := by kernel_rfl }
open Go.RowKit Go.Sort Go.Lib in
/-- strconv.Itoa: "Itoa is equivalent to FormatInt(int64(i), 10).": i's DECIMAL NUMERAL ('Lib.itoa': a '-' where i is negative, then the digits), FOR EVERY int. The world behind the call: the world before it, new blocks behind the heap (the library's 'var a [24]byte'), draws. (LAID: no walk: one application.) -/
theorem Tryz.strconv_Itoa (n : Int) (h0 : -9223372036854775808 ≤ n) (h1 : n ≤ 9223372036854775807) (w : World) (htab : Lib.TabIs Tryz.prog w "internal/strconv.uint64pow10" .u64 Lib.pow10Tab) :
    Calls Tryz.prog 105 #[.int .i64 n] w fun e w' => e = .returned (.string ⟨(Lib.itoa n).toArray⟩) ∧ ∃ k os, w' = grow (w.drewN k) os := Any.strconv_Itoa Tryz.laysM171 n h0 h1 w htab
def Tryz.lays171_ren : Go.Shelf.Ren := ⟨fun | 171 => 105 | 243 => 113 | 246 => 121 | 283 => 126 | 284 => 127 | 285 => 128 | 286 => 129 | 129 => 134 | 317 => 133 | 318 => 135 | 319 => 136 | 320 => 137 | 337 => 138 | 338 => 139 | n => n, fun | 3 => 3 | 9 => 9 | 2 => 2 | 4 => 4 | 171 => 196 | 0 => 0 | 53 => 29 | 37 => 36 | 5 => 5 | 173 => 199 | 212 => 204 | 51 => 205 | 20 => 20 | 213 => 206 | 46 => 97 | 232 => 209 | 233 => 210 | n => n, fun | 17 => 6 | 18 => 7 | 19 => 8 | n => n⟩
theorem Tryz.lays171 : Go.Proofs.Lays.n171 Tryz.prog Tryz.lays171_ren := {
  mixed := by kernel_rfl
  f129 := Tryz.func134.trans (congrArg some (by kernel_rfl))
  f171 := Tryz.func105.trans (congrArg some (by kernel_rfl))
  f243 := Tryz.func113.trans (congrArg some (by kernel_rfl))
  f246 := Tryz.func121.trans (congrArg some (by kernel_rfl))
  f283 := Tryz.func126.trans (congrArg some (by kernel_rfl))
  f284 := Tryz.func127.trans (congrArg some (by kernel_rfl))
  f285 := Tryz.func128.trans (congrArg some (by kernel_rfl))
  f286 := Tryz.func129.trans (congrArg some (by kernel_rfl))
  f317 := Tryz.func133.trans (congrArg some (by kernel_rfl))
  f318 := Tryz.func135.trans (congrArg some (by kernel_rfl))
  f319 := Tryz.func136.trans (congrArg some (by kernel_rfl))
  f320 := Tryz.func137.trans (congrArg some (by kernel_rfl))
  f337 := Tryz.func138.trans (congrArg some (by kernel_rfl))
  f338 := Tryz.func139.trans (congrArg some (by kernel_rfl))
  t0 := Tryz.underlying0
  a0 := Tryz.isAgg0
  z0 := Tryz.sizeOf0
  v0 := Tryz.zeroValue0
  t2 := Tryz.underlying2
  a2 := Tryz.isAgg2
  z2 := Tryz.sizeOf2
  v2 := Tryz.zeroValue2
  t3 := Tryz.underlying3
  a3 := Tryz.isAgg3
  z3 := Tryz.sizeOf3
  v3 := Tryz.zeroValue3
  t4 := Tryz.underlying4
  a4 := Tryz.isAgg4
  z4 := Tryz.sizeOf4
  v4 := Tryz.zeroValue4
  t5 := Tryz.underlying5
  a5 := Tryz.isAgg5
  z5 := Tryz.sizeOf5
  v5 := Tryz.zeroValue5
  t9 := Tryz.underlying9
  a9 := Tryz.isAgg9
  z9 := Tryz.sizeOf9
  v9 := Tryz.zeroValue9
  t20 := Tryz.underlying20
  a20 := Tryz.isAgg20
  z20 := Tryz.sizeOf20
  v20 := Tryz.zeroValue20
  t37 := Tryz.underlying36
  a37 := Tryz.isAgg36
  z37 := Tryz.sizeOf36
  v37 := Tryz.zeroValue36
  t46 := Tryz.underlying97
  a46 := Tryz.isAgg97
  z46 := Tryz.sizeOf97
  v46 := Tryz.zeroValue97
  t51 := Tryz.underlying205
  a51 := Tryz.isAgg205
  z51 := Tryz.sizeOf205
  v51 := Tryz.zeroValue205
  t53 := Tryz.underlying29
  a53 := Tryz.isAgg29
  z53 := Tryz.sizeOf29
  v53 := Tryz.zeroValue29
  t171 := Tryz.underlying196
  a171 := Tryz.isAgg196
  z171 := Tryz.sizeOf196
  v171 := Tryz.zeroValue196
  t173 := Tryz.underlying199
  a173 := Tryz.isAgg199
  z173 := Tryz.sizeOf199
  v173 := Tryz.zeroValue199
  t212 := Tryz.underlying204
  a212 := Tryz.isAgg204
  z212 := Tryz.sizeOf204
  v212 := Tryz.zeroValue204
  t213 := Tryz.underlying206
  a213 := Tryz.isAgg206
  z213 := Tryz.sizeOf206
  t232 := Tryz.underlying209
  a232 := Tryz.isAgg209
  z232 := Tryz.sizeOf209
  v232 := Tryz.zeroValue209
  t233 := Tryz.underlying210
  a233 := Tryz.isAgg210
  z233 := Tryz.sizeOf210
  v233 := Tryz.zeroValue210
  g17 := by kernel_rfl
  g18 := by kernel_rfl
  g19 := by kernel_rfl }
open Go.RowKit Go.Sort Go.Lib in
/-- THE ROAD WITHOUT THE TABLE: 0 <= i < 100: NO PREMISE ON THE WORLD, AND THE WORLD IS AS IT WAS: a row that keeps its argument in that range need list no table ('laid = []'). (LAID: no walk: one application.) -/
theorem Tryz.strconv_Itoa_small (i : Nat) (hi : i < 100) (w : World) :
    Calls Tryz.prog 105 #[.int .i64 i] w fun e w' => e = .returned (.string ⟨(Lib.decDigits i).toArray⟩) ∧ w' = w := Any.strconv_Itoa_small Tryz.lays171 i hi w
open Go.RowKit in
/-- internal/strconv.Atoi, at a string of 1 to 18 bytes THAT IS NO DECIMAL NUMERAL: 0, AND ErrSyntax (the package's own error number 2). The world behind the call: as it was, or with the one new row that '[]byte(s)' lays. (LAID: no walk: one application.) -/
theorem Tryz.internal_strconv_Atoi_err (s : ByteArray) (hl0 : 1 ≤ s.size) (hl : s.size ≤ 18) (h : Lib.atoi s.data.toList = none) (w : World) :
    Calls Tryz.prog 107 #[.string s] w fun e w' => e = .returned (.tuple #[.int .i64 0, (.iface 185 (.int .i64 2))]) ∧ (w' = w ∨ ∃ t, w' = Lib.bytesWorld w 5 t) := Any.internal_strconv_Atoi_err Tryz.lays244 s hl0 hl h w
def Tryz.lays247_ren : Go.Shelf.Ren := ⟨fun | 247 => 114 | 287 => 122 | 321 => 130 | 322 => 131 | n => n, fun | 9 => 9 | 3 => 3 | 2 => 2 | 75 => 63 | 4 => 4 | 167 => 185 | 5 => 5 | 53 => 29 | 175 => 101 | 46 => 97 | 37 => 36 | 0 => 0 | 21 => 21 | 80 => 211 | n => n, fun | n => n⟩
theorem Tryz.lays247 : Go.Proofs.Lays.n247 Tryz.prog Tryz.lays247_ren := {
  mixed := by kernel_rfl
  f247 := Tryz.func114.trans (congrArg some (by kernel_rfl))
  f287 := Tryz.func122.trans (congrArg some (by kernel_rfl))
  f321 := Tryz.func130.trans (congrArg some (by kernel_rfl))
  f322 := Tryz.func131.trans (congrArg some (by kernel_rfl))
  t0 := Tryz.underlying0
  a0 := Tryz.isAgg0
  z0 := Tryz.sizeOf0
  v0 := Tryz.zeroValue0
  t2 := Tryz.underlying2
  a2 := Tryz.isAgg2
  z2 := Tryz.sizeOf2
  v2 := Tryz.zeroValue2
  t3 := Tryz.underlying3
  a3 := Tryz.isAgg3
  z3 := Tryz.sizeOf3
  v3 := Tryz.zeroValue3
  t4 := Tryz.underlying4
  a4 := Tryz.isAgg4
  z4 := Tryz.sizeOf4
  v4 := Tryz.zeroValue4
  t5 := Tryz.underlying5
  a5 := Tryz.isAgg5
  z5 := Tryz.sizeOf5
  v5 := Tryz.zeroValue5
  t9 := Tryz.underlying9
  a9 := Tryz.isAgg9
  z9 := Tryz.sizeOf9
  v9 := Tryz.zeroValue9
  t21 := Tryz.underlying21
  a21 := Tryz.isAgg21
  z21 := Tryz.sizeOf21
  v21 := Tryz.zeroValue21
  t37 := Tryz.underlying36
  a37 := Tryz.isAgg36
  z37 := Tryz.sizeOf36
  v37 := Tryz.zeroValue36
  t46 := Tryz.underlying97
  a46 := Tryz.isAgg97
  z46 := Tryz.sizeOf97
  v46 := Tryz.zeroValue97
  t53 := Tryz.underlying29
  a53 := Tryz.isAgg29
  z53 := Tryz.sizeOf29
  v53 := Tryz.zeroValue29
  t75 := Tryz.underlying63
  a75 := Tryz.isAgg63
  z75 := Tryz.sizeOf63
  v75 := Tryz.zeroValue63
  t167 := Tryz.underlying185
  a167 := Tryz.isAgg185
  z167 := Tryz.sizeOf185
  v167 := Tryz.zeroValue185
  t175 := Tryz.underlying101
  a175 := Tryz.isAgg101
  z175 := Tryz.sizeOf101
  v175 := Tryz.zeroValue101 }
open Go.RowKit in
/-- internal/strconv.ParseInt at "": 'if s == "" { return 0, ErrSyntax }'. The world is as it was. (LAID: no walk: one application.) -/
theorem Tryz.internal_strconv_ParseInt_empty (base bits : Int) (w : World) :
    Calls Tryz.prog 114 #[.string ⟨#[]⟩, .int .i64 base, .int .i64 bits] w fun e w' => e = .returned (.tuple #[.int .i64 0, (.iface 185 (.int .i64 2))]) ∧ w' = w := Any.internal_strconv_ParseInt_empty Tryz.lays247 base bits w
open Go.RowKit in
/-- internal/strconv.Atoi at "". (LAID: no walk: one application.) -/
theorem Tryz.internal_strconv_Atoi_empty (w : World) :
    Calls Tryz.prog 107 #[.string ⟨#[]⟩] w fun e w' => e = .returned (.tuple #[.int .i64 0, (.iface 185 (.int .i64 2))]) ∧ w' = w := Any.internal_strconv_Atoi_empty Tryz.lays244 w
open Go.RowKit in
/-- internal/strconv.Atoi, AT EVERY STRING OF AT MOST 18 BYTES THAT IS NO DECIMAL NUMERAL: 0, and ErrSyntax. (LAID: no walk: one application.) -/
theorem Tryz.internal_strconv_Atoi_fail (s : ByteArray) (hl : s.size ≤ 18) (h : Lib.atoi s.data.toList = none) (w : World) :
    Calls Tryz.prog 107 #[.string s] w fun e w' => e = .returned (.tuple #[.int .i64 0, (.iface 185 (.int .i64 2))]) ∧ (w' = w ∨ ∃ t, w' = Lib.bytesWorld w 5 t) := Any.internal_strconv_Atoi_fail Tryz.lays244 s hl h w
def Tryz.laysM316_ren : Go.Shelf.Ren := ⟨fun | 316 => 123 | n => n, fun | 9 => 9 | 3 => 3 | 4 => 4 | 37 => 36 | 0 => 0 | 127 => 202 | 5 => 5 | n => n, fun | n => n⟩
theorem Tryz.laysM316 : Go.Proofs.LaysM.n316 Tryz.prog Tryz.laysM316_ren := {
  mixed := by kernel_rfl
  f316 := Tryz.func123.trans (congrArg some (by kernel_rfl))
  t0 := Tryz.underlying0
  a0 := Tryz.isAgg0
  z0 := Tryz.sizeOf0
  v0 := Tryz.zeroValue0
  t3 := Tryz.underlying3
  a3 := Tryz.isAgg3
  z3 := Tryz.sizeOf3
  v3 := Tryz.zeroValue3
  t4 := Tryz.underlying4
  a4 := Tryz.isAgg4
  z4 := Tryz.sizeOf4
  v4 := Tryz.zeroValue4
  t9 := Tryz.underlying9
  a9 := Tryz.isAgg9
  z9 := Tryz.sizeOf9
  v9 := Tryz.zeroValue9
  t37 := Tryz.underlying36
  a37 := Tryz.isAgg36
  z37 := Tryz.sizeOf36
  v37 := Tryz.zeroValue36
  t127 := Tryz.underlying202
  a127 := Tryz.isAgg202
  z127 := Tryz.sizeOf202
  v127 := Tryz.zeroValue202
  t5 := Tryz.underlying5
  a5 := Tryz.isAgg5
  z5 := Tryz.sizeOf5
  v5 := Tryz.zeroValue5
  i0 := by kernel_rfl
  i3 := by kernel_rfl
  i4 := by kernel_rfl
  i5 := by kernel_rfl
  i9 := by kernel_rfl
  i37 := by kernel_rfl
  i127 := by kernel_rfl }
open Go.RowKit in
/-- internal/stringslite.Clone (what strings.Clone calls): "Clone returns a fresh copy of s.": THE SAME BYTES. Of what was there nothing has turned (a new row is laid, and frozen, where s is not empty). (LAID: no walk: one application.) -/
theorem Tryz.stringslite_Clone (s : ByteArray) (w : World) (hlim : s.size ≤ 281474976710656) :
    Calls Tryz.prog 123 #[.string s] w fun e w' => e = .returned (.string s) ∧ Below w.heap.size w w' := Any.stringslite_Clone Tryz.laysM316 s w hlim
def Tryz.laysM279_ren : Go.Shelf.Ren := ⟨fun | 279 => 115 | 316 => 123 | n => n, fun | 9 => 9 | 168 => 188 | 75 => 63 | 210 => 195 | 3 => 3 | 4 => 4 | 37 => 36 | 0 => 0 | 127 => 202 | 80 => 211 | 5 => 5 | n => n, fun | 15 => 4 | n => n⟩
theorem Tryz.laysM279 : Go.Proofs.LaysM.n279 Tryz.prog Tryz.laysM279_ren := {
  mixed := by kernel_rfl
  f279 := Tryz.func115.trans (congrArg some (by kernel_rfl))
  f316 := Tryz.func123.trans (congrArg some (by kernel_rfl))
  t0 := Tryz.underlying0
  a0 := Tryz.isAgg0
  z0 := Tryz.sizeOf0
  v0 := Tryz.zeroValue0
  t3 := Tryz.underlying3
  a3 := Tryz.isAgg3
  z3 := Tryz.sizeOf3
  v3 := Tryz.zeroValue3
  t4 := Tryz.underlying4
  a4 := Tryz.isAgg4
  z4 := Tryz.sizeOf4
  v4 := Tryz.zeroValue4
  t9 := Tryz.underlying9
  a9 := Tryz.isAgg9
  z9 := Tryz.sizeOf9
  v9 := Tryz.zeroValue9
  t37 := Tryz.underlying36
  a37 := Tryz.isAgg36
  z37 := Tryz.sizeOf36
  v37 := Tryz.zeroValue36
  t75 := Tryz.underlying63
  a75 := Tryz.isAgg63
  z75 := Tryz.sizeOf63
  v75 := Tryz.zeroValue63
  t127 := Tryz.underlying202
  a127 := Tryz.isAgg202
  z127 := Tryz.sizeOf202
  v127 := Tryz.zeroValue202
  t168 := Tryz.underlying188
  a168 := Tryz.isAgg188
  z168 := Tryz.sizeOf188
  v168 := Tryz.zeroValue188
  t210 := Tryz.underlying195
  a210 := Tryz.isAgg195
  z210 := Tryz.sizeOf195
  v210 := Tryz.zeroValue195
  g15 := by kernel_rfl
  t5 := Tryz.underlying5
  a5 := Tryz.isAgg5
  z5 := Tryz.sizeOf5
  v5 := Tryz.zeroValue5
  t80 := Tryz.underlying211
  a80 := Tryz.isAgg211
  z80 := Tryz.sizeOf211
  v80 := Tryz.zeroValue211
  i0 := by kernel_rfl
  i3 := by kernel_rfl
  i4 := by kernel_rfl
  i5 := by kernel_rfl
  i9 := by kernel_rfl
  i37 := by kernel_rfl
  i75 := by kernel_rfl
  i80 := by kernel_rfl
  i127 := by kernel_rfl
  i168 := by kernel_rfl
  i210 := by kernel_rfl
  m15 := by kernel_rfl }
open Go.RowKit in
/-- strconv.syntaxError: '&NumError{fn, stringslite.Clone(str), ErrSyntax}': A POINTER TO A NEW BLOCK that holds fn, str's bytes, and what the variable ErrSyntax holds. Of what was there nothing has turned. (LAID: no walk: one application.) -/
theorem Tryz.strconv_syntaxError (fn s : ByteArray) (ev : Value) (w : World) (hlim : s.size ≤ 281474976710656) (hv : w.cell? ⟨4, 0, none⟩ = some ev) (hev : ev = .nilIface ∨ ∃ te pe, ev = .iface te pe) :
    Calls Tryz.prog 115 #[.string fn, .string s] w fun e w' => ∃ N, e = .returned (.pointer (some ⟨N, 0, none⟩)) ∧ w.heap.size ≤ N ∧ w'.heap[N]? = some (.cells #[.string fn, .string s, ev] 195 (0, 0)) ∧ Below w.heap.size w w' := Any.strconv_syntaxError Tryz.laysM279 fn s ev w hlim hv hev
def Tryz.laysC245_ren : Go.Shelf.Ren := ⟨fun | 245 => 108 | 279 => 115 | 280 => 116 | 281 => 117 | 282 => 118 | 316 => 123 | 171 => 105 | 205 => 39 | 243 => 113 | 246 => 121 | 283 => 126 | 284 => 127 | 285 => 128 | 286 => 129 | 129 => 134 | 317 => 133 | 318 => 135 | 319 => 136 | 320 => 137 | 337 => 138 | 338 => 139 | n => n, fun | 9 => 9 | 3 => 3 | 75 => 63 | 167 => 185 | 4 => 4 | 168 => 188 | 210 => 195 | 37 => 36 | 0 => 0 | 127 => 202 | 145 => 114 | 143 => 112 | 2 => 2 | 171 => 196 | 53 => 29 | 5 => 5 | 173 => 199 | 212 => 204 | 51 => 205 | 20 => 20 | 213 => 206 | 46 => 97 | 232 => 209 | 233 => 210 | 80 => 211 | n => n, fun | 15 => 4 | 16 => 5 | 17 => 6 | 18 => 7 | 19 => 8 | n => n⟩
theorem Tryz.laysC245 : Go.Proofs.LaysC.n245 Tryz.prog Tryz.laysC245_ren := {
  mixed := by kernel_rfl
  f129 := Tryz.func134.trans (congrArg some (by kernel_rfl))
  f171 := Tryz.func105.trans (congrArg some (by kernel_rfl))
  f205 := Tryz.func39.trans (congrArg some (by kernel_rfl))
  f243 := Tryz.func113.trans (congrArg some (by kernel_rfl))
  f245 := Tryz.func108.trans (congrArg some (by kernel_rfl))
  f246 := Tryz.func121.trans (congrArg some (by kernel_rfl))
  f279 := Tryz.func115.trans (congrArg some (by kernel_rfl))
  f280 := Tryz.func116.trans (congrArg some (by kernel_rfl))
  f281 := Tryz.func117.trans (congrArg some (by kernel_rfl))
  f282 := Tryz.func118.trans (congrArg some (by kernel_rfl))
  f283 := Tryz.func126.trans (congrArg some (by kernel_rfl))
  f284 := Tryz.func127.trans (congrArg some (by kernel_rfl))
  f285 := Tryz.func128.trans (congrArg some (by kernel_rfl))
  f286 := Tryz.func129.trans (congrArg some (by kernel_rfl))
  f316 := Tryz.func123.trans (congrArg some (by kernel_rfl))
  f317 := Tryz.func133.trans (congrArg some (by kernel_rfl))
  f318 := Tryz.func135.trans (congrArg some (by kernel_rfl))
  f319 := Tryz.func136.trans (congrArg some (by kernel_rfl))
  f320 := Tryz.func137.trans (congrArg some (by kernel_rfl))
  f337 := Tryz.func138.trans (congrArg some (by kernel_rfl))
  f338 := Tryz.func139.trans (congrArg some (by kernel_rfl))
  t0 := Tryz.underlying0
  a0 := Tryz.isAgg0
  z0 := Tryz.sizeOf0
  v0 := Tryz.zeroValue0
  t2 := Tryz.underlying2
  a2 := Tryz.isAgg2
  z2 := Tryz.sizeOf2
  v2 := Tryz.zeroValue2
  t3 := Tryz.underlying3
  a3 := Tryz.isAgg3
  z3 := Tryz.sizeOf3
  v3 := Tryz.zeroValue3
  t4 := Tryz.underlying4
  a4 := Tryz.isAgg4
  z4 := Tryz.sizeOf4
  v4 := Tryz.zeroValue4
  t5 := Tryz.underlying5
  a5 := Tryz.isAgg5
  z5 := Tryz.sizeOf5
  v5 := Tryz.zeroValue5
  t9 := Tryz.underlying9
  a9 := Tryz.isAgg9
  z9 := Tryz.sizeOf9
  v9 := Tryz.zeroValue9
  t20 := Tryz.underlying20
  a20 := Tryz.isAgg20
  z20 := Tryz.sizeOf20
  v20 := Tryz.zeroValue20
  t37 := Tryz.underlying36
  a37 := Tryz.isAgg36
  z37 := Tryz.sizeOf36
  v37 := Tryz.zeroValue36
  t46 := Tryz.underlying97
  a46 := Tryz.isAgg97
  z46 := Tryz.sizeOf97
  v46 := Tryz.zeroValue97
  t51 := Tryz.underlying205
  a51 := Tryz.isAgg205
  z51 := Tryz.sizeOf205
  v51 := Tryz.zeroValue205
  t53 := Tryz.underlying29
  a53 := Tryz.isAgg29
  z53 := Tryz.sizeOf29
  v53 := Tryz.zeroValue29
  t75 := Tryz.underlying63
  a75 := Tryz.isAgg63
  z75 := Tryz.sizeOf63
  v75 := Tryz.zeroValue63
  t127 := Tryz.underlying202
  a127 := Tryz.isAgg202
  z127 := Tryz.sizeOf202
  v127 := Tryz.zeroValue202
  t143 := Tryz.underlying112
  a143 := Tryz.isAgg112
  z143 := Tryz.sizeOf112
  v143 := Tryz.zeroValue112
  t145 := Tryz.underlying114
  a145 := Tryz.isAgg114
  z145 := Tryz.sizeOf114
  v145 := Tryz.zeroValue114
  t167 := Tryz.underlying185
  a167 := Tryz.isAgg185
  z167 := Tryz.sizeOf185
  v167 := Tryz.zeroValue185
  t168 := Tryz.underlying188
  a168 := Tryz.isAgg188
  z168 := Tryz.sizeOf188
  v168 := Tryz.zeroValue188
  t171 := Tryz.underlying196
  a171 := Tryz.isAgg196
  z171 := Tryz.sizeOf196
  v171 := Tryz.zeroValue196
  t173 := Tryz.underlying199
  a173 := Tryz.isAgg199
  z173 := Tryz.sizeOf199
  v173 := Tryz.zeroValue199
  t210 := Tryz.underlying195
  a210 := Tryz.isAgg195
  z210 := Tryz.sizeOf195
  v210 := Tryz.zeroValue195
  t212 := Tryz.underlying204
  a212 := Tryz.isAgg204
  z212 := Tryz.sizeOf204
  v212 := Tryz.zeroValue204
  t213 := Tryz.underlying206
  a213 := Tryz.isAgg206
  z213 := Tryz.sizeOf206
  t232 := Tryz.underlying209
  a232 := Tryz.isAgg209
  z232 := Tryz.sizeOf209
  v232 := Tryz.zeroValue209
  t233 := Tryz.underlying210
  a233 := Tryz.isAgg210
  z233 := Tryz.sizeOf210
  v233 := Tryz.zeroValue210
  g15 := by kernel_rfl
  g16 := by kernel_rfl
  g17 := by kernel_rfl
  g18 := by kernel_rfl
  g19 := by kernel_rfl
  t80 := Tryz.underlying211
  a80 := Tryz.isAgg211
  z80 := Tryz.sizeOf211
  v80 := Tryz.zeroValue211
  i0 := by kernel_rfl
  i2 := by kernel_rfl
  i3 := by kernel_rfl
  i4 := by kernel_rfl
  i5 := by kernel_rfl
  i9 := by kernel_rfl
  i20 := by kernel_rfl
  i37 := by kernel_rfl
  i46 := by kernel_rfl
  i51 := by kernel_rfl
  i53 := by kernel_rfl
  i75 := by kernel_rfl
  i80 := by kernel_rfl
  i127 := by kernel_rfl
  i143 := by kernel_rfl
  i145 := by kernel_rfl
  i167 := by kernel_rfl
  i168 := by kernel_rfl
  i171 := by kernel_rfl
  i173 := by kernel_rfl
  i210 := by kernel_rfl
  i212 := by kernel_rfl
  i232 := by kernel_rfl
  i233 := by kernel_rfl
  m15 := by kernel_rfl
  m16 := by kernel_rfl
  m17 := by kernel_rfl
  m18 := by kernel_rfl
  m19 := by kernel_rfl
  c0 := by kernel_rfl
  c2 := by kernel_rfl
  c3 := by kernel_rfl
  c4 := by kernel_rfl
  c5 := by kernel_rfl
  c9 := by kernel_rfl
  c20 := by kernel_rfl
  c37 := by kernel_rfl
  c46 := by kernel_rfl
  c51 := by kernel_rfl
  c53 := by kernel_rfl
  c75 := by kernel_rfl
  c80 := by kernel_rfl
  c127 := by kernel_rfl
  c143 := by kernel_rfl
  c145 := by kernel_rfl
  c167 := by kernel_rfl
  c168 := by kernel_rfl
  c171 := by kernel_rfl
  c173 := by kernel_rfl
  c210 := by kernel_rfl
  c212 := by kernel_rfl
  c213 := by kernel_rfl
  c232 := by kernel_rfl
  c233 := by kernel_rfl }
open Go.RowKit in
/-- strconv.toError, at the inner package's ErrSyntax: 'syntaxError(fn, s)' as an error: A *NumError IN A NEW BLOCK. (LAID: no walk: one application.) -/
theorem Tryz.strconv_toError_syntax (fn s : ByteArray) (base bits : Int) (ev : Value) (w : World) (hlim : s.size ≤ 281474976710656) (hv : w.cell? ⟨4, 0, none⟩ = some ev) (hev : ev = .nilIface ∨ ∃ te pe, ev = .iface te pe) :
    Calls Tryz.prog 108 #[.string fn, .string s, .int .i64 base, .int .i64 bits, .iface 185 (.int .i64 2)] w fun e w' => ∃ N, e = .returned (.iface 188 (.pointer (some ⟨N, 0, none⟩))) ∧ w.heap.size ≤ N ∧ w'.heap[N]? = some (.cells #[.string fn, .string s, ev] 195 (0, 0)) ∧ Below w.heap.size w w' := Any.strconv_toError_syntax Tryz.laysC245 fn s base bits ev w hlim hv hev
def Tryz.laysC172_ren : Go.Shelf.Ren := ⟨fun | 172 => 100 | 244 => 107 | 245 => 108 | 247 => 114 | 279 => 115 | 280 => 116 | 281 => 117 | 282 => 118 | 287 => 122 | 316 => 123 | 171 => 105 | 205 => 39 | 321 => 130 | 322 => 131 | 243 => 113 | 246 => 121 | 283 => 126 | 284 => 127 | 285 => 128 | 286 => 129 | 129 => 134 | 317 => 133 | 318 => 135 | 319 => 136 | 320 => 137 | 337 => 138 | 338 => 139 | n => n, fun | 9 => 9 | 3 => 3 | 75 => 63 | 76 => 173 | 4 => 4 | 5 => 5 | 167 => 185 | 37 => 36 | 0 => 0 | 85 => 186 | 2 => 2 | 168 => 188 | 53 => 29 | 175 => 101 | 46 => 97 | 210 => 195 | 127 => 202 | 145 => 114 | 143 => 112 | 21 => 21 | 171 => 196 | 173 => 199 | 212 => 204 | 51 => 205 | 20 => 20 | 213 => 206 | 232 => 209 | 233 => 210 | 80 => 211 | n => n, fun | 15 => 4 | 16 => 5 | 17 => 6 | 18 => 7 | 19 => 8 | n => n⟩
theorem Tryz.laysC172 : Go.Proofs.LaysC.n172 Tryz.prog Tryz.laysC172_ren := {
  mixed := by kernel_rfl
  f129 := Tryz.func134.trans (congrArg some (by kernel_rfl))
  f171 := Tryz.func105.trans (congrArg some (by kernel_rfl))
  f172 := Tryz.func100.trans (congrArg some (by kernel_rfl))
  f205 := Tryz.func39.trans (congrArg some (by kernel_rfl))
  f243 := Tryz.func113.trans (congrArg some (by kernel_rfl))
  f244 := Tryz.func107.trans (congrArg some (by kernel_rfl))
  f245 := Tryz.func108.trans (congrArg some (by kernel_rfl))
  f246 := Tryz.func121.trans (congrArg some (by kernel_rfl))
  f247 := Tryz.func114.trans (congrArg some (by kernel_rfl))
  f279 := Tryz.func115.trans (congrArg some (by kernel_rfl))
  f280 := Tryz.func116.trans (congrArg some (by kernel_rfl))
  f281 := Tryz.func117.trans (congrArg some (by kernel_rfl))
  f282 := Tryz.func118.trans (congrArg some (by kernel_rfl))
  f283 := Tryz.func126.trans (congrArg some (by kernel_rfl))
  f284 := Tryz.func127.trans (congrArg some (by kernel_rfl))
  f285 := Tryz.func128.trans (congrArg some (by kernel_rfl))
  f286 := Tryz.func129.trans (congrArg some (by kernel_rfl))
  f287 := Tryz.func122.trans (congrArg some (by kernel_rfl))
  f316 := Tryz.func123.trans (congrArg some (by kernel_rfl))
  f317 := Tryz.func133.trans (congrArg some (by kernel_rfl))
  f318 := Tryz.func135.trans (congrArg some (by kernel_rfl))
  f319 := Tryz.func136.trans (congrArg some (by kernel_rfl))
  f320 := Tryz.func137.trans (congrArg some (by kernel_rfl))
  f321 := Tryz.func130.trans (congrArg some (by kernel_rfl))
  f322 := Tryz.func131.trans (congrArg some (by kernel_rfl))
  f337 := Tryz.func138.trans (congrArg some (by kernel_rfl))
  f338 := Tryz.func139.trans (congrArg some (by kernel_rfl))
  t0 := Tryz.underlying0
  a0 := Tryz.isAgg0
  z0 := Tryz.sizeOf0
  v0 := Tryz.zeroValue0
  t2 := Tryz.underlying2
  a2 := Tryz.isAgg2
  z2 := Tryz.sizeOf2
  v2 := Tryz.zeroValue2
  t3 := Tryz.underlying3
  a3 := Tryz.isAgg3
  z3 := Tryz.sizeOf3
  v3 := Tryz.zeroValue3
  t4 := Tryz.underlying4
  a4 := Tryz.isAgg4
  z4 := Tryz.sizeOf4
  v4 := Tryz.zeroValue4
  t5 := Tryz.underlying5
  a5 := Tryz.isAgg5
  z5 := Tryz.sizeOf5
  v5 := Tryz.zeroValue5
  t9 := Tryz.underlying9
  a9 := Tryz.isAgg9
  z9 := Tryz.sizeOf9
  v9 := Tryz.zeroValue9
  t20 := Tryz.underlying20
  a20 := Tryz.isAgg20
  z20 := Tryz.sizeOf20
  v20 := Tryz.zeroValue20
  t21 := Tryz.underlying21
  a21 := Tryz.isAgg21
  z21 := Tryz.sizeOf21
  v21 := Tryz.zeroValue21
  t37 := Tryz.underlying36
  a37 := Tryz.isAgg36
  z37 := Tryz.sizeOf36
  v37 := Tryz.zeroValue36
  t46 := Tryz.underlying97
  a46 := Tryz.isAgg97
  z46 := Tryz.sizeOf97
  v46 := Tryz.zeroValue97
  t51 := Tryz.underlying205
  a51 := Tryz.isAgg205
  z51 := Tryz.sizeOf205
  v51 := Tryz.zeroValue205
  t53 := Tryz.underlying29
  a53 := Tryz.isAgg29
  z53 := Tryz.sizeOf29
  v53 := Tryz.zeroValue29
  t75 := Tryz.underlying63
  a75 := Tryz.isAgg63
  z75 := Tryz.sizeOf63
  v75 := Tryz.zeroValue63
  t76 := Tryz.underlying173
  a76 := Tryz.isAgg173
  z76 := Tryz.sizeOf173
  v76 := Tryz.zeroValue173
  t85 := Tryz.underlying186
  a85 := Tryz.isAgg186
  z85 := Tryz.sizeOf186
  v85 := Tryz.zeroValue186
  t127 := Tryz.underlying202
  a127 := Tryz.isAgg202
  z127 := Tryz.sizeOf202
  v127 := Tryz.zeroValue202
  t143 := Tryz.underlying112
  a143 := Tryz.isAgg112
  z143 := Tryz.sizeOf112
  v143 := Tryz.zeroValue112
  t145 := Tryz.underlying114
  a145 := Tryz.isAgg114
  z145 := Tryz.sizeOf114
  v145 := Tryz.zeroValue114
  t167 := Tryz.underlying185
  a167 := Tryz.isAgg185
  z167 := Tryz.sizeOf185
  v167 := Tryz.zeroValue185
  t168 := Tryz.underlying188
  a168 := Tryz.isAgg188
  z168 := Tryz.sizeOf188
  v168 := Tryz.zeroValue188
  t171 := Tryz.underlying196
  a171 := Tryz.isAgg196
  z171 := Tryz.sizeOf196
  v171 := Tryz.zeroValue196
  t173 := Tryz.underlying199
  a173 := Tryz.isAgg199
  z173 := Tryz.sizeOf199
  v173 := Tryz.zeroValue199
  t175 := Tryz.underlying101
  a175 := Tryz.isAgg101
  z175 := Tryz.sizeOf101
  v175 := Tryz.zeroValue101
  t210 := Tryz.underlying195
  a210 := Tryz.isAgg195
  z210 := Tryz.sizeOf195
  v210 := Tryz.zeroValue195
  t212 := Tryz.underlying204
  a212 := Tryz.isAgg204
  z212 := Tryz.sizeOf204
  v212 := Tryz.zeroValue204
  t213 := Tryz.underlying206
  a213 := Tryz.isAgg206
  z213 := Tryz.sizeOf206
  t232 := Tryz.underlying209
  a232 := Tryz.isAgg209
  z232 := Tryz.sizeOf209
  v232 := Tryz.zeroValue209
  t233 := Tryz.underlying210
  a233 := Tryz.isAgg210
  z233 := Tryz.sizeOf210
  v233 := Tryz.zeroValue210
  g15 := by kernel_rfl
  g16 := by kernel_rfl
  g17 := by kernel_rfl
  g18 := by kernel_rfl
  g19 := by kernel_rfl
  t80 := Tryz.underlying211
  a80 := Tryz.isAgg211
  z80 := Tryz.sizeOf211
  v80 := Tryz.zeroValue211
  i0 := by kernel_rfl
  i2 := by kernel_rfl
  i3 := by kernel_rfl
  i4 := by kernel_rfl
  i5 := by kernel_rfl
  i9 := by kernel_rfl
  i20 := by kernel_rfl
  i21 := by kernel_rfl
  i37 := by kernel_rfl
  i46 := by kernel_rfl
  i51 := by kernel_rfl
  i53 := by kernel_rfl
  i75 := by kernel_rfl
  i76 := by kernel_rfl
  i80 := by kernel_rfl
  i85 := by kernel_rfl
  i127 := by kernel_rfl
  i143 := by kernel_rfl
  i145 := by kernel_rfl
  i167 := by kernel_rfl
  i168 := by kernel_rfl
  i171 := by kernel_rfl
  i173 := by kernel_rfl
  i175 := by kernel_rfl
  i210 := by kernel_rfl
  i212 := by kernel_rfl
  i232 := by kernel_rfl
  i233 := by kernel_rfl
  m15 := by kernel_rfl
  m16 := by kernel_rfl
  m17 := by kernel_rfl
  m18 := by kernel_rfl
  m19 := by kernel_rfl
  c0 := by kernel_rfl
  c2 := by kernel_rfl
  c3 := by kernel_rfl
  c4 := by kernel_rfl
  c5 := by kernel_rfl
  c9 := by kernel_rfl
  c20 := by kernel_rfl
  c21 := by kernel_rfl
  c37 := by kernel_rfl
  c46 := by kernel_rfl
  c51 := by kernel_rfl
  c53 := by kernel_rfl
  c75 := by kernel_rfl
  c76 := by kernel_rfl
  c80 := by kernel_rfl
  c85 := by kernel_rfl
  c127 := by kernel_rfl
  c143 := by kernel_rfl
  c145 := by kernel_rfl
  c167 := by kernel_rfl
  c168 := by kernel_rfl
  c171 := by kernel_rfl
  c173 := by kernel_rfl
  c175 := by kernel_rfl
  c210 := by kernel_rfl
  c212 := by kernel_rfl
  c213 := by kernel_rfl
  c232 := by kernel_rfl
  c233 := by kernel_rfl }
open Go.RowKit in
/-- strconv.Atoi, AT EVERY STRING OF AT MOST 18 BYTES THAT IS NO DECIMAL NUMERAL (the empty one too): 0, AND AN ERROR THAT IS NOT nil: a *NumError in a new block N: {Func: "Atoi", Num: s's bytes, Err: what the variable ErrSyntax holds}. Of what was there nothing has turned. (LAID: no walk: one application.) -/
theorem Tryz.strconv_Atoi_err (s : ByteArray) (hl : s.size ≤ 18) (h : Lib.atoi s.data.toList = none) (ev : Value) (w : World) (hv : w.cell? ⟨4, 0, none⟩ = some ev) (hev : ev = .nilIface ∨ ∃ te pe, ev = .iface te pe) :
    Calls Tryz.prog 100 #[.string s] w fun e w' => ∃ N, e = .returned (.tuple #[.int .i64 0, .iface 188 (.pointer (some ⟨N, 0, none⟩))]) ∧ w.heap.size ≤ N ∧ w'.heap[N]? = some (.cells #[.string ⟨#[65, 116, 111, 105]⟩, .string s, ev] 195 (0, 0)) ∧ Below w.heap.size w w' := Any.strconv_Atoi_err Tryz.laysC172 s hl h ev w hv hev
def Tryz.lays321_ren : Go.Shelf.Ren := ⟨fun | 321 => 130 | n => n, fun | 5 => 5 | n => n, fun | n => n⟩
theorem Tryz.lays321 : Go.Proofs.Lays.n321 Tryz.prog Tryz.lays321_ren := {
  mixed := by kernel_rfl
  f321 := Tryz.func130.trans (congrArg some (by kernel_rfl))
  t5 := Tryz.underlying5
  a5 := Tryz.isAgg5
  z5 := Tryz.sizeOf5
  v5 := Tryz.zeroValue5 }
open Go.RowKit in
/-- internal/strconv.lower: 'c | ('x' - 'X')': the bit 32 set. The world is as it was. (LAID: no walk: one application.) -/
theorem Tryz.internal_strconv_lower (c : Int) (w : World) :
    Calls Tryz.prog 130 #[.int .u8 c] w fun e w' => e = .returned (.int .u8 (bits .or .u8 c 32)) ∧ w' = w := Any.internal_strconv_lower Tryz.lays321 c w
def Tryz.lays287_ren : Go.Shelf.Ren := ⟨fun | 287 => 122 | 321 => 130 | 322 => 131 | n => n, fun | 9 => 9 | 3 => 3 | 53 => 29 | 75 => 63 | 4 => 4 | 167 => 185 | 5 => 5 | 46 => 97 | 37 => 36 | 0 => 0 | 21 => 21 | 80 => 211 | n => n, fun | n => n⟩
theorem Tryz.lays287 : Go.Proofs.Lays.n287 Tryz.prog Tryz.lays287_ren := {
  mixed := by kernel_rfl
  f287 := Tryz.func122.trans (congrArg some (by kernel_rfl))
  f321 := Tryz.func130.trans (congrArg some (by kernel_rfl))
  f322 := Tryz.func131.trans (congrArg some (by kernel_rfl))
  t0 := Tryz.underlying0
  a0 := Tryz.isAgg0
  z0 := Tryz.sizeOf0
  v0 := Tryz.zeroValue0
  t3 := Tryz.underlying3
  a3 := Tryz.isAgg3
  z3 := Tryz.sizeOf3
  v3 := Tryz.zeroValue3
  t4 := Tryz.underlying4
  a4 := Tryz.isAgg4
  z4 := Tryz.sizeOf4
  v4 := Tryz.zeroValue4
  t5 := Tryz.underlying5
  a5 := Tryz.isAgg5
  z5 := Tryz.sizeOf5
  v5 := Tryz.zeroValue5
  t9 := Tryz.underlying9
  a9 := Tryz.isAgg9
  z9 := Tryz.sizeOf9
  v9 := Tryz.zeroValue9
  t21 := Tryz.underlying21
  a21 := Tryz.isAgg21
  z21 := Tryz.sizeOf21
  v21 := Tryz.zeroValue21
  t37 := Tryz.underlying36
  a37 := Tryz.isAgg36
  z37 := Tryz.sizeOf36
  v37 := Tryz.zeroValue36
  t46 := Tryz.underlying97
  a46 := Tryz.isAgg97
  z46 := Tryz.sizeOf97
  v46 := Tryz.zeroValue97
  t53 := Tryz.underlying29
  a53 := Tryz.isAgg29
  z53 := Tryz.sizeOf29
  v53 := Tryz.zeroValue29
  t75 := Tryz.underlying63
  a75 := Tryz.isAgg63
  z75 := Tryz.sizeOf63
  v75 := Tryz.zeroValue63
  t167 := Tryz.underlying185
  a167 := Tryz.isAgg185
  z167 := Tryz.sizeOf185
  v167 := Tryz.zeroValue185 }
open Go.RowKit in
/-- internal/strconv.ParseUint(s, 10, 0), s NOT EMPTY: 'Lib.parseUint10 0' OF ITS BYTES: the number; or (0, ErrSyntax); or (the greatest uint64, ErrRange). The world behind the call: the one new row that '[]byte(s)' lays. (LAID: no walk: one application.) -/
theorem Tryz.internal_strconv_ParseUint_10 (t : ByteArray) (hne : t.size ≠ 0) (hmax : t.size ≤ 9223372036854775806) (w : World) :
    Calls Tryz.prog 122 #[.string t, .int .i64 10, .int .i64 0] w fun e w' => e = .returned (Lib.uintTuple 185 (Lib.parseUint10 0 t.data.toList)) ∧ w' = Lib.bytesWorld w 5 t := Any.internal_strconv_ParseUint_10 Tryz.lays287 t hne hmax w
open Go.RowKit in
/-- internal/strconv.ParseUint("", 10, 0): (0, ErrSyntax). The world is as it was. (LAID: no walk: one application.) -/
theorem Tryz.internal_strconv_ParseUint_10_empty (w : World) :
    Calls Tryz.prog 122 #[.string ⟨#[]⟩, .int .i64 10, .int .i64 0] w fun e w' => e = .returned (Lib.uintTuple 185 .syntax) ∧ w' = w := Any.internal_strconv_ParseUint_10_empty Tryz.lays287 w
open Go.RowKit in
/-- internal/strconv.ParseUint(s, 10, 0): 'Lib.parseMag' OF ITS BYTES. The world: as it was (the empty string), or with the one new row that '[]byte(s)' lays. (LAID: no walk: one application.) -/
theorem Tryz.internal_strconv_ParseUint_10_any (t : ByteArray) (hmax : t.size ≤ 9223372036854775806) (w : World) :
    Calls Tryz.prog 122 #[.string t, .int .i64 10, .int .i64 0] w fun e w' => e = .returned (Lib.uintTuple 185 (Lib.parseMag t.data.toList)) ∧ (w' = w ∨ w' = Lib.bytesWorld w 5 t) := Any.internal_strconv_ParseUint_10_any Tryz.lays287 t hmax w
def Tryz.laysC247_ren : Go.Shelf.Ren := ⟨fun | 247 => 114 | 287 => 122 | 321 => 130 | 322 => 131 | n => n, fun | 9 => 9 | 3 => 3 | 2 => 2 | 75 => 63 | 4 => 4 | 167 => 185 | 5 => 5 | 53 => 29 | 175 => 101 | 46 => 97 | 37 => 36 | 0 => 0 | 21 => 21 | 80 => 211 | n => n, fun | n => n⟩
theorem Tryz.laysC247 : Go.Proofs.LaysC.n247 Tryz.prog Tryz.laysC247_ren := {
  mixed := by kernel_rfl
  f247 := Tryz.func114.trans (congrArg some (by kernel_rfl))
  f287 := Tryz.func122.trans (congrArg some (by kernel_rfl))
  f321 := Tryz.func130.trans (congrArg some (by kernel_rfl))
  f322 := Tryz.func131.trans (congrArg some (by kernel_rfl))
  t0 := Tryz.underlying0
  a0 := Tryz.isAgg0
  z0 := Tryz.sizeOf0
  v0 := Tryz.zeroValue0
  t2 := Tryz.underlying2
  a2 := Tryz.isAgg2
  z2 := Tryz.sizeOf2
  v2 := Tryz.zeroValue2
  t3 := Tryz.underlying3
  a3 := Tryz.isAgg3
  z3 := Tryz.sizeOf3
  v3 := Tryz.zeroValue3
  t4 := Tryz.underlying4
  a4 := Tryz.isAgg4
  z4 := Tryz.sizeOf4
  v4 := Tryz.zeroValue4
  t5 := Tryz.underlying5
  a5 := Tryz.isAgg5
  z5 := Tryz.sizeOf5
  v5 := Tryz.zeroValue5
  t9 := Tryz.underlying9
  a9 := Tryz.isAgg9
  z9 := Tryz.sizeOf9
  v9 := Tryz.zeroValue9
  t21 := Tryz.underlying21
  a21 := Tryz.isAgg21
  z21 := Tryz.sizeOf21
  v21 := Tryz.zeroValue21
  t37 := Tryz.underlying36
  a37 := Tryz.isAgg36
  z37 := Tryz.sizeOf36
  v37 := Tryz.zeroValue36
  t46 := Tryz.underlying97
  a46 := Tryz.isAgg97
  z46 := Tryz.sizeOf97
  v46 := Tryz.zeroValue97
  t53 := Tryz.underlying29
  a53 := Tryz.isAgg29
  z53 := Tryz.sizeOf29
  v53 := Tryz.zeroValue29
  t75 := Tryz.underlying63
  a75 := Tryz.isAgg63
  z75 := Tryz.sizeOf63
  v75 := Tryz.zeroValue63
  t167 := Tryz.underlying185
  a167 := Tryz.isAgg185
  z167 := Tryz.sizeOf185
  v167 := Tryz.zeroValue185
  t175 := Tryz.underlying101
  a175 := Tryz.isAgg101
  z175 := Tryz.sizeOf101
  v175 := Tryz.zeroValue101
  t80 := Tryz.underlying211
  a80 := Tryz.isAgg211
  z80 := Tryz.sizeOf211
  v80 := Tryz.zeroValue211
  i0 := by kernel_rfl
  i2 := by kernel_rfl
  i3 := by kernel_rfl
  i4 := by kernel_rfl
  i5 := by kernel_rfl
  i9 := by kernel_rfl
  i21 := by kernel_rfl
  i37 := by kernel_rfl
  i46 := by kernel_rfl
  i53 := by kernel_rfl
  i75 := by kernel_rfl
  i80 := by kernel_rfl
  i167 := by kernel_rfl
  i175 := by kernel_rfl
  c0 := by kernel_rfl
  c2 := by kernel_rfl
  c3 := by kernel_rfl
  c4 := by kernel_rfl
  c5 := by kernel_rfl
  c9 := by kernel_rfl
  c21 := by kernel_rfl
  c37 := by kernel_rfl
  c46 := by kernel_rfl
  c53 := by kernel_rfl
  c75 := by kernel_rfl
  c80 := by kernel_rfl
  c167 := by kernel_rfl
  c175 := by kernel_rfl }
open Go.RowKit in
/-- internal/strconv.ParseInt(s, 10, 0), s NOT EMPTY: 'Lib.atoiAll' OF ITS BYTES: (the number, nil); (0, ErrSyntax); (the greatest or the least int64 by the sign, ErrRange). The world: as it was, or with the one new row that '[]byte(..)' lays. (LAID: no walk: one application.) -/
theorem Tryz.internal_strconv_ParseInt_10 (s : ByteArray) (hne : s.size ≠ 0) (hmax : s.size ≤ 9223372036854775806) (w : World) :
    Calls Tryz.prog 114 #[.string s, .int .i64 10, .int .i64 0] w fun e w' => e = .returned (Lib.intTuple 185 (Lib.atoiSat s.data.toList) (Lib.atoiAll s.data.toList)) ∧ (w' = w ∨ ∃ t, w' = Lib.bytesWorld w 5 t) := Any.internal_strconv_ParseInt_10 Tryz.laysC247 s hne hmax w
def Tryz.laysC244_ren : Go.Shelf.Ren := ⟨fun | 244 => 107 | 247 => 114 | 287 => 122 | 321 => 130 | 322 => 131 | n => n, fun | 9 => 9 | 3 => 3 | 75 => 63 | 4 => 4 | 5 => 5 | 167 => 185 | 37 => 36 | 0 => 0 | 85 => 186 | 2 => 2 | 53 => 29 | 175 => 101 | 46 => 97 | 21 => 21 | 80 => 211 | n => n, fun | n => n⟩
theorem Tryz.laysC244 : Go.Proofs.LaysC.n244 Tryz.prog Tryz.laysC244_ren := {
  mixed := by kernel_rfl
  f244 := Tryz.func107.trans (congrArg some (by kernel_rfl))
  f247 := Tryz.func114.trans (congrArg some (by kernel_rfl))
  f287 := Tryz.func122.trans (congrArg some (by kernel_rfl))
  f321 := Tryz.func130.trans (congrArg some (by kernel_rfl))
  f322 := Tryz.func131.trans (congrArg some (by kernel_rfl))
  t0 := Tryz.underlying0
  a0 := Tryz.isAgg0
  z0 := Tryz.sizeOf0
  v0 := Tryz.zeroValue0
  t2 := Tryz.underlying2
  a2 := Tryz.isAgg2
  z2 := Tryz.sizeOf2
  v2 := Tryz.zeroValue2
  t3 := Tryz.underlying3
  a3 := Tryz.isAgg3
  z3 := Tryz.sizeOf3
  v3 := Tryz.zeroValue3
  t4 := Tryz.underlying4
  a4 := Tryz.isAgg4
  z4 := Tryz.sizeOf4
  v4 := Tryz.zeroValue4
  t5 := Tryz.underlying5
  a5 := Tryz.isAgg5
  z5 := Tryz.sizeOf5
  v5 := Tryz.zeroValue5
  t9 := Tryz.underlying9
  a9 := Tryz.isAgg9
  z9 := Tryz.sizeOf9
  v9 := Tryz.zeroValue9
  t21 := Tryz.underlying21
  a21 := Tryz.isAgg21
  z21 := Tryz.sizeOf21
  v21 := Tryz.zeroValue21
  t37 := Tryz.underlying36
  a37 := Tryz.isAgg36
  z37 := Tryz.sizeOf36
  v37 := Tryz.zeroValue36
  t46 := Tryz.underlying97
  a46 := Tryz.isAgg97
  z46 := Tryz.sizeOf97
  v46 := Tryz.zeroValue97
  t53 := Tryz.underlying29
  a53 := Tryz.isAgg29
  z53 := Tryz.sizeOf29
  v53 := Tryz.zeroValue29
  t75 := Tryz.underlying63
  a75 := Tryz.isAgg63
  z75 := Tryz.sizeOf63
  v75 := Tryz.zeroValue63
  t85 := Tryz.underlying186
  a85 := Tryz.isAgg186
  z85 := Tryz.sizeOf186
  v85 := Tryz.zeroValue186
  t167 := Tryz.underlying185
  a167 := Tryz.isAgg185
  z167 := Tryz.sizeOf185
  v167 := Tryz.zeroValue185
  t175 := Tryz.underlying101
  a175 := Tryz.isAgg101
  z175 := Tryz.sizeOf101
  v175 := Tryz.zeroValue101
  t80 := Tryz.underlying211
  a80 := Tryz.isAgg211
  z80 := Tryz.sizeOf211
  v80 := Tryz.zeroValue211
  i0 := by kernel_rfl
  i2 := by kernel_rfl
  i3 := by kernel_rfl
  i4 := by kernel_rfl
  i5 := by kernel_rfl
  i9 := by kernel_rfl
  i21 := by kernel_rfl
  i37 := by kernel_rfl
  i46 := by kernel_rfl
  i53 := by kernel_rfl
  i75 := by kernel_rfl
  i80 := by kernel_rfl
  i85 := by kernel_rfl
  i167 := by kernel_rfl
  i175 := by kernel_rfl
  c0 := by kernel_rfl
  c2 := by kernel_rfl
  c3 := by kernel_rfl
  c4 := by kernel_rfl
  c5 := by kernel_rfl
  c9 := by kernel_rfl
  c21 := by kernel_rfl
  c37 := by kernel_rfl
  c46 := by kernel_rfl
  c53 := by kernel_rfl
  c75 := by kernel_rfl
  c80 := by kernel_rfl
  c85 := by kernel_rfl
  c167 := by kernel_rfl
  c175 := by kernel_rfl }
open Go.RowKit in
/-- internal/strconv.Atoi, AT EVERY STRING OF 19 BYTES OR MORE: 'Lib.atoiAll' OF ITS BYTES: (the number, nil); (0, ErrSyntax); (the greatest or the least int by the sign, ErrRange). (LAID: no walk: one application.) -/
theorem Tryz.internal_strconv_Atoi_long (s : ByteArray) (h19 : 19 ≤ s.size) (hmax : s.size ≤ 9223372036854775806) (w : World) :
    Calls Tryz.prog 107 #[.string s] w fun e w' => e = .returned (Lib.intTuple 185 (Lib.atoiSat s.data.toList) (Lib.atoiAll s.data.toList)) ∧ (w' = w ∨ ∃ t, w' = Lib.bytesWorld w 5 t) := Any.internal_strconv_Atoi_long Tryz.laysC244 s h19 hmax w
open Go.RowKit in
/-- internal/strconv.Atoi, AT EVERY STRING: 'Lib.atoiAll' OF ITS BYTES: (the number, nil); (0, ErrSyntax); (the greatest or the least int by the sign, ErrRange). The world: as it was, or with the one new row that '[]byte(..)' lays. (LAID: no walk: one application.) -/
theorem Tryz.internal_strconv_Atoi_all (s : ByteArray) (hmax : s.size ≤ 9223372036854775806) (w : World) :
    Calls Tryz.prog 107 #[.string s] w fun e w' => e = .returned (Lib.intTuple 185 (Lib.atoiSat s.data.toList) (Lib.atoiAll s.data.toList)) ∧ (w' = w ∨ ∃ t, w' = Lib.bytesWorld w 5 t) := Any.internal_strconv_Atoi_all Tryz.laysC244 s hmax w
def Tryz.laysM280_ren : Go.Shelf.Ren := ⟨fun | 280 => 116 | 316 => 123 | n => n, fun | 9 => 9 | 168 => 188 | 75 => 63 | 210 => 195 | 3 => 3 | 4 => 4 | 37 => 36 | 0 => 0 | 127 => 202 | 80 => 211 | 5 => 5 | n => n, fun | 16 => 5 | n => n⟩
theorem Tryz.laysM280 : Go.Proofs.LaysM.n280 Tryz.prog Tryz.laysM280_ren := {
  mixed := by kernel_rfl
  f280 := Tryz.func116.trans (congrArg some (by kernel_rfl))
  f316 := Tryz.func123.trans (congrArg some (by kernel_rfl))
  t0 := Tryz.underlying0
  a0 := Tryz.isAgg0
  z0 := Tryz.sizeOf0
  v0 := Tryz.zeroValue0
  t3 := Tryz.underlying3
  a3 := Tryz.isAgg3
  z3 := Tryz.sizeOf3
  v3 := Tryz.zeroValue3
  t4 := Tryz.underlying4
  a4 := Tryz.isAgg4
  z4 := Tryz.sizeOf4
  v4 := Tryz.zeroValue4
  t9 := Tryz.underlying9
  a9 := Tryz.isAgg9
  z9 := Tryz.sizeOf9
  v9 := Tryz.zeroValue9
  t37 := Tryz.underlying36
  a37 := Tryz.isAgg36
  z37 := Tryz.sizeOf36
  v37 := Tryz.zeroValue36
  t75 := Tryz.underlying63
  a75 := Tryz.isAgg63
  z75 := Tryz.sizeOf63
  v75 := Tryz.zeroValue63
  t127 := Tryz.underlying202
  a127 := Tryz.isAgg202
  z127 := Tryz.sizeOf202
  v127 := Tryz.zeroValue202
  t168 := Tryz.underlying188
  a168 := Tryz.isAgg188
  z168 := Tryz.sizeOf188
  v168 := Tryz.zeroValue188
  t210 := Tryz.underlying195
  a210 := Tryz.isAgg195
  z210 := Tryz.sizeOf195
  v210 := Tryz.zeroValue195
  g16 := by kernel_rfl
  t5 := Tryz.underlying5
  a5 := Tryz.isAgg5
  z5 := Tryz.sizeOf5
  v5 := Tryz.zeroValue5
  t80 := Tryz.underlying211
  a80 := Tryz.isAgg211
  z80 := Tryz.sizeOf211
  v80 := Tryz.zeroValue211
  i0 := by kernel_rfl
  i3 := by kernel_rfl
  i4 := by kernel_rfl
  i5 := by kernel_rfl
  i9 := by kernel_rfl
  i37 := by kernel_rfl
  i75 := by kernel_rfl
  i80 := by kernel_rfl
  i127 := by kernel_rfl
  i168 := by kernel_rfl
  i210 := by kernel_rfl
  m16 := by kernel_rfl }
open Go.RowKit in
/-- strconv.rangeError: '&NumError{fn, stringslite.Clone(str), ErrRange}': A POINTER TO A NEW BLOCK that holds fn, str's bytes, and what the variable ErrRange holds. Of what was there nothing has turned. (LAID: no walk: one application.) -/
theorem Tryz.strconv_rangeError (fn s : ByteArray) (ev : Value) (w : World) (hlim : s.size ≤ 281474976710656) (hv : w.cell? ⟨5, 0, none⟩ = some ev) (hev : ev = .nilIface ∨ ∃ te pe, ev = .iface te pe) :
    Calls Tryz.prog 116 #[.string fn, .string s] w fun e w' => ∃ N, e = .returned (.pointer (some ⟨N, 0, none⟩)) ∧ w.heap.size ≤ N ∧ w'.heap[N]? = some (.cells #[.string fn, .string s, ev] 195 (0, 0)) ∧ Below w.heap.size w w' := Any.strconv_rangeError Tryz.laysM280 fn s ev w hlim hv hev
open Go.RowKit in
/-- strconv.toError, at the inner package's ErrRange: 'rangeError(fn, s)' as an error: A *NumError IN A NEW BLOCK. (LAID: no walk: one application.) -/
theorem Tryz.strconv_toError_range (fn s : ByteArray) (base bits : Int) (ev : Value) (w : World) (hlim : s.size ≤ 281474976710656) (hv : w.cell? ⟨5, 0, none⟩ = some ev) (hev : ev = .nilIface ∨ ∃ te pe, ev = .iface te pe) :
    Calls Tryz.prog 108 #[.string fn, .string s, .int .i64 base, .int .i64 bits, .iface 185 (.int .i64 1)] w fun e w' => ∃ N, e = .returned (.iface 188 (.pointer (some ⟨N, 0, none⟩))) ∧ w.heap.size ≤ N ∧ w'.heap[N]? = some (.cells #[.string fn, .string s, ev] 195 (0, 0)) ∧ Below w.heap.size w w' := Any.strconv_toError_range Tryz.laysC245 fn s base bits ev w hlim hv hev
open Go.RowKit in
/-- strconv.Atoi, AT EVERY STRING THAT SPELLS AN int ('Lib.atoiAll .. = .ok v'; of whatever length: leading zeros count): v, AND NO ERROR. The world: as it was, or with the one new row that '[]byte(..)' lays. (LAID: no walk: one application.) -/
theorem Tryz.strconv_Atoi_ok (s : ByteArray) (hmax : s.size ≤ 9223372036854775806) (v : Int) (h : Lib.atoiAll s.data.toList = .ok v) (w : World) :
    Calls Tryz.prog 100 #[.string s] w fun e w' => e = .returned (.tuple #[.int .i64 v, .nilIface]) ∧ (w' = w ∨ ∃ t, w' = Lib.bytesWorld w 5 t) := Any.strconv_Atoi_ok Tryz.laysC172 s hmax v h w
open Go.RowKit in
/-- strconv.Atoi, AT EVERY NUMERAL THAT NO int HOLDS ('.range'): THE GREATEST OR THE LEAST int, BY THE SIGN ('Lib.atoiSat'), AND AN ERROR THAT IS NOT nil: a *NumError in a new block N: {Func: "Atoi", Num: s's bytes, Err: what the variable ErrRange holds}. Of what was there nothing has turned. (LAID: no walk: one application.) -/
theorem Tryz.strconv_Atoi_range (s : ByteArray) (hlim : s.size ≤ 281474976710656) (h : Lib.atoiAll s.data.toList = .range) (ev : Value) (w : World) (hv : w.cell? ⟨5, 0, none⟩ = some ev) (hev : ev = .nilIface ∨ ∃ te pe, ev = .iface te pe) :
    Calls Tryz.prog 100 #[.string s] w fun e w' => ∃ N, e = .returned (.tuple #[.int .i64 (Lib.atoiSat s.data.toList), .iface 188 (.pointer (some ⟨N, 0, none⟩))]) ∧ w.heap.size ≤ N ∧ w'.heap[N]? = some (.cells #[.string ⟨#[65, 116, 111, 105]⟩, .string s, ev] 195 (0, 0)) ∧ Below w.heap.size w w' := Any.strconv_Atoi_range Tryz.laysC172 s hlim h ev w hv hev
open Go.RowKit in
/-- internal/strconv.ParseUint("", base, bitSize): (0, ErrSyntax): the first test of the text. The world is as it was. (LAID: no walk: one application.) -/
theorem Tryz.internal_strconv_ParseUint_empty (base bits : Int) (w : World) :
    Calls Tryz.prog 122 #[.string ⟨#[]⟩, .int .i64 base, .int .i64 bits] w fun e w' => e = .returned (.tuple #[.int .u64 0, .iface 185 (.int .i64 2)]) ∧ w' = w := Any.internal_strconv_ParseUint_empty Tryz.lays287 base bits w
open Go.RowKit in
/-- internal/strconv.ParseUint(s, 10, 64), s NOT EMPTY: 'Lib.parseUint10 0' OF ITS BYTES: the number; or (0, ErrSyntax); or (the greatest uint64, ErrRange). The world behind the call: the one new row that '[]byte(s)' lays. (LAID: no walk: one application.) -/
theorem Tryz.internal_strconv_ParseUint_10_b64 (t : ByteArray) (hne : t.size ≠ 0) (hmax : t.size ≤ 9223372036854775806) (w : World) :
    Calls Tryz.prog 122 #[.string t, .int .i64 10, .int .i64 64] w fun e w' => e = .returned (Lib.uintTuple 185 (Lib.parseUint10 0 t.data.toList)) ∧ w' = Lib.bytesWorld w 5 t := Any.internal_strconv_ParseUint_10_b64 Tryz.lays287 t hne hmax w
open Go.RowKit in
/-- internal/strconv.ParseUint(s, 10, 32), s NOT EMPTY: 'Lib.parseUintM 4294967295 0' OF ITS BYTES: the number; or (0, ErrSyntax); or (the greatest uint32, ErrRange). The world behind the call: the one new row that '[]byte(s)' lays. (LAID: no walk: one application.) -/
theorem Tryz.internal_strconv_ParseUint_10_b32 (t : ByteArray) (hne : t.size ≠ 0) (hmax : t.size ≤ 9223372036854775806) (w : World) :
    Calls Tryz.prog 122 #[.string t, .int .i64 10, .int .i64 32] w fun e w' => e = .returned (Lib.uintTupleM 185 4294967295 (Lib.parseUintM 4294967295 0 t.data.toList)) ∧ w' = Lib.bytesWorld w 5 t := Any.internal_strconv_ParseUint_10_b32 Tryz.lays287 t hne hmax w
open Go.RowKit in
/-- internal/strconv.ParseUint(s, 10, 16), s NOT EMPTY: 'Lib.parseUintM 65535 0' OF ITS BYTES: the number; or (0, ErrSyntax); or (the greatest uint16, ErrRange). The world behind the call: the one new row that '[]byte(s)' lays. (LAID: no walk: one application.) -/
theorem Tryz.internal_strconv_ParseUint_10_b16 (t : ByteArray) (hne : t.size ≠ 0) (hmax : t.size ≤ 9223372036854775806) (w : World) :
    Calls Tryz.prog 122 #[.string t, .int .i64 10, .int .i64 16] w fun e w' => e = .returned (Lib.uintTupleM 185 65535 (Lib.parseUintM 65535 0 t.data.toList)) ∧ w' = Lib.bytesWorld w 5 t := Any.internal_strconv_ParseUint_10_b16 Tryz.lays287 t hne hmax w
open Go.RowKit in
/-- internal/strconv.ParseUint(s, 10, 8), s NOT EMPTY: 'Lib.parseUintM 255 0' OF ITS BYTES: the number; or (0, ErrSyntax); or (the greatest uint8, ErrRange). The world behind the call: the one new row that '[]byte(s)' lays. (LAID: no walk: one application.) -/
theorem Tryz.internal_strconv_ParseUint_10_b8 (t : ByteArray) (hne : t.size ≠ 0) (hmax : t.size ≤ 9223372036854775806) (w : World) :
    Calls Tryz.prog 122 #[.string t, .int .i64 10, .int .i64 8] w fun e w' => e = .returned (Lib.uintTupleM 185 255 (Lib.parseUintM 255 0 t.data.toList)) ∧ w' = Lib.bytesWorld w 5 t := Any.internal_strconv_ParseUint_10_b8 Tryz.lays287 t hne hmax w
open Go.RowKit in
/-- internal/strconv.ParseUint(s, 10, 0): 'Lib.parseUintB 64' OF ITS BYTES. The world: as it was (the empty string), or with the one new row that '[]byte(s)' lays. (LAID: no walk: one application.) -/
theorem Tryz.internal_strconv_ParseUint_10_at0 (t : ByteArray) (hmax : t.size ≤ 9223372036854775806) (w : World) :
    Calls Tryz.prog 122 #[.string t, .int .i64 10, .int .i64 0] w fun e w' => e = .returned (Lib.uintTupleM 185 18446744073709551615 (Lib.parseUintB 64 t.data.toList)) ∧ (w' = w ∨ w' = Lib.bytesWorld w 5 t) := Any.internal_strconv_ParseUint_10_at0 Tryz.lays287 t hmax w
open Go.RowKit in
/-- internal/strconv.ParseUint(s, 10, 64): 'Lib.parseUintB 64' OF ITS BYTES. The world: as it was (the empty string), or with the one new row that '[]byte(s)' lays. (LAID: no walk: one application.) -/
theorem Tryz.internal_strconv_ParseUint_10_at64 (t : ByteArray) (hmax : t.size ≤ 9223372036854775806) (w : World) :
    Calls Tryz.prog 122 #[.string t, .int .i64 10, .int .i64 64] w fun e w' => e = .returned (Lib.uintTupleM 185 18446744073709551615 (Lib.parseUintB 64 t.data.toList)) ∧ (w' = w ∨ w' = Lib.bytesWorld w 5 t) := Any.internal_strconv_ParseUint_10_at64 Tryz.lays287 t hmax w
open Go.RowKit in
/-- internal/strconv.ParseUint(s, 10, 32): 'Lib.parseUintB 32' OF ITS BYTES. The world: as it was (the empty string), or with the one new row that '[]byte(s)' lays. (LAID: no walk: one application.) -/
theorem Tryz.internal_strconv_ParseUint_10_at32 (t : ByteArray) (hmax : t.size ≤ 9223372036854775806) (w : World) :
    Calls Tryz.prog 122 #[.string t, .int .i64 10, .int .i64 32] w fun e w' => e = .returned (Lib.uintTupleM 185 4294967295 (Lib.parseUintB 32 t.data.toList)) ∧ (w' = w ∨ w' = Lib.bytesWorld w 5 t) := Any.internal_strconv_ParseUint_10_at32 Tryz.lays287 t hmax w
open Go.RowKit in
/-- internal/strconv.ParseUint(s, 10, 16): 'Lib.parseUintB 16' OF ITS BYTES. The world: as it was (the empty string), or with the one new row that '[]byte(s)' lays. (LAID: no walk: one application.) -/
theorem Tryz.internal_strconv_ParseUint_10_at16 (t : ByteArray) (hmax : t.size ≤ 9223372036854775806) (w : World) :
    Calls Tryz.prog 122 #[.string t, .int .i64 10, .int .i64 16] w fun e w' => e = .returned (Lib.uintTupleM 185 65535 (Lib.parseUintB 16 t.data.toList)) ∧ (w' = w ∨ w' = Lib.bytesWorld w 5 t) := Any.internal_strconv_ParseUint_10_at16 Tryz.lays287 t hmax w
open Go.RowKit in
/-- internal/strconv.ParseUint(s, 10, 8): 'Lib.parseUintB 8' OF ITS BYTES. The world: as it was (the empty string), or with the one new row that '[]byte(s)' lays. (LAID: no walk: one application.) -/
theorem Tryz.internal_strconv_ParseUint_10_at8 (t : ByteArray) (hmax : t.size ≤ 9223372036854775806) (w : World) :
    Calls Tryz.prog 122 #[.string t, .int .i64 10, .int .i64 8] w fun e w' => e = .returned (Lib.uintTupleM 185 255 (Lib.parseUintB 8 t.data.toList)) ∧ (w' = w ∨ w' = Lib.bytesWorld w 5 t) := Any.internal_strconv_ParseUint_10_at8 Tryz.lays287 t hmax w
open Go.RowKit in
/-- internal/strconv.ParseInt(s, 10, 64), s NOT EMPTY: 'Lib.parseIntB 64' OF ITS BYTES: (the number, nil); (0, ErrSyntax); (the greatest or the least int64 by the sign, ErrRange). The world: as it was, or with the one new row that '[]byte(..)' lays. (LAID: no walk: one application.) -/
theorem Tryz.internal_strconv_ParseInt_10_at64 (s : ByteArray) (hne : s.size ≠ 0) (hmax : s.size ≤ 9223372036854775806) (w : World) :
    Calls Tryz.prog 114 #[.string s, .int .i64 10, .int .i64 64] w fun e w' => e = .returned (Lib.intTuple 185 (Lib.intSat 64 s.data.toList) (Lib.parseIntB 64 s.data.toList)) ∧ (w' = w ∨ ∃ t, w' = Lib.bytesWorld w 5 t) := Any.internal_strconv_ParseInt_10_at64 Tryz.laysC247 s hne hmax w
open Go.RowKit in
/-- internal/strconv.ParseInt(s, 10, 32), s NOT EMPTY: 'Lib.parseIntB 32' OF ITS BYTES: (the number, nil); (0, ErrSyntax); (the greatest or the least int32 by the sign, ErrRange). The world: as it was, or with the one new row that '[]byte(..)' lays. (LAID: no walk: one application.) -/
theorem Tryz.internal_strconv_ParseInt_10_at32 (s : ByteArray) (hne : s.size ≠ 0) (hmax : s.size ≤ 9223372036854775806) (w : World) :
    Calls Tryz.prog 114 #[.string s, .int .i64 10, .int .i64 32] w fun e w' => e = .returned (Lib.intTuple 185 (Lib.intSat 32 s.data.toList) (Lib.parseIntB 32 s.data.toList)) ∧ (w' = w ∨ ∃ t, w' = Lib.bytesWorld w 5 t) := Any.internal_strconv_ParseInt_10_at32 Tryz.laysC247 s hne hmax w
open Go.RowKit in
/-- internal/strconv.ParseInt(s, 10, 16), s NOT EMPTY: 'Lib.parseIntB 16' OF ITS BYTES: (the number, nil); (0, ErrSyntax); (the greatest or the least int16 by the sign, ErrRange). The world: as it was, or with the one new row that '[]byte(..)' lays. (LAID: no walk: one application.) -/
theorem Tryz.internal_strconv_ParseInt_10_at16 (s : ByteArray) (hne : s.size ≠ 0) (hmax : s.size ≤ 9223372036854775806) (w : World) :
    Calls Tryz.prog 114 #[.string s, .int .i64 10, .int .i64 16] w fun e w' => e = .returned (Lib.intTuple 185 (Lib.intSat 16 s.data.toList) (Lib.parseIntB 16 s.data.toList)) ∧ (w' = w ∨ ∃ t, w' = Lib.bytesWorld w 5 t) := Any.internal_strconv_ParseInt_10_at16 Tryz.laysC247 s hne hmax w
open Go.RowKit in
/-- internal/strconv.ParseInt(s, 10, 8), s NOT EMPTY: 'Lib.parseIntB 8' OF ITS BYTES: (the number, nil); (0, ErrSyntax); (the greatest or the least int8 by the sign, ErrRange). The world: as it was, or with the one new row that '[]byte(..)' lays. (LAID: no walk: one application.) -/
theorem Tryz.internal_strconv_ParseInt_10_at8 (s : ByteArray) (hne : s.size ≠ 0) (hmax : s.size ≤ 9223372036854775806) (w : World) :
    Calls Tryz.prog 114 #[.string s, .int .i64 10, .int .i64 8] w fun e w' => e = .returned (Lib.intTuple 185 (Lib.intSat 8 s.data.toList) (Lib.parseIntB 8 s.data.toList)) ∧ (w' = w ∨ ∃ t, w' = Lib.bytesWorld w 5 t) := Any.internal_strconv_ParseInt_10_at8 Tryz.laysC247 s hne hmax w
def Tryz.lays206_ren : Go.Shelf.Ren := ⟨fun | 206 => 65 | n => n, fun | 9 => 9 | 4 => 4 | 3 => 3 | n => n, fun | n => n⟩
theorem Tryz.lays206 : Go.Proofs.Lays.n206 Tryz.prog Tryz.lays206_ren := {
  mixed := by kernel_rfl
  f206 := Tryz.func65.trans (congrArg some (by kernel_rfl))
  t3 := Tryz.underlying3
  a3 := Tryz.isAgg3
  z3 := Tryz.sizeOf3
  v3 := Tryz.zeroValue3
  t4 := Tryz.underlying4
  a4 := Tryz.isAgg4
  z4 := Tryz.sizeOf4
  v4 := Tryz.zeroValue4
  t9 := Tryz.underlying9
  a9 := Tryz.isAgg9
  z9 := Tryz.sizeOf9
  v9 := Tryz.zeroValue9 }
open Go.RowKit Go.Lib in
/-- internal/stringslite.HasPrefix (what strings.HasPrefix calls). (LAID: no walk: one application.) -/
theorem Tryz.stringslite_HasPrefix (s p : ByteArray) (w : World) :
    Calls Tryz.prog 65 #[.string s, .string p] w fun e w' => e = .returned (.bool (Lib.hasPrefix s.data.toList p.data.toList)) ∧ w' = w := Any.stringslite_HasPrefix Tryz.lays206 s p w
def Tryz.lays99_ren : Go.Shelf.Ren := ⟨fun | 99 => 40 | 206 => 65 | n => n, fun | 9 => 9 | 4 => 4 | 3 => 3 | n => n, fun | n => n⟩
theorem Tryz.lays99 : Go.Proofs.Lays.n99 Tryz.prog Tryz.lays99_ren := {
  mixed := by kernel_rfl
  f99 := Tryz.func40.trans (congrArg some (by kernel_rfl))
  f206 := Tryz.func65.trans (congrArg some (by kernel_rfl))
  t3 := Tryz.underlying3
  a3 := Tryz.isAgg3
  z3 := Tryz.sizeOf3
  v3 := Tryz.zeroValue3
  t4 := Tryz.underlying4
  a4 := Tryz.isAgg4
  z4 := Tryz.sizeOf4
  v4 := Tryz.zeroValue4
  t9 := Tryz.underlying9
  a9 := Tryz.isAgg9
  z9 := Tryz.sizeOf9
  v9 := Tryz.zeroValue9 }
open Go.RowKit Go.Lib in
/-- strings.HasPrefix: "HasPrefix reports whether the string s begins with prefix.": IT RETURNS 'Lib.hasPrefix s prefix'; the world is as it was. (LAID: no walk: one application.) -/
theorem Tryz.strings_HasPrefix (s p : ByteArray) (w : World) :
    Calls Tryz.prog 40 #[.string s, .string p] w fun e w' => e = .returned (.bool (Lib.hasPrefix s.data.toList p.data.toList)) ∧ w' = w := Any.strings_HasPrefix Tryz.lays99 s p w
def Tryz.lays197_ren : Go.Shelf.Ren := ⟨fun | 197 => 68 | 260 => 82 | n => n, fun | 9 => 9 | 21 => 21 | 3 => 3 | 4 => 4 | 5 => 5 | 105 => 116 | 119 => 168 | 0 => 0 | 46 => 97 | 139 => 171 | 138 => 170 | n => n, fun | 3 => 1 | 4 => 2 | n => n⟩
theorem Tryz.lays197 : Go.Proofs.Lays.n197 Tryz.prog Tryz.lays197_ren := {
  mixed := by kernel_rfl
  f197 := Tryz.func68.trans (congrArg some (by kernel_rfl))
  f260 := Tryz.func82.trans (congrArg some (by kernel_rfl))
  t0 := Tryz.underlying0
  a0 := Tryz.isAgg0
  z0 := Tryz.sizeOf0
  v0 := Tryz.zeroValue0
  t3 := Tryz.underlying3
  a3 := Tryz.isAgg3
  z3 := Tryz.sizeOf3
  v3 := Tryz.zeroValue3
  t4 := Tryz.underlying4
  a4 := Tryz.isAgg4
  z4 := Tryz.sizeOf4
  v4 := Tryz.zeroValue4
  t5 := Tryz.underlying5
  a5 := Tryz.isAgg5
  z5 := Tryz.sizeOf5
  v5 := Tryz.zeroValue5
  t9 := Tryz.underlying9
  a9 := Tryz.isAgg9
  z9 := Tryz.sizeOf9
  v9 := Tryz.zeroValue9
  t21 := Tryz.underlying21
  a21 := Tryz.isAgg21
  z21 := Tryz.sizeOf21
  v21 := Tryz.zeroValue21
  t46 := Tryz.underlying97
  a46 := Tryz.isAgg97
  z46 := Tryz.sizeOf97
  v46 := Tryz.zeroValue97
  t105 := Tryz.underlying116
  a105 := Tryz.isAgg116
  z105 := Tryz.sizeOf116
  v105 := Tryz.zeroValue116
  t119 := Tryz.underlying168
  a119 := Tryz.isAgg168
  z119 := Tryz.sizeOf168
  t138 := Tryz.underlying170
  a138 := Tryz.isAgg170
  z138 := Tryz.sizeOf170
  v138 := Tryz.zeroValue170
  t139 := Tryz.underlying171
  a139 := Tryz.isAgg171
  z139 := Tryz.sizeOf171
  v139 := Tryz.zeroValue171
  g3 := by kernel_rfl
  g4 := by kernel_rfl }
open Go.RowKit Go.Lib in
/-- unicode/utf8.DecodeRuneInString: "DecodeRuneInString is like DecodeRune but its input is a string.": ("DecodeRune unpacks the first UTF-8 encoding in p and returns the rune and its width in bytes."): WHERE s BEGINS WITH AN ASCII BYTE x: (x, 1). (LAID: no walk: one application.) -/
theorem Tryz.utf8_DecodeRuneInString_ascii (s : ByteArray) (x : UInt8) (w : World) (h0 : s.data.toList[0]? = some x) (hx : x.toNat < 128) :
    Calls Tryz.prog 68 #[.string s] w fun e w' => e = .returned (.tuple #[.int .i32 x.toNat, .int .i64 1]) ∧ w' = w := Any.utf8_DecodeRuneInString_ascii Tryz.lays197 s x w h0 hx
def Tryz.lays260_ren : Go.Shelf.Ren := ⟨fun | 260 => 82 | n => n, fun | 9 => 9 | 21 => 21 | 3 => 3 | 4 => 4 | 5 => 5 | 119 => 168 | 0 => 0 | 46 => 97 | 139 => 171 | 138 => 170 | n => n, fun | 3 => 1 | 4 => 2 | n => n⟩
theorem Tryz.lays260 : Go.Proofs.Lays.n260 Tryz.prog Tryz.lays260_ren := {
  mixed := by kernel_rfl
  f260 := Tryz.func82.trans (congrArg some (by kernel_rfl))
  t0 := Tryz.underlying0
  a0 := Tryz.isAgg0
  z0 := Tryz.sizeOf0
  v0 := Tryz.zeroValue0
  t3 := Tryz.underlying3
  a3 := Tryz.isAgg3
  z3 := Tryz.sizeOf3
  v3 := Tryz.zeroValue3
  t4 := Tryz.underlying4
  a4 := Tryz.isAgg4
  z4 := Tryz.sizeOf4
  v4 := Tryz.zeroValue4
  t5 := Tryz.underlying5
  a5 := Tryz.isAgg5
  z5 := Tryz.sizeOf5
  v5 := Tryz.zeroValue5
  t9 := Tryz.underlying9
  a9 := Tryz.isAgg9
  z9 := Tryz.sizeOf9
  v9 := Tryz.zeroValue9
  t21 := Tryz.underlying21
  a21 := Tryz.isAgg21
  z21 := Tryz.sizeOf21
  v21 := Tryz.zeroValue21
  t46 := Tryz.underlying97
  a46 := Tryz.isAgg97
  z46 := Tryz.sizeOf97
  v46 := Tryz.zeroValue97
  t119 := Tryz.underlying168
  a119 := Tryz.isAgg168
  z119 := Tryz.sizeOf168
  t138 := Tryz.underlying170
  a138 := Tryz.isAgg170
  z138 := Tryz.sizeOf170
  v138 := Tryz.zeroValue170
  t139 := Tryz.underlying171
  a139 := Tryz.isAgg171
  z139 := Tryz.sizeOf171
  v139 := Tryz.zeroValue171
  g3 := by kernel_rfl
  g4 := by kernel_rfl }
open Go.RowKit Go.Lib in
theorem Tryz.utf8_decodeRuneInStringSlow (s : ByteArray) (w : World) (hT : Lib.Utf8Tabs 1 2 w) :
    Calls Tryz.prog 82 #[.string s] w fun e w' => e = .returned (.tuple #[.int .i32 (Lib.decodeGo s).1, .int .i64 (Lib.decodeGo s).2]) ∧ Below w.heap.size w w' := Any.utf8_decodeRuneInStringSlow Tryz.lays260 s w hT
open Go.RowKit Go.Lib in
/-- **unicode/utf8.DecodeRuneInString AT EVERY STRING.** (LAID: no walk: one application.) -/
theorem Tryz.utf8_DecodeRuneInString (s : ByteArray) (w : World) (hT : Lib.Utf8Tabs 1 2 w) :
    Calls Tryz.prog 68 #[.string s] w fun e w' => e = .returned (.tuple #[.int .i32 (Lib.decodeGo s).1, .int .i64 (Lib.decodeGo s).2]) ∧ Below w.heap.size w w' := Any.utf8_DecodeRuneInString Tryz.lays197 s w hT
def Tryz.lays229_ren : Go.Shelf.Ren := ⟨fun | 229 => 75 | n => n, fun | 9 => 9 | 40 => 118 | 31 => 22 | 152 => 151 | 3 => 3 | 0 => 0 | 4 => 4 | 21 => 21 | 154 => 153 | n => n, fun | n => n⟩
theorem Tryz.lays229 : Go.Proofs.Lays.n229 Tryz.prog Tryz.lays229_ren := {
  mixed := by kernel_rfl
  f229 := Tryz.func75.trans (congrArg some (by kernel_rfl))
  t0 := Tryz.underlying0
  a0 := Tryz.isAgg0
  z0 := Tryz.sizeOf0
  v0 := Tryz.zeroValue0
  t3 := Tryz.underlying3
  a3 := Tryz.isAgg3
  z3 := Tryz.sizeOf3
  v3 := Tryz.zeroValue3
  t4 := Tryz.underlying4
  a4 := Tryz.isAgg4
  z4 := Tryz.sizeOf4
  v4 := Tryz.zeroValue4
  t9 := Tryz.underlying9
  a9 := Tryz.isAgg9
  z9 := Tryz.sizeOf9
  v9 := Tryz.zeroValue9
  t21 := Tryz.underlying21
  a21 := Tryz.isAgg21
  z21 := Tryz.sizeOf21
  v21 := Tryz.zeroValue21
  t31 := Tryz.underlying22
  a31 := Tryz.isAgg22
  z31 := Tryz.sizeOf22
  v31 := Tryz.zeroValue22
  t40 := Tryz.underlying118
  a40 := Tryz.isAgg118
  z40 := Tryz.sizeOf118
  v40 := Tryz.zeroValue118
  t152 := Tryz.underlying151
  a152 := Tryz.isAgg151
  z152 := Tryz.sizeOf151
  v152 := Tryz.zeroValue151
  t154 := Tryz.underlying153
  a154 := Tryz.isAgg153
  z154 := Tryz.sizeOf153
  v154 := Tryz.zeroValue153 }
open Go.RowKit Go.Lib in
theorem Tryz.strings_FieldsFunc_runes (g : Nat) (lb : Array Value) (eg : ∀ args w, (callFunc g args).run Tryz.prog w = .ok (.enter g args) w) (p : Nat → Bool) (s : ByteArray) (w : World) (hs : s.size ≤ 4294967296) (hp : PredAtRunes Tryz.prog g lb p w) :
    Calls Tryz.prog 75 #[.string s, .func (.func g) #[] lb] w fun e w' => ∃ A, e = .returned (.slice (some ⟨A, 0, none⟩) (Lib.goFieldsP p s).length (Lib.goFieldsP p s).length) ∧ w.heap.size ≤ A ∧
      w'.ownsRow w.heap.size 9 1 (.slice (some ⟨A, 0, none⟩) (Lib.goFieldsP p s).length (Lib.goFieldsP p s).length) (Lib.goFieldsP p s).length ((Lib.goFieldsP p s).map Value.string) ∧ Below w.heap.size w w' := Any.strings_FieldsFunc_runes Tryz.lays229 g lb eg p s w hs hp (by kernel_rfl) (by kernel_rfl)
open Go.RowKit Go.Lib in
/-- .. over a hand of the authors' house's premise as it stands. (LAID: no walk: one application.) -/
theorem Tryz.strings_FieldsFunc (g : Nat) (lb : Array Value) (eg : ∀ args w, (callFunc g args).run Tryz.prog w = .ok (.enter g args) w) (p : Nat → Bool) (s : ByteArray) (w : World) (hs : s.size ≤ 4294967296) (hp : PredAt Tryz.prog g lb encR p w) :
    Calls Tryz.prog 75 #[.string s, .func (.func g) #[] lb] w fun e w' => ∃ A, e = .returned (.slice (some ⟨A, 0, none⟩) (Lib.goFieldsP p s).length (Lib.goFieldsP p s).length) ∧ w.heap.size ≤ A ∧
      w'.ownsRow w.heap.size 9 1 (.slice (some ⟨A, 0, none⟩) (Lib.goFieldsP p s).length (Lib.goFieldsP p s).length) (Lib.goFieldsP p s).length ((Lib.goFieldsP p s).map Value.string) ∧ Below w.heap.size w w' := Any.strings_FieldsFunc Tryz.lays229 g lb eg p s w hs hp (by kernel_rfl) (by kernel_rfl)
open Go.RowKit Go.Lib in
theorem Tryz.strings_FieldsFunc_grows (g : Nat) (lb : Array Value) (eg : ∀ args w, (callFunc g args).run Tryz.prog w = .ok (.enter g args) w) (p : Nat → Bool) (s : ByteArray) (w : World) (hs : s.size ≤ 4294967296) (hp : PredGrows Tryz.prog g lb p w) :
    Calls Tryz.prog 75 #[.string s, .func (.func g) #[] lb] w fun e w' => ∃ A, e = .returned (.slice (some ⟨A, 0, none⟩) (Lib.goFieldsP p s).length (Lib.goFieldsP p s).length) ∧ w.heap.size ≤ A ∧
      w'.ownsRow w.heap.size 9 1 (.slice (some ⟨A, 0, none⟩) (Lib.goFieldsP p s).length (Lib.goFieldsP p s).length) (Lib.goFieldsP p s).length ((Lib.goFieldsP p s).map Value.string) ∧ Below w.heap.size w w' := Any.strings_FieldsFunc_grows Tryz.lays229 g lb eg p s w hs hp (by kernel_rfl) (by kernel_rfl)
end Go.Proofs
