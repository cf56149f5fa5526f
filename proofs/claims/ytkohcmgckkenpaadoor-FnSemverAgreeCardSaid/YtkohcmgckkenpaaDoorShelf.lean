/-
  DERIVED: THE SHELF's CONTRACTS AT THIS DUMP, IN PLAIN WORDS (tools/lay-plain.mjs out of 'TrydShelf.lean', which tools/lay-shelf.mjs wrote): THE SAME DECLARATIONS UNDER THE SAME NAMES: 'import', 'namespace', 'open', 'def', 'theorem' AND NOTHING ELSE: no command of the shelf's: FOR A HAND-IN. Each laying: the table of numbers ('.._ren') and one theorem, a field a fact of the dump's own or the kernel's comparison; each contract: ONE APPLICATION.
-/
import Derived.Shelf.Strconv.Itoa0
import Derived.Shelf.Strconv.Itoa1
import Derived.Shelf.LaysM
import Derived.Shelf.Strconv.Itoa2
import Derived.Shelf.Strconv.Itoa3
import Derived.Ground.MpProg
import Derived.Shelf.Pu.ParseUintPublic10
import Derived.Shelf.Pu.ErrVarParseUint
import Derived.Test.YtkohcmgckkenpaaDoorProg
namespace Go.Proofs
open Go.Shelf
def Tryd.lays129_ren : Go.Shelf.Ren := ⟨fun | 129 => 84 | n => n, fun | 53 => 23 | 3 => 3 | 4 => 4 | 46 => 101 | 5 => 5 | 9 => 9 | n => n, fun | n => n⟩
theorem Tryd.lays129 : Go.Proofs.Lays.n129 Tryd.prog Tryd.lays129_ren := {
  mixed := by kernel_rfl
  f129 := Tryd.func84.trans (congrArg some (by kernel_rfl))
  t3 := Tryd.underlying3
  a3 := Tryd.isAgg3
  z3 := Tryd.sizeOf3
  v3 := Tryd.zeroValue3
  t4 := Tryd.underlying4
  a4 := Tryd.isAgg4
  z4 := Tryd.sizeOf4
  v4 := Tryd.zeroValue4
  t5 := Tryd.underlying5
  a5 := Tryd.isAgg5
  z5 := Tryd.sizeOf5
  v5 := Tryd.zeroValue5
  t9 := Tryd.underlying9
  a9 := Tryd.isAgg9
  z9 := Tryd.sizeOf9
  v9 := Tryd.zeroValue9
  t46 := Tryd.underlying101
  a46 := Tryd.isAgg101
  z46 := Tryd.sizeOf101
  v46 := Tryd.zeroValue101
  t53 := Tryd.underlying23
  a53 := Tryd.isAgg23
  z53 := Tryd.sizeOf23
  v53 := Tryd.zeroValue23 }
/-- bits.Len64: "Len64 returns the minimum number of bits required to represent x; the result is 0 for x == 0.": IT RETURNS 'Lib.bitLen x'; the world is as it was. ('h0', 'h1': x is a uint64.) (LAID: no walk: one application.) -/
theorem Tryd.bits_Len64 (x : Int) (w : World) (h0 : 0 ≤ x) (h1 : x ≤ 18446744073709551615) :
    Calls Tryd.prog 84 #[.int .u64 x] w fun e w' => e = .returned (.int .i64 (Lib.bitLen x.toNat)) ∧ w' = w := Any.bits_Len64 Tryd.lays129 x w h0 h1
def Tryd.lays317_ren : Go.Shelf.Ren := ⟨fun | 317 => 83 | n => n, fun | 3 => 3 | 46 => 101 | n => n, fun | n => n⟩
theorem Tryd.lays317 : Go.Proofs.Lays.n317 Tryd.prog Tryd.lays317_ren := {
  mixed := by kernel_rfl
  f317 := Tryd.func83.trans (congrArg some (by kernel_rfl))
  t3 := Tryd.underlying3
  a3 := Tryd.isAgg3
  z3 := Tryd.sizeOf3
  v3 := Tryd.zeroValue3
  t46 := Tryd.underlying101
  a46 := Tryd.isAgg101
  z46 := Tryd.sizeOf101
  v46 := Tryd.zeroValue101 }
open Go.Lib in
/-- internal/strconv.log10Pow2: "log10Pow2(x) returns ⌊log₁₀ 2**x⌋ = ⌊x * log₁₀ 2⌋.": '(x * 78913) >> 18', at an x up to 64 (a length in bits). The world is as it was. (LAID: no walk: one application.) -/
theorem Tryd.internal_strconv_log10Pow2 (x : Nat) (h : x ≤ 64) (w : World) :
    Calls Tryd.prog 83 #[.int .i64 x] w fun e w' => e = .returned (.int .i64 (Lib.l10 x)) ∧ w' = w := Any.internal_strconv_log10Pow2 Tryd.lays317 x h w
def Tryd.lays318_ren : Go.Shelf.Ren := ⟨fun | 318 => 85 | n => n, fun | 3 => 3 | 4 => 4 | n => n, fun | n => n⟩
theorem Tryd.lays318 : Go.Proofs.Lays.n318 Tryd.prog Tryd.lays318_ren := {
  mixed := by kernel_rfl
  f318 := Tryd.func85.trans (congrArg some (by kernel_rfl))
  t3 := Tryd.underlying3
  a3 := Tryd.isAgg3
  z3 := Tryd.sizeOf3
  v3 := Tryd.zeroValue3
  t4 := Tryd.underlying4
  a4 := Tryd.isAgg4
  z4 := Tryd.sizeOf4
  v4 := Tryd.zeroValue4 }
open Go.Lib in
/-- internal/strconv.bool2: "bool2 converts b to an integer: 1 for true, 0 for false." The world is as it was. (LAID: no walk: one application.) -/
theorem Tryd.internal_strconv_bool2_int (b : Bool) (w : World) :
    Calls Tryd.prog 85 #[.bool b] w fun e w' => e = .returned (.int .i64 (if b then 1 else 0)) ∧ w' = w := Any.internal_strconv_bool2_int Tryd.lays318 b w
def Tryd.lays283_ren : Go.Shelf.Ren := ⟨fun | 283 => 79 | n => n, fun | 3 => 3 | 9 => 9 | 4 => 4 | n => n, fun | n => n⟩
theorem Tryd.lays283 : Go.Proofs.Lays.n283 Tryd.prog Tryd.lays283_ren := {
  mixed := by kernel_rfl
  f283 := Tryd.func79.trans (congrArg some (by kernel_rfl))
  t3 := Tryd.underlying3
  a3 := Tryd.isAgg3
  z3 := Tryd.sizeOf3
  v3 := Tryd.zeroValue3
  t4 := Tryd.underlying4
  a4 := Tryd.isAgg4
  z4 := Tryd.sizeOf4
  v4 := Tryd.zeroValue4
  t9 := Tryd.underlying9
  a9 := Tryd.isAgg9
  z9 := Tryd.sizeOf9
  v9 := Tryd.zeroValue9 }
open Go.Lib in
/-- internal/strconv.small: "small returns the string for an i with 0 <= i < nSmalls.": i's decimal numeral. The world is as it was. (LAID: no walk: one application.) -/
theorem Tryd.internal_strconv_small (i : Nat) (h : i < 100) (w : World) :
    Calls Tryd.prog 79 #[.int .i64 i] w fun e w' => e = .returned (.string ⟨(Lib.decDigits i).toArray⟩) ∧ w' = w := Any.internal_strconv_small Tryd.lays283 i h w
def Tryd.laysM284_ren : Go.Shelf.Ren := ⟨fun | 284 => 80 | 129 => 84 | 317 => 83 | 318 => 85 | n => n, fun | 53 => 23 | 3 => 3 | 212 => 118 | 0 => 0 | 4 => 4 | 46 => 101 | 5 => 5 | 9 => 9 | n => n, fun | 17 => 2 | n => n⟩
theorem Tryd.laysM284 : Go.Proofs.LaysM.n284 Tryd.prog Tryd.laysM284_ren := {
  mixed := by kernel_rfl
  f129 := Tryd.func84.trans (congrArg some (by kernel_rfl))
  f284 := Tryd.func80.trans (congrArg some (by kernel_rfl))
  f317 := Tryd.func83.trans (congrArg some (by kernel_rfl))
  f318 := Tryd.func85.trans (congrArg some (by kernel_rfl))
  t0 := Tryd.underlying0
  a0 := Tryd.isAgg0
  z0 := Tryd.sizeOf0
  v0 := Tryd.zeroValue0
  t3 := Tryd.underlying3
  a3 := Tryd.isAgg3
  z3 := Tryd.sizeOf3
  v3 := Tryd.zeroValue3
  t4 := Tryd.underlying4
  a4 := Tryd.isAgg4
  z4 := Tryd.sizeOf4
  v4 := Tryd.zeroValue4
  t5 := Tryd.underlying5
  a5 := Tryd.isAgg5
  z5 := Tryd.sizeOf5
  v5 := Tryd.zeroValue5
  t9 := Tryd.underlying9
  a9 := Tryd.isAgg9
  z9 := Tryd.sizeOf9
  v9 := Tryd.zeroValue9
  t46 := Tryd.underlying101
  a46 := Tryd.isAgg101
  z46 := Tryd.sizeOf101
  v46 := Tryd.zeroValue101
  t53 := Tryd.underlying23
  a53 := Tryd.isAgg23
  z53 := Tryd.sizeOf23
  v53 := Tryd.zeroValue23
  t212 := Tryd.underlying118
  a212 := Tryd.isAgg118
  z212 := Tryd.sizeOf118
  v212 := Tryd.zeroValue118
  g17 := by kernel_rfl
  i0 := by kernel_rfl
  i3 := by kernel_rfl
  i4 := by kernel_rfl
  i5 := by kernel_rfl
  i9 := by kernel_rfl
  i46 := by kernel_rfl
  i53 := by kernel_rfl
  i212 := by kernel_rfl
  m17 := by kernel_rfl }
open Go.Lib in
/-- internal/strconv.numDigits, at a d that is not 0: THE NUMBER OF d's DECIMAL DIGITS. The world is as it was. (LAID: no walk: one application.) -/
theorem Tryd.internal_strconv_numDigits (u : Nat) (h1 : 1 ≤ u) (h2 : u < 18446744073709551616) (w : World) (htab : Lib.TabIs Tryd.prog w "internal/strconv.uint64pow10" .u64 Lib.pow10Tab) :
    Calls Tryd.prog 80 #[.int .u64 u] w fun e w' => e = .returned (.int .i64 (Lib.nDigits u)) ∧ w' = w := Any.internal_strconv_numDigits Tryd.laysM284 u h1 h2 w htab
def Tryd.lays285_ren : Go.Shelf.Ren := ⟨fun | 285 => 81 | n => n, fun | 37 => 102 | 53 => 23 | 3 => 3 | 4 => 4 | 51 => 119 | 9 => 9 | 5 => 5 | 0 => 0 | n => n, fun | n => n⟩
theorem Tryd.lays285 : Go.Proofs.Lays.n285 Tryd.prog Tryd.lays285_ren := {
  mixed := by kernel_rfl
  f285 := Tryd.func81.trans (congrArg some (by kernel_rfl))
  t0 := Tryd.underlying0
  a0 := Tryd.isAgg0
  z0 := Tryd.sizeOf0
  v0 := Tryd.zeroValue0
  t3 := Tryd.underlying3
  a3 := Tryd.isAgg3
  z3 := Tryd.sizeOf3
  v3 := Tryd.zeroValue3
  t4 := Tryd.underlying4
  a4 := Tryd.isAgg4
  z4 := Tryd.sizeOf4
  v4 := Tryd.zeroValue4
  t5 := Tryd.underlying5
  a5 := Tryd.isAgg5
  z5 := Tryd.sizeOf5
  v5 := Tryd.zeroValue5
  t9 := Tryd.underlying9
  a9 := Tryd.isAgg9
  z9 := Tryd.sizeOf9
  v9 := Tryd.zeroValue9
  t37 := Tryd.underlying102
  a37 := Tryd.isAgg102
  z37 := Tryd.sizeOf102
  v37 := Tryd.zeroValue102
  t51 := Tryd.underlying119
  a51 := Tryd.isAgg119
  z51 := Tryd.sizeOf119
  v51 := Tryd.zeroValue119
  t53 := Tryd.underlying23
  a53 := Tryd.isAgg23
  z53 := Tryd.sizeOf23
  v53 := Tryd.zeroValue23 }
open Go.RowKit Go.Sort Go.Lib in
/-- internal/strconv.formatBase10: "formatBase10 formats the decimal representation of u into a. The caller is responsible for ensuring that a is big enough to hold u. If a is too big, leading zeros will be filled in as needed.": THE ROW HOLDS u's DIGITS ('FmtInv .. 0 ..': every place t holds 'dg u (len - 1 - t)'); all else is as it was but for the count of draws. (LAID: no walk: one application.) -/
theorem Tryd.internal_strconv_formatBase10 (blk off cap : Nat) (u : Nat) (d : Array UInt8) (w : World) (hH : Holds (fun (b : UInt8) => Value.int .u8 (b.toNat : Int)) w blk off d) (hu : u < 10 ^ d.size) (hu64 : u < 18446744073709551616) (hsz : d.size < 4611686018427387904) :
    Calls Tryd.prog 81 #[.slice (some ⟨blk, off, none⟩) d.size cap, .int .u64 u] w fun e w' =>
      e = .returned (.tuple #[]) ∧ ∃ (n v' : Nat) (dk : Array UInt8), w' = (putRow (fun (b : UInt8) => Value.int .u8 (b.toNat : Int)) w blk off dk).drewN n ∧ FmtInv d.size u 0 v' dk := Any.internal_strconv_formatBase10 Tryd.lays285 blk off cap u d w hH hu hu64 hsz
def Tryd.laysM246_ren : Go.Shelf.Ren := ⟨fun | 246 => 78 | 283 => 79 | 284 => 80 | 285 => 81 | 286 => 82 | 129 => 84 | 317 => 83 | 318 => 85 | 319 => 86 | 320 => 87 | 337 => 88 | 338 => 89 | n => n, fun | 2 => 2 | 3 => 3 | 9 => 9 | 4 => 4 | 171 => 111 | 0 => 0 | 53 => 23 | 37 => 102 | 5 => 5 | 173 => 114 | 212 => 118 | 51 => 119 | 20 => 20 | 213 => 120 | 46 => 101 | 232 => 124 | 233 => 125 | n => n, fun | 17 => 2 | 18 => 3 | 19 => 4 | n => n⟩
theorem Tryd.laysM246 : Go.Proofs.LaysM.n246 Tryd.prog Tryd.laysM246_ren := {
  mixed := by kernel_rfl
  f129 := Tryd.func84.trans (congrArg some (by kernel_rfl))
  f246 := Tryd.func78.trans (congrArg some (by kernel_rfl))
  f283 := Tryd.func79.trans (congrArg some (by kernel_rfl))
  f284 := Tryd.func80.trans (congrArg some (by kernel_rfl))
  f285 := Tryd.func81.trans (congrArg some (by kernel_rfl))
  f286 := Tryd.func82.trans (congrArg some (by kernel_rfl))
  f317 := Tryd.func83.trans (congrArg some (by kernel_rfl))
  f318 := Tryd.func85.trans (congrArg some (by kernel_rfl))
  f319 := Tryd.func86.trans (congrArg some (by kernel_rfl))
  f320 := Tryd.func87.trans (congrArg some (by kernel_rfl))
  f337 := Tryd.func88.trans (congrArg some (by kernel_rfl))
  f338 := Tryd.func89.trans (congrArg some (by kernel_rfl))
  t0 := Tryd.underlying0
  a0 := Tryd.isAgg0
  z0 := Tryd.sizeOf0
  v0 := Tryd.zeroValue0
  t2 := Tryd.underlying2
  a2 := Tryd.isAgg2
  z2 := Tryd.sizeOf2
  v2 := Tryd.zeroValue2
  t3 := Tryd.underlying3
  a3 := Tryd.isAgg3
  z3 := Tryd.sizeOf3
  v3 := Tryd.zeroValue3
  t4 := Tryd.underlying4
  a4 := Tryd.isAgg4
  z4 := Tryd.sizeOf4
  v4 := Tryd.zeroValue4
  t5 := Tryd.underlying5
  a5 := Tryd.isAgg5
  z5 := Tryd.sizeOf5
  v5 := Tryd.zeroValue5
  t9 := Tryd.underlying9
  a9 := Tryd.isAgg9
  z9 := Tryd.sizeOf9
  v9 := Tryd.zeroValue9
  t20 := Tryd.underlying20
  a20 := Tryd.isAgg20
  z20 := Tryd.sizeOf20
  v20 := Tryd.zeroValue20
  t37 := Tryd.underlying102
  a37 := Tryd.isAgg102
  z37 := Tryd.sizeOf102
  v37 := Tryd.zeroValue102
  t46 := Tryd.underlying101
  a46 := Tryd.isAgg101
  z46 := Tryd.sizeOf101
  v46 := Tryd.zeroValue101
  t51 := Tryd.underlying119
  a51 := Tryd.isAgg119
  z51 := Tryd.sizeOf119
  v51 := Tryd.zeroValue119
  t53 := Tryd.underlying23
  a53 := Tryd.isAgg23
  z53 := Tryd.sizeOf23
  v53 := Tryd.zeroValue23
  t171 := Tryd.underlying111
  a171 := Tryd.isAgg111
  z171 := Tryd.sizeOf111
  v171 := Tryd.zeroValue111
  t173 := Tryd.underlying114
  a173 := Tryd.isAgg114
  z173 := Tryd.sizeOf114
  v173 := Tryd.zeroValue114
  t212 := Tryd.underlying118
  a212 := Tryd.isAgg118
  z212 := Tryd.sizeOf118
  v212 := Tryd.zeroValue118
  t213 := Tryd.underlying120
  a213 := Tryd.isAgg120
  z213 := Tryd.sizeOf120
  t232 := Tryd.underlying124
  a232 := Tryd.isAgg124
  z232 := Tryd.sizeOf124
  v232 := Tryd.zeroValue124
  t233 := Tryd.underlying125
  a233 := Tryd.isAgg125
  z233 := Tryd.sizeOf125
  v233 := Tryd.zeroValue125
  g17 := by kernel_rfl
  g18 := by kernel_rfl
  g19 := by kernel_rfl
  i0 := by kernel_rfl
  i2 := by kernel_rfl
  i3 := by kernel_rfl
  i4 := by kernel_rfl
  i5 := by kernel_rfl
  i9 := by kernel_rfl
  i20 := by kernel_rfl
  i37 := by kernel_rfl
  i46 := by kernel_rfl
  i51 := by kernel_rfl
  i53 := by kernel_rfl
  i171 := by kernel_rfl
  i173 := by kernel_rfl
  i212 := by kernel_rfl
  i232 := by kernel_rfl
  i233 := by kernel_rfl
  m17 := by kernel_rfl
  m18 := by kernel_rfl
  m19 := by kernel_rfl }
open Go.RowKit Go.Sort Go.Lib in
/-- internal/strconv.FormatInt: "FormatInt returns the string representation of i in the given base": AT BASE 10: i's decimal numeral, for every int64. The world behind the call: the world before it, new blocks behind the heap, draws. (LAID: no walk: one application.) -/
theorem Tryd.internal_strconv_FormatInt_10 (n : Int) (h0 : -9223372036854775808 ≤ n) (h1 : n ≤ 9223372036854775807) (w : World) (htab : Lib.TabIs Tryd.prog w "internal/strconv.uint64pow10" .u64 Lib.pow10Tab) :
    Calls Tryd.prog 78 #[.int .i64 n, .int .i64 10] w fun e w' => e = .returned (.string ⟨(Lib.itoa n).toArray⟩) ∧ ∃ k os, w' = grow (w.drewN k) os := Any.internal_strconv_FormatInt_10 Tryd.laysM246 n h0 h1 w htab
def Tryd.lays246_ren : Go.Shelf.Ren := ⟨fun | 246 => 78 | 283 => 79 | 284 => 80 | 285 => 81 | 286 => 82 | 129 => 84 | 317 => 83 | 318 => 85 | 319 => 86 | 320 => 87 | 337 => 88 | 338 => 89 | n => n, fun | 2 => 2 | 3 => 3 | 9 => 9 | 4 => 4 | 171 => 111 | 0 => 0 | 53 => 23 | 37 => 102 | 5 => 5 | 173 => 114 | 212 => 118 | 51 => 119 | 20 => 20 | 213 => 120 | 46 => 101 | 232 => 124 | 233 => 125 | n => n, fun | 17 => 2 | 18 => 3 | 19 => 4 | n => n⟩
theorem Tryd.lays246 : Go.Proofs.Lays.n246 Tryd.prog Tryd.lays246_ren := {
  mixed := by kernel_rfl
  f129 := Tryd.func84.trans (congrArg some (by kernel_rfl))
  f246 := Tryd.func78.trans (congrArg some (by kernel_rfl))
  f283 := Tryd.func79.trans (congrArg some (by kernel_rfl))
  f284 := Tryd.func80.trans (congrArg some (by kernel_rfl))
  f285 := Tryd.func81.trans (congrArg some (by kernel_rfl))
  f286 := Tryd.func82.trans (congrArg some (by kernel_rfl))
  f317 := Tryd.func83.trans (congrArg some (by kernel_rfl))
  f318 := Tryd.func85.trans (congrArg some (by kernel_rfl))
  f319 := Tryd.func86.trans (congrArg some (by kernel_rfl))
  f320 := Tryd.func87.trans (congrArg some (by kernel_rfl))
  f337 := Tryd.func88.trans (congrArg some (by kernel_rfl))
  f338 := Tryd.func89.trans (congrArg some (by kernel_rfl))
  t0 := Tryd.underlying0
  a0 := Tryd.isAgg0
  z0 := Tryd.sizeOf0
  v0 := Tryd.zeroValue0
  t2 := Tryd.underlying2
  a2 := Tryd.isAgg2
  z2 := Tryd.sizeOf2
  v2 := Tryd.zeroValue2
  t3 := Tryd.underlying3
  a3 := Tryd.isAgg3
  z3 := Tryd.sizeOf3
  v3 := Tryd.zeroValue3
  t4 := Tryd.underlying4
  a4 := Tryd.isAgg4
  z4 := Tryd.sizeOf4
  v4 := Tryd.zeroValue4
  t5 := Tryd.underlying5
  a5 := Tryd.isAgg5
  z5 := Tryd.sizeOf5
  v5 := Tryd.zeroValue5
  t9 := Tryd.underlying9
  a9 := Tryd.isAgg9
  z9 := Tryd.sizeOf9
  v9 := Tryd.zeroValue9
  t20 := Tryd.underlying20
  a20 := Tryd.isAgg20
  z20 := Tryd.sizeOf20
  v20 := Tryd.zeroValue20
  t37 := Tryd.underlying102
  a37 := Tryd.isAgg102
  z37 := Tryd.sizeOf102
  v37 := Tryd.zeroValue102
  t46 := Tryd.underlying101
  a46 := Tryd.isAgg101
  z46 := Tryd.sizeOf101
  v46 := Tryd.zeroValue101
  t51 := Tryd.underlying119
  a51 := Tryd.isAgg119
  z51 := Tryd.sizeOf119
  v51 := Tryd.zeroValue119
  t53 := Tryd.underlying23
  a53 := Tryd.isAgg23
  z53 := Tryd.sizeOf23
  v53 := Tryd.zeroValue23
  t171 := Tryd.underlying111
  a171 := Tryd.isAgg111
  z171 := Tryd.sizeOf111
  v171 := Tryd.zeroValue111
  t173 := Tryd.underlying114
  a173 := Tryd.isAgg114
  z173 := Tryd.sizeOf114
  v173 := Tryd.zeroValue114
  t212 := Tryd.underlying118
  a212 := Tryd.isAgg118
  z212 := Tryd.sizeOf118
  v212 := Tryd.zeroValue118
  t213 := Tryd.underlying120
  a213 := Tryd.isAgg120
  z213 := Tryd.sizeOf120
  t232 := Tryd.underlying124
  a232 := Tryd.isAgg124
  z232 := Tryd.sizeOf124
  v232 := Tryd.zeroValue124
  t233 := Tryd.underlying125
  a233 := Tryd.isAgg125
  z233 := Tryd.sizeOf125
  v233 := Tryd.zeroValue125
  g17 := by kernel_rfl
  g18 := by kernel_rfl
  g19 := by kernel_rfl }
open Go.RowKit Go.Sort Go.Lib in
/-- THE ROAD WITHOUT THE TABLE: 0 <= i < 100: two constants are read, nothing is laid: no premise on the world, and the world is as it was. (LAID: no walk: one application.) -/
theorem Tryd.internal_strconv_FormatInt_10_small (i : Nat) (hi : i < 100) (w : World) :
    Calls Tryd.prog 78 #[.int .i64 i, .int .i64 10] w fun e w' => e = .returned (.string ⟨(Lib.decDigits i).toArray⟩) ∧ w' = w := Any.internal_strconv_FormatInt_10_small Tryd.lays246 i hi w
def Tryd.laysM243_ren : Go.Shelf.Ren := ⟨fun | 243 => 77 | 246 => 78 | 283 => 79 | 284 => 80 | 285 => 81 | 286 => 82 | 129 => 84 | 317 => 83 | 318 => 85 | 319 => 86 | 320 => 87 | 337 => 88 | 338 => 89 | n => n, fun | 3 => 3 | 9 => 9 | 2 => 2 | 4 => 4 | 171 => 111 | 0 => 0 | 53 => 23 | 37 => 102 | 5 => 5 | 173 => 114 | 212 => 118 | 51 => 119 | 20 => 20 | 213 => 120 | 46 => 101 | 232 => 124 | 233 => 125 | n => n, fun | 17 => 2 | 18 => 3 | 19 => 4 | n => n⟩
theorem Tryd.laysM243 : Go.Proofs.LaysM.n243 Tryd.prog Tryd.laysM243_ren := {
  mixed := by kernel_rfl
  f129 := Tryd.func84.trans (congrArg some (by kernel_rfl))
  f243 := Tryd.func77.trans (congrArg some (by kernel_rfl))
  f246 := Tryd.func78.trans (congrArg some (by kernel_rfl))
  f283 := Tryd.func79.trans (congrArg some (by kernel_rfl))
  f284 := Tryd.func80.trans (congrArg some (by kernel_rfl))
  f285 := Tryd.func81.trans (congrArg some (by kernel_rfl))
  f286 := Tryd.func82.trans (congrArg some (by kernel_rfl))
  f317 := Tryd.func83.trans (congrArg some (by kernel_rfl))
  f318 := Tryd.func85.trans (congrArg some (by kernel_rfl))
  f319 := Tryd.func86.trans (congrArg some (by kernel_rfl))
  f320 := Tryd.func87.trans (congrArg some (by kernel_rfl))
  f337 := Tryd.func88.trans (congrArg some (by kernel_rfl))
  f338 := Tryd.func89.trans (congrArg some (by kernel_rfl))
  t0 := Tryd.underlying0
  a0 := Tryd.isAgg0
  z0 := Tryd.sizeOf0
  v0 := Tryd.zeroValue0
  t2 := Tryd.underlying2
  a2 := Tryd.isAgg2
  z2 := Tryd.sizeOf2
  v2 := Tryd.zeroValue2
  t3 := Tryd.underlying3
  a3 := Tryd.isAgg3
  z3 := Tryd.sizeOf3
  v3 := Tryd.zeroValue3
  t4 := Tryd.underlying4
  a4 := Tryd.isAgg4
  z4 := Tryd.sizeOf4
  v4 := Tryd.zeroValue4
  t5 := Tryd.underlying5
  a5 := Tryd.isAgg5
  z5 := Tryd.sizeOf5
  v5 := Tryd.zeroValue5
  t9 := Tryd.underlying9
  a9 := Tryd.isAgg9
  z9 := Tryd.sizeOf9
  v9 := Tryd.zeroValue9
  t20 := Tryd.underlying20
  a20 := Tryd.isAgg20
  z20 := Tryd.sizeOf20
  v20 := Tryd.zeroValue20
  t37 := Tryd.underlying102
  a37 := Tryd.isAgg102
  z37 := Tryd.sizeOf102
  v37 := Tryd.zeroValue102
  t46 := Tryd.underlying101
  a46 := Tryd.isAgg101
  z46 := Tryd.sizeOf101
  v46 := Tryd.zeroValue101
  t51 := Tryd.underlying119
  a51 := Tryd.isAgg119
  z51 := Tryd.sizeOf119
  v51 := Tryd.zeroValue119
  t53 := Tryd.underlying23
  a53 := Tryd.isAgg23
  z53 := Tryd.sizeOf23
  v53 := Tryd.zeroValue23
  t171 := Tryd.underlying111
  a171 := Tryd.isAgg111
  z171 := Tryd.sizeOf111
  v171 := Tryd.zeroValue111
  t173 := Tryd.underlying114
  a173 := Tryd.isAgg114
  z173 := Tryd.sizeOf114
  v173 := Tryd.zeroValue114
  t212 := Tryd.underlying118
  a212 := Tryd.isAgg118
  z212 := Tryd.sizeOf118
  v212 := Tryd.zeroValue118
  t213 := Tryd.underlying120
  a213 := Tryd.isAgg120
  z213 := Tryd.sizeOf120
  t232 := Tryd.underlying124
  a232 := Tryd.isAgg124
  z232 := Tryd.sizeOf124
  v232 := Tryd.zeroValue124
  t233 := Tryd.underlying125
  a233 := Tryd.isAgg125
  z233 := Tryd.sizeOf125
  v233 := Tryd.zeroValue125
  g17 := by kernel_rfl
  g18 := by kernel_rfl
  g19 := by kernel_rfl
  i0 := by kernel_rfl
  i2 := by kernel_rfl
  i3 := by kernel_rfl
  i4 := by kernel_rfl
  i5 := by kernel_rfl
  i9 := by kernel_rfl
  i20 := by kernel_rfl
  i37 := by kernel_rfl
  i46 := by kernel_rfl
  i51 := by kernel_rfl
  i53 := by kernel_rfl
  i171 := by kernel_rfl
  i173 := by kernel_rfl
  i212 := by kernel_rfl
  i232 := by kernel_rfl
  i233 := by kernel_rfl
  m17 := by kernel_rfl
  m18 := by kernel_rfl
  m19 := by kernel_rfl }
open Go.RowKit Go.Sort Go.Lib in
/-- internal/strconv.Itoa: "Itoa is equivalent to FormatInt(int64(i), 10).": i's decimal numeral, for every int. (LAID: no walk: one application.) -/
theorem Tryd.internal_strconv_Itoa (n : Int) (h0 : -9223372036854775808 ≤ n) (h1 : n ≤ 9223372036854775807) (w : World) (htab : Lib.TabIs Tryd.prog w "internal/strconv.uint64pow10" .u64 Lib.pow10Tab) :
    Calls Tryd.prog 77 #[.int .i64 n] w fun e w' => e = .returned (.string ⟨(Lib.itoa n).toArray⟩) ∧ ∃ k os, w' = grow (w.drewN k) os := Any.internal_strconv_Itoa Tryd.laysM243 n h0 h1 w htab
def Tryd.lays243_ren : Go.Shelf.Ren := ⟨fun | 243 => 77 | 246 => 78 | 283 => 79 | 284 => 80 | 285 => 81 | 286 => 82 | 129 => 84 | 317 => 83 | 318 => 85 | 319 => 86 | 320 => 87 | 337 => 88 | 338 => 89 | n => n, fun | 3 => 3 | 9 => 9 | 2 => 2 | 4 => 4 | 171 => 111 | 0 => 0 | 53 => 23 | 37 => 102 | 5 => 5 | 173 => 114 | 212 => 118 | 51 => 119 | 20 => 20 | 213 => 120 | 46 => 101 | 232 => 124 | 233 => 125 | n => n, fun | 17 => 2 | 18 => 3 | 19 => 4 | n => n⟩
theorem Tryd.lays243 : Go.Proofs.Lays.n243 Tryd.prog Tryd.lays243_ren := {
  mixed := by kernel_rfl
  f129 := Tryd.func84.trans (congrArg some (by kernel_rfl))
  f243 := Tryd.func77.trans (congrArg some (by kernel_rfl))
  f246 := Tryd.func78.trans (congrArg some (by kernel_rfl))
  f283 := Tryd.func79.trans (congrArg some (by kernel_rfl))
  f284 := Tryd.func80.trans (congrArg some (by kernel_rfl))
  f285 := Tryd.func81.trans (congrArg some (by kernel_rfl))
  f286 := Tryd.func82.trans (congrArg some (by kernel_rfl))
  f317 := Tryd.func83.trans (congrArg some (by kernel_rfl))
  f318 := Tryd.func85.trans (congrArg some (by kernel_rfl))
  f319 := Tryd.func86.trans (congrArg some (by kernel_rfl))
  f320 := Tryd.func87.trans (congrArg some (by kernel_rfl))
  f337 := Tryd.func88.trans (congrArg some (by kernel_rfl))
  f338 := Tryd.func89.trans (congrArg some (by kernel_rfl))
  t0 := Tryd.underlying0
  a0 := Tryd.isAgg0
  z0 := Tryd.sizeOf0
  v0 := Tryd.zeroValue0
  t2 := Tryd.underlying2
  a2 := Tryd.isAgg2
  z2 := Tryd.sizeOf2
  v2 := Tryd.zeroValue2
  t3 := Tryd.underlying3
  a3 := Tryd.isAgg3
  z3 := Tryd.sizeOf3
  v3 := Tryd.zeroValue3
  t4 := Tryd.underlying4
  a4 := Tryd.isAgg4
  z4 := Tryd.sizeOf4
  v4 := Tryd.zeroValue4
  t5 := Tryd.underlying5
  a5 := Tryd.isAgg5
  z5 := Tryd.sizeOf5
  v5 := Tryd.zeroValue5
  t9 := Tryd.underlying9
  a9 := Tryd.isAgg9
  z9 := Tryd.sizeOf9
  v9 := Tryd.zeroValue9
  t20 := Tryd.underlying20
  a20 := Tryd.isAgg20
  z20 := Tryd.sizeOf20
  v20 := Tryd.zeroValue20
  t37 := Tryd.underlying102
  a37 := Tryd.isAgg102
  z37 := Tryd.sizeOf102
  v37 := Tryd.zeroValue102
  t46 := Tryd.underlying101
  a46 := Tryd.isAgg101
  z46 := Tryd.sizeOf101
  v46 := Tryd.zeroValue101
  t51 := Tryd.underlying119
  a51 := Tryd.isAgg119
  z51 := Tryd.sizeOf119
  v51 := Tryd.zeroValue119
  t53 := Tryd.underlying23
  a53 := Tryd.isAgg23
  z53 := Tryd.sizeOf23
  v53 := Tryd.zeroValue23
  t171 := Tryd.underlying111
  a171 := Tryd.isAgg111
  z171 := Tryd.sizeOf111
  v171 := Tryd.zeroValue111
  t173 := Tryd.underlying114
  a173 := Tryd.isAgg114
  z173 := Tryd.sizeOf114
  v173 := Tryd.zeroValue114
  t212 := Tryd.underlying118
  a212 := Tryd.isAgg118
  z212 := Tryd.sizeOf118
  v212 := Tryd.zeroValue118
  t213 := Tryd.underlying120
  a213 := Tryd.isAgg120
  z213 := Tryd.sizeOf120
  t232 := Tryd.underlying124
  a232 := Tryd.isAgg124
  z232 := Tryd.sizeOf124
  v232 := Tryd.zeroValue124
  t233 := Tryd.underlying125
  a233 := Tryd.isAgg125
  z233 := Tryd.sizeOf125
  v233 := Tryd.zeroValue125
  g17 := by kernel_rfl
  g18 := by kernel_rfl
  g19 := by kernel_rfl }
open Go.RowKit Go.Sort Go.Lib in
/-- THE ROAD WITHOUT THE TABLE: 0 <= i < 100. (LAID: no walk: one application.) -/
theorem Tryd.internal_strconv_Itoa_small (i : Nat) (hi : i < 100) (w : World) :
    Calls Tryd.prog 77 #[.int .i64 i] w fun e w' => e = .returned (.string ⟨(Lib.decDigits i).toArray⟩) ∧ w' = w := Any.internal_strconv_Itoa_small Tryd.lays243 i hi w
def Tryd.laysM171_ren : Go.Shelf.Ren := ⟨fun | 171 => 76 | 243 => 77 | 246 => 78 | 283 => 79 | 284 => 80 | 285 => 81 | 286 => 82 | 129 => 84 | 317 => 83 | 318 => 85 | 319 => 86 | 320 => 87 | 337 => 88 | 338 => 89 | n => n, fun | 3 => 3 | 9 => 9 | 2 => 2 | 4 => 4 | 171 => 111 | 0 => 0 | 53 => 23 | 37 => 102 | 5 => 5 | 173 => 114 | 212 => 118 | 51 => 119 | 20 => 20 | 213 => 120 | 46 => 101 | 232 => 124 | 233 => 125 | n => n, fun | 17 => 2 | 18 => 3 | 19 => 4 | n => n⟩
theorem Tryd.laysM171 : Go.Proofs.LaysM.n171 Tryd.prog Tryd.laysM171_ren := {
  mixed := by kernel_rfl
  f129 := Tryd.func84.trans (congrArg some (by kernel_rfl))
  f171 := Tryd.func76.trans (congrArg some (by kernel_rfl))
  f243 := Tryd.func77.trans (congrArg some (by kernel_rfl))
  f246 := Tryd.func78.trans (congrArg some (by kernel_rfl))
  f283 := Tryd.func79.trans (congrArg some (by kernel_rfl))
  f284 := Tryd.func80.trans (congrArg some (by kernel_rfl))
  f285 := Tryd.func81.trans (congrArg some (by kernel_rfl))
  f286 := Tryd.func82.trans (congrArg some (by kernel_rfl))
  f317 := Tryd.func83.trans (congrArg some (by kernel_rfl))
  f318 := Tryd.func85.trans (congrArg some (by kernel_rfl))
  f319 := Tryd.func86.trans (congrArg some (by kernel_rfl))
  f320 := Tryd.func87.trans (congrArg some (by kernel_rfl))
  f337 := Tryd.func88.trans (congrArg some (by kernel_rfl))
  f338 := Tryd.func89.trans (congrArg some (by kernel_rfl))
  t0 := Tryd.underlying0
  a0 := Tryd.isAgg0
  z0 := Tryd.sizeOf0
  v0 := Tryd.zeroValue0
  t2 := Tryd.underlying2
  a2 := Tryd.isAgg2
  z2 := Tryd.sizeOf2
  v2 := Tryd.zeroValue2
  t3 := Tryd.underlying3
  a3 := Tryd.isAgg3
  z3 := Tryd.sizeOf3
  v3 := Tryd.zeroValue3
  t4 := Tryd.underlying4
  a4 := Tryd.isAgg4
  z4 := Tryd.sizeOf4
  v4 := Tryd.zeroValue4
  t5 := Tryd.underlying5
  a5 := Tryd.isAgg5
  z5 := Tryd.sizeOf5
  v5 := Tryd.zeroValue5
  t9 := Tryd.underlying9
  a9 := Tryd.isAgg9
  z9 := Tryd.sizeOf9
  v9 := Tryd.zeroValue9
  t20 := Tryd.underlying20
  a20 := Tryd.isAgg20
  z20 := Tryd.sizeOf20
  v20 := Tryd.zeroValue20
  t37 := Tryd.underlying102
  a37 := Tryd.isAgg102
  z37 := Tryd.sizeOf102
  v37 := Tryd.zeroValue102
  t46 := Tryd.underlying101
  a46 := Tryd.isAgg101
  z46 := Tryd.sizeOf101
  v46 := Tryd.zeroValue101
  t51 := Tryd.underlying119
  a51 := Tryd.isAgg119
  z51 := Tryd.sizeOf119
  v51 := Tryd.zeroValue119
  t53 := Tryd.underlying23
  a53 := Tryd.isAgg23
  z53 := Tryd.sizeOf23
  v53 := Tryd.zeroValue23
  t171 := Tryd.underlying111
  a171 := Tryd.isAgg111
  z171 := Tryd.sizeOf111
  v171 := Tryd.zeroValue111
  t173 := Tryd.underlying114
  a173 := Tryd.isAgg114
  z173 := Tryd.sizeOf114
  v173 := Tryd.zeroValue114
  t212 := Tryd.underlying118
  a212 := Tryd.isAgg118
  z212 := Tryd.sizeOf118
  v212 := Tryd.zeroValue118
  t213 := Tryd.underlying120
  a213 := Tryd.isAgg120
  z213 := Tryd.sizeOf120
  t232 := Tryd.underlying124
  a232 := Tryd.isAgg124
  z232 := Tryd.sizeOf124
  v232 := Tryd.zeroValue124
  t233 := Tryd.underlying125
  a233 := Tryd.isAgg125
  z233 := Tryd.sizeOf125
  v233 := Tryd.zeroValue125
  g17 := by kernel_rfl
  g18 := by kernel_rfl
  g19 := by kernel_rfl
  i0 := by kernel_rfl
  i2 := by kernel_rfl
  i3 := by kernel_rfl
  i4 := by kernel_rfl
  i5 := by kernel_rfl
  i9 := by kernel_rfl
  i20 := by kernel_rfl
  i37 := by kernel_rfl
  i46 := by kernel_rfl
  i51 := by kernel_rfl
  i53 := by kernel_rfl
  i171 := by kernel_rfl
  i173 := by kernel_rfl
  i212 := by kernel_rfl
  i232 := by kernel_rfl
  i233 := by kernel_rfl
  m17 := by kernel_rfl
  m18 := by kernel_rfl
  m19 := by kernel_rfl }
open Go.RowKit Go.Sort Go.Lib in
/-- strconv.Itoa: "Itoa is equivalent to FormatInt(int64(i), 10).": i's DECIMAL NUMERAL ('Lib.itoa': a '-' where i is negative, then the digits), FOR EVERY int. The world behind the call: the world before it, new blocks behind the heap (the library's 'var a [24]byte'), draws. (LAID: no walk: one application.) -/
theorem Tryd.strconv_Itoa (n : Int) (h0 : -9223372036854775808 ≤ n) (h1 : n ≤ 9223372036854775807) (w : World) (htab : Lib.TabIs Tryd.prog w "internal/strconv.uint64pow10" .u64 Lib.pow10Tab) :
    Calls Tryd.prog 76 #[.int .i64 n] w fun e w' => e = .returned (.string ⟨(Lib.itoa n).toArray⟩) ∧ ∃ k os, w' = grow (w.drewN k) os := Any.strconv_Itoa Tryd.laysM171 n h0 h1 w htab
def Tryd.lays171_ren : Go.Shelf.Ren := ⟨fun | 171 => 76 | 243 => 77 | 246 => 78 | 283 => 79 | 284 => 80 | 285 => 81 | 286 => 82 | 129 => 84 | 317 => 83 | 318 => 85 | 319 => 86 | 320 => 87 | 337 => 88 | 338 => 89 | n => n, fun | 3 => 3 | 9 => 9 | 2 => 2 | 4 => 4 | 171 => 111 | 0 => 0 | 53 => 23 | 37 => 102 | 5 => 5 | 173 => 114 | 212 => 118 | 51 => 119 | 20 => 20 | 213 => 120 | 46 => 101 | 232 => 124 | 233 => 125 | n => n, fun | 17 => 2 | 18 => 3 | 19 => 4 | n => n⟩
theorem Tryd.lays171 : Go.Proofs.Lays.n171 Tryd.prog Tryd.lays171_ren := {
  mixed := by kernel_rfl
  f129 := Tryd.func84.trans (congrArg some (by kernel_rfl))
  f171 := Tryd.func76.trans (congrArg some (by kernel_rfl))
  f243 := Tryd.func77.trans (congrArg some (by kernel_rfl))
  f246 := Tryd.func78.trans (congrArg some (by kernel_rfl))
  f283 := Tryd.func79.trans (congrArg some (by kernel_rfl))
  f284 := Tryd.func80.trans (congrArg some (by kernel_rfl))
  f285 := Tryd.func81.trans (congrArg some (by kernel_rfl))
  f286 := Tryd.func82.trans (congrArg some (by kernel_rfl))
  f317 := Tryd.func83.trans (congrArg some (by kernel_rfl))
  f318 := Tryd.func85.trans (congrArg some (by kernel_rfl))
  f319 := Tryd.func86.trans (congrArg some (by kernel_rfl))
  f320 := Tryd.func87.trans (congrArg some (by kernel_rfl))
  f337 := Tryd.func88.trans (congrArg some (by kernel_rfl))
  f338 := Tryd.func89.trans (congrArg some (by kernel_rfl))
  t0 := Tryd.underlying0
  a0 := Tryd.isAgg0
  z0 := Tryd.sizeOf0
  v0 := Tryd.zeroValue0
  t2 := Tryd.underlying2
  a2 := Tryd.isAgg2
  z2 := Tryd.sizeOf2
  v2 := Tryd.zeroValue2
  t3 := Tryd.underlying3
  a3 := Tryd.isAgg3
  z3 := Tryd.sizeOf3
  v3 := Tryd.zeroValue3
  t4 := Tryd.underlying4
  a4 := Tryd.isAgg4
  z4 := Tryd.sizeOf4
  v4 := Tryd.zeroValue4
  t5 := Tryd.underlying5
  a5 := Tryd.isAgg5
  z5 := Tryd.sizeOf5
  v5 := Tryd.zeroValue5
  t9 := Tryd.underlying9
  a9 := Tryd.isAgg9
  z9 := Tryd.sizeOf9
  v9 := Tryd.zeroValue9
  t20 := Tryd.underlying20
  a20 := Tryd.isAgg20
  z20 := Tryd.sizeOf20
  v20 := Tryd.zeroValue20
  t37 := Tryd.underlying102
  a37 := Tryd.isAgg102
  z37 := Tryd.sizeOf102
  v37 := Tryd.zeroValue102
  t46 := Tryd.underlying101
  a46 := Tryd.isAgg101
  z46 := Tryd.sizeOf101
  v46 := Tryd.zeroValue101
  t51 := Tryd.underlying119
  a51 := Tryd.isAgg119
  z51 := Tryd.sizeOf119
  v51 := Tryd.zeroValue119
  t53 := Tryd.underlying23
  a53 := Tryd.isAgg23
  z53 := Tryd.sizeOf23
  v53 := Tryd.zeroValue23
  t171 := Tryd.underlying111
  a171 := Tryd.isAgg111
  z171 := Tryd.sizeOf111
  v171 := Tryd.zeroValue111
  t173 := Tryd.underlying114
  a173 := Tryd.isAgg114
  z173 := Tryd.sizeOf114
  v173 := Tryd.zeroValue114
  t212 := Tryd.underlying118
  a212 := Tryd.isAgg118
  z212 := Tryd.sizeOf118
  v212 := Tryd.zeroValue118
  t213 := Tryd.underlying120
  a213 := Tryd.isAgg120
  z213 := Tryd.sizeOf120
  t232 := Tryd.underlying124
  a232 := Tryd.isAgg124
  z232 := Tryd.sizeOf124
  v232 := Tryd.zeroValue124
  t233 := Tryd.underlying125
  a233 := Tryd.isAgg125
  z233 := Tryd.sizeOf125
  v233 := Tryd.zeroValue125
  g17 := by kernel_rfl
  g18 := by kernel_rfl
  g19 := by kernel_rfl }
open Go.RowKit Go.Sort Go.Lib in
/-- THE ROAD WITHOUT THE TABLE: 0 <= i < 100: NO PREMISE ON THE WORLD, AND THE WORLD IS AS IT WAS: a row that keeps its argument in that range need list no table ('laid = []'). (LAID: no walk: one application.) -/
theorem Tryd.strconv_Itoa_small (i : Nat) (hi : i < 100) (w : World) :
    Calls Tryd.prog 76 #[.int .i64 i] w fun e w' => e = .returned (.string ⟨(Lib.decDigits i).toArray⟩) ∧ w' = w := Any.strconv_Itoa_small Tryd.lays171 i hi w
def Tryd.laysPu14_ren : Go.Shelf.Ren := ⟨fun | 14 => 66 | 16 => 67 | 17 => 68 | 19 => 69 | 20 => 70 | 21 => 71 | 22 => 72 | 23 => 73 | 24 => 74 | 25 => 75 | 27 => 76 | 26 => 54 | 28 => 77 | 29 => 78 | 30 => 79 | 31 => 80 | 32 => 81 | 33 => 82 | 35 => 84 | 34 => 83 | 36 => 85 | 37 => 86 | 38 => 87 | 39 => 88 | 40 => 89 | n => n, fun | 9 => 9 | 3 => 3 | 22 => 23 | 24 => 70 | 25 => 96 | 4 => 4 | 34 => 99 | 5 => 5 | 36 => 101 | 37 => 102 | 0 => 0 | 39 => 103 | 21 => 21 | 44 => 108 | 47 => 109 | 50 => 93 | 48 => 91 | 2 => 2 | 52 => 111 | 55 => 114 | 59 => 118 | 60 => 119 | 20 => 20 | 61 => 120 | 65 => 124 | 66 => 125 | 67 => 85 | n => n, fun | 0 => 0 | 1 => 1 | 2 => 2 | 3 => 3 | 4 => 4 | n => n⟩
theorem Tryd.laysPu14 : Go.Proofs.LaysPu.n14 Tryd.prog Tryd.laysPu14_ren := {
  mixed := by kernel_rfl
  f14 := Tryd.func66.trans (congrArg some (by kernel_rfl))
  f16 := Tryd.func67.trans (congrArg some (by kernel_rfl))
  f17 := Tryd.func68.trans (congrArg some (by kernel_rfl))
  f19 := Tryd.func69.trans (congrArg some (by kernel_rfl))
  f20 := Tryd.func70.trans (congrArg some (by kernel_rfl))
  f21 := Tryd.func71.trans (congrArg some (by kernel_rfl))
  f22 := Tryd.func72.trans (congrArg some (by kernel_rfl))
  f23 := Tryd.func73.trans (congrArg some (by kernel_rfl))
  f24 := Tryd.func74.trans (congrArg some (by kernel_rfl))
  f25 := Tryd.func75.trans (congrArg some (by kernel_rfl))
  f26 := Tryd.func54.trans (congrArg some (by kernel_rfl))
  f27 := Tryd.func76.trans (congrArg some (by kernel_rfl))
  f28 := Tryd.func77.trans (congrArg some (by kernel_rfl))
  f29 := Tryd.func78.trans (congrArg some (by kernel_rfl))
  f30 := Tryd.func79.trans (congrArg some (by kernel_rfl))
  f31 := Tryd.func80.trans (congrArg some (by kernel_rfl))
  f32 := Tryd.func81.trans (congrArg some (by kernel_rfl))
  f33 := Tryd.func82.trans (congrArg some (by kernel_rfl))
  f34 := Tryd.func83.trans (congrArg some (by kernel_rfl))
  f35 := Tryd.func84.trans (congrArg some (by kernel_rfl))
  f36 := Tryd.func85.trans (congrArg some (by kernel_rfl))
  f37 := Tryd.func86.trans (congrArg some (by kernel_rfl))
  f38 := Tryd.func87.trans (congrArg some (by kernel_rfl))
  f39 := Tryd.func88.trans (congrArg some (by kernel_rfl))
  f40 := Tryd.func89.trans (congrArg some (by kernel_rfl))
  t0 := Tryd.underlying0
  a0 := Tryd.isAgg0
  z0 := Tryd.sizeOf0
  v0 := Tryd.zeroValue0
  i0 := by kernel_rfl
  t2 := Tryd.underlying2
  a2 := Tryd.isAgg2
  z2 := Tryd.sizeOf2
  v2 := Tryd.zeroValue2
  i2 := by kernel_rfl
  t3 := Tryd.underlying3
  a3 := Tryd.isAgg3
  z3 := Tryd.sizeOf3
  v3 := Tryd.zeroValue3
  i3 := by kernel_rfl
  t4 := Tryd.underlying4
  a4 := Tryd.isAgg4
  z4 := Tryd.sizeOf4
  v4 := Tryd.zeroValue4
  i4 := by kernel_rfl
  t5 := Tryd.underlying5
  a5 := Tryd.isAgg5
  z5 := Tryd.sizeOf5
  v5 := Tryd.zeroValue5
  i5 := by kernel_rfl
  t9 := Tryd.underlying9
  a9 := Tryd.isAgg9
  z9 := Tryd.sizeOf9
  v9 := Tryd.zeroValue9
  i9 := by kernel_rfl
  t20 := Tryd.underlying20
  a20 := Tryd.isAgg20
  z20 := Tryd.sizeOf20
  v20 := Tryd.zeroValue20
  i20 := by kernel_rfl
  t21 := Tryd.underlying21
  a21 := Tryd.isAgg21
  z21 := Tryd.sizeOf21
  v21 := Tryd.zeroValue21
  i21 := by kernel_rfl
  t22 := Tryd.underlying23
  a22 := Tryd.isAgg23
  z22 := Tryd.sizeOf23
  v22 := Tryd.zeroValue23
  i22 := by kernel_rfl
  t24 := Tryd.underlying70
  a24 := Tryd.isAgg70
  z24 := Tryd.sizeOf70
  v24 := Tryd.zeroValue70
  i24 := by kernel_rfl
  t25 := Tryd.underlying96
  a25 := Tryd.isAgg96
  z25 := Tryd.sizeOf96
  v25 := Tryd.zeroValue96
  i25 := by kernel_rfl
  t34 := Tryd.underlying99
  a34 := Tryd.isAgg99
  z34 := Tryd.sizeOf99
  v34 := Tryd.zeroValue99
  i34 := by kernel_rfl
  c34 := by kernel_rfl
  t36 := Tryd.underlying101
  a36 := Tryd.isAgg101
  z36 := Tryd.sizeOf101
  v36 := Tryd.zeroValue101
  i36 := by kernel_rfl
  t37 := Tryd.underlying102
  a37 := Tryd.isAgg102
  z37 := Tryd.sizeOf102
  v37 := Tryd.zeroValue102
  i37 := by kernel_rfl
  t39 := Tryd.underlying103
  a39 := Tryd.isAgg103
  z39 := Tryd.sizeOf103
  v39 := Tryd.zeroValue103
  i39 := by kernel_rfl
  t44 := Tryd.underlying108
  a44 := Tryd.isAgg108
  z44 := Tryd.sizeOf108
  v44 := Tryd.zeroValue108
  i44 := by kernel_rfl
  t47 := Tryd.underlying109
  a47 := Tryd.isAgg109
  z47 := Tryd.sizeOf109
  v47 := Tryd.zeroValue109
  i47 := by kernel_rfl
  t48 := Tryd.underlying91
  a48 := Tryd.isAgg91
  z48 := Tryd.sizeOf91
  v48 := Tryd.zeroValue91
  i48 := by kernel_rfl
  t50 := Tryd.underlying93
  a50 := Tryd.isAgg93
  z50 := Tryd.sizeOf93
  v50 := Tryd.zeroValue93
  i50 := by kernel_rfl
  t52 := Tryd.underlying111
  a52 := Tryd.isAgg111
  z52 := Tryd.sizeOf111
  v52 := Tryd.zeroValue111
  i52 := by kernel_rfl
  t55 := Tryd.underlying114
  a55 := Tryd.isAgg114
  z55 := Tryd.sizeOf114
  v55 := Tryd.zeroValue114
  i55 := by kernel_rfl
  t59 := Tryd.underlying118
  a59 := Tryd.isAgg118
  z59 := Tryd.sizeOf118
  v59 := Tryd.zeroValue118
  i59 := by kernel_rfl
  t60 := Tryd.underlying119
  a60 := Tryd.isAgg119
  z60 := Tryd.sizeOf119
  v60 := Tryd.zeroValue119
  i60 := by kernel_rfl
  t61 := Tryd.underlying120
  a61 := Tryd.isAgg120
  z61 := Tryd.sizeOf120
  t65 := Tryd.underlying124
  a65 := Tryd.isAgg124
  z65 := Tryd.sizeOf124
  v65 := Tryd.zeroValue124
  i65 := by kernel_rfl
  t66 := Tryd.underlying125
  a66 := Tryd.isAgg125
  z66 := Tryd.sizeOf125
  v66 := Tryd.zeroValue125
  i66 := by kernel_rfl
  t67 := Tryd.underlying85
  a67 := Tryd.isAgg85
  z67 := Tryd.sizeOf85
  v67 := Tryd.zeroValue85
  i67 := by kernel_rfl
  g0 := by kernel_rfl
  m0 := by kernel_rfl
  g1 := by kernel_rfl
  m1 := by kernel_rfl
  g2 := by kernel_rfl
  m2 := by kernel_rfl
  g3 := by kernel_rfl
  m3 := by kernel_rfl
  g4 := by kernel_rfl
  m4 := by kernel_rfl }
open Go.RowKit in
/-- strconv.ParseUint(s, 10, 0), AT EVERY STRING THAT SPELLS A uint64 ('Lib.parseUintB 64 s.data.toList = .ok u'): u, AND NO ERROR. (LAID: no walk: one application.) -/
theorem Tryd.strconv_ParseUint_10_at0_ok (s : ByteArray) (hmax : s.size ≤ 9223372036854775806) (u : Nat) (h : Lib.parseUintB 64 s.data.toList = .ok u) (w : World) :
    Calls Tryd.prog 66 #[.string s, .int .i64 10, .int .i64 0] w fun e w' => e = .returned (.tuple #[.int .u64 u, .nilIface]) ∧ (w' = w ∨ w' = Lib.bytesWorld w 5 s) := Any.strconv_ParseUint_10_at0_ok Tryd.laysPu14 s hmax u h w
open Go.RowKit in
/-- strconv.ParseUint(s, 10, 0), AT EVERY NUMERAL THAT NO uint64 HOLDS: THE GREATEST uint64, AND AN ERROR THAT IS NOT nil: a *NumError in a new block N: {Func: "ParseUint", Num: s's bytes, Err: what the variable ErrRange holds}. Of what was there nothing has turned. (LAID: no walk: one application.) -/
theorem Tryd.strconv_ParseUint_10_at0_range (s : ByteArray) (hlim : s.size ≤ 281474976710656) (h : Lib.parseUintB 64 s.data.toList = .range) (ev : Value) (w : World) (hv : w.cell? ⟨1, 0, none⟩ = some ev) (hev : ev = .nilIface ∨ ∃ te pe, ev = .iface te pe) :
    Calls Tryd.prog 66 #[.string s, .int .i64 10, .int .i64 0] w fun e w' => ∃ N, e = .returned (.tuple #[.int .u64 18446744073709551615, .iface 103 (.pointer (some ⟨N, 0, none⟩))]) ∧ w.heap.size ≤ N ∧ w'.heap[N]? = some (.cells #[.string ⟨#[80, 97, 114, 115, 101, 85, 105, 110, 116]⟩, .string s, ev] 108 (0, 0)) ∧ Below w.heap.size w w' := Any.strconv_ParseUint_10_at0_range Tryd.laysPu14 s hlim h ev w hv hev
open Go.RowKit in
/-- strconv.ParseUint(s, 10, 64), AT EVERY STRING THAT SPELLS A uint64 ('Lib.parseUintB 64 s.data.toList = .ok u'): u, AND NO ERROR. (LAID: no walk: one application.) -/
theorem Tryd.strconv_ParseUint_10_at64_ok (s : ByteArray) (hmax : s.size ≤ 9223372036854775806) (u : Nat) (h : Lib.parseUintB 64 s.data.toList = .ok u) (w : World) :
    Calls Tryd.prog 66 #[.string s, .int .i64 10, .int .i64 64] w fun e w' => e = .returned (.tuple #[.int .u64 u, .nilIface]) ∧ (w' = w ∨ w' = Lib.bytesWorld w 5 s) := Any.strconv_ParseUint_10_at64_ok Tryd.laysPu14 s hmax u h w
open Go.RowKit in
/-- strconv.ParseUint(s, 10, 64), AT EVERY NUMERAL THAT NO uint64 HOLDS: THE GREATEST uint64, AND AN ERROR THAT IS NOT nil: a *NumError in a new block N: {Func: "ParseUint", Num: s's bytes, Err: what the variable ErrRange holds}. Of what was there nothing has turned. (LAID: no walk: one application.) -/
theorem Tryd.strconv_ParseUint_10_at64_range (s : ByteArray) (hlim : s.size ≤ 281474976710656) (h : Lib.parseUintB 64 s.data.toList = .range) (ev : Value) (w : World) (hv : w.cell? ⟨1, 0, none⟩ = some ev) (hev : ev = .nilIface ∨ ∃ te pe, ev = .iface te pe) :
    Calls Tryd.prog 66 #[.string s, .int .i64 10, .int .i64 64] w fun e w' => ∃ N, e = .returned (.tuple #[.int .u64 18446744073709551615, .iface 103 (.pointer (some ⟨N, 0, none⟩))]) ∧ w.heap.size ≤ N ∧ w'.heap[N]? = some (.cells #[.string ⟨#[80, 97, 114, 115, 101, 85, 105, 110, 116]⟩, .string s, ev] 108 (0, 0)) ∧ Below w.heap.size w w' := Any.strconv_ParseUint_10_at64_range Tryd.laysPu14 s hlim h ev w hv hev
open Go.RowKit in
/-- strconv.ParseUint(s, 10, 32), AT EVERY STRING THAT SPELLS A uint32 ('Lib.parseUintB 32 s.data.toList = .ok u'): u, AND NO ERROR. (LAID: no walk: one application.) -/
theorem Tryd.strconv_ParseUint_10_at32_ok (s : ByteArray) (hmax : s.size ≤ 9223372036854775806) (u : Nat) (h : Lib.parseUintB 32 s.data.toList = .ok u) (w : World) :
    Calls Tryd.prog 66 #[.string s, .int .i64 10, .int .i64 32] w fun e w' => e = .returned (.tuple #[.int .u64 u, .nilIface]) ∧ (w' = w ∨ w' = Lib.bytesWorld w 5 s) := Any.strconv_ParseUint_10_at32_ok Tryd.laysPu14 s hmax u h w
open Go.RowKit in
/-- strconv.ParseUint(s, 10, 32), AT EVERY NUMERAL THAT NO uint32 HOLDS: THE GREATEST uint32, AND AN ERROR THAT IS NOT nil: a *NumError in a new block N: {Func: "ParseUint", Num: s's bytes, Err: what the variable ErrRange holds}. Of what was there nothing has turned. (LAID: no walk: one application.) -/
theorem Tryd.strconv_ParseUint_10_at32_range (s : ByteArray) (hlim : s.size ≤ 281474976710656) (h : Lib.parseUintB 32 s.data.toList = .range) (ev : Value) (w : World) (hv : w.cell? ⟨1, 0, none⟩ = some ev) (hev : ev = .nilIface ∨ ∃ te pe, ev = .iface te pe) :
    Calls Tryd.prog 66 #[.string s, .int .i64 10, .int .i64 32] w fun e w' => ∃ N, e = .returned (.tuple #[.int .u64 4294967295, .iface 103 (.pointer (some ⟨N, 0, none⟩))]) ∧ w.heap.size ≤ N ∧ w'.heap[N]? = some (.cells #[.string ⟨#[80, 97, 114, 115, 101, 85, 105, 110, 116]⟩, .string s, ev] 108 (0, 0)) ∧ Below w.heap.size w w' := Any.strconv_ParseUint_10_at32_range Tryd.laysPu14 s hlim h ev w hv hev
open Go.RowKit in
/-- strconv.ParseUint(s, 10, 16), AT EVERY STRING THAT SPELLS A uint16 ('Lib.parseUintB 16 s.data.toList = .ok u'): u, AND NO ERROR. (LAID: no walk: one application.) -/
theorem Tryd.strconv_ParseUint_10_at16_ok (s : ByteArray) (hmax : s.size ≤ 9223372036854775806) (u : Nat) (h : Lib.parseUintB 16 s.data.toList = .ok u) (w : World) :
    Calls Tryd.prog 66 #[.string s, .int .i64 10, .int .i64 16] w fun e w' => e = .returned (.tuple #[.int .u64 u, .nilIface]) ∧ (w' = w ∨ w' = Lib.bytesWorld w 5 s) := Any.strconv_ParseUint_10_at16_ok Tryd.laysPu14 s hmax u h w
open Go.RowKit in
/-- strconv.ParseUint(s, 10, 16), AT EVERY NUMERAL THAT NO uint16 HOLDS: THE GREATEST uint16, AND AN ERROR THAT IS NOT nil: a *NumError in a new block N: {Func: "ParseUint", Num: s's bytes, Err: what the variable ErrRange holds}. Of what was there nothing has turned. (LAID: no walk: one application.) -/
theorem Tryd.strconv_ParseUint_10_at16_range (s : ByteArray) (hlim : s.size ≤ 281474976710656) (h : Lib.parseUintB 16 s.data.toList = .range) (ev : Value) (w : World) (hv : w.cell? ⟨1, 0, none⟩ = some ev) (hev : ev = .nilIface ∨ ∃ te pe, ev = .iface te pe) :
    Calls Tryd.prog 66 #[.string s, .int .i64 10, .int .i64 16] w fun e w' => ∃ N, e = .returned (.tuple #[.int .u64 65535, .iface 103 (.pointer (some ⟨N, 0, none⟩))]) ∧ w.heap.size ≤ N ∧ w'.heap[N]? = some (.cells #[.string ⟨#[80, 97, 114, 115, 101, 85, 105, 110, 116]⟩, .string s, ev] 108 (0, 0)) ∧ Below w.heap.size w w' := Any.strconv_ParseUint_10_at16_range Tryd.laysPu14 s hlim h ev w hv hev
open Go.RowKit in
/-- strconv.ParseUint(s, 10, 8), AT EVERY STRING THAT SPELLS A uint8 ('Lib.parseUintB 8 s.data.toList = .ok u'): u, AND NO ERROR. (LAID: no walk: one application.) -/
theorem Tryd.strconv_ParseUint_10_at8_ok (s : ByteArray) (hmax : s.size ≤ 9223372036854775806) (u : Nat) (h : Lib.parseUintB 8 s.data.toList = .ok u) (w : World) :
    Calls Tryd.prog 66 #[.string s, .int .i64 10, .int .i64 8] w fun e w' => e = .returned (.tuple #[.int .u64 u, .nilIface]) ∧ (w' = w ∨ w' = Lib.bytesWorld w 5 s) := Any.strconv_ParseUint_10_at8_ok Tryd.laysPu14 s hmax u h w
open Go.RowKit in
/-- strconv.ParseUint(s, 10, 8), AT EVERY NUMERAL THAT NO uint8 HOLDS: THE GREATEST uint8, AND AN ERROR THAT IS NOT nil: a *NumError in a new block N: {Func: "ParseUint", Num: s's bytes, Err: what the variable ErrRange holds}. Of what was there nothing has turned. (LAID: no walk: one application.) -/
theorem Tryd.strconv_ParseUint_10_at8_range (s : ByteArray) (hlim : s.size ≤ 281474976710656) (h : Lib.parseUintB 8 s.data.toList = .range) (ev : Value) (w : World) (hv : w.cell? ⟨1, 0, none⟩ = some ev) (hev : ev = .nilIface ∨ ∃ te pe, ev = .iface te pe) :
    Calls Tryd.prog 66 #[.string s, .int .i64 10, .int .i64 8] w fun e w' => ∃ N, e = .returned (.tuple #[.int .u64 255, .iface 103 (.pointer (some ⟨N, 0, none⟩))]) ∧ w.heap.size ≤ N ∧ w'.heap[N]? = some (.cells #[.string ⟨#[80, 97, 114, 115, 101, 85, 105, 110, 116]⟩, .string s, ev] 108 (0, 0)) ∧ Below w.heap.size w w' := Any.strconv_ParseUint_10_at8_range Tryd.laysPu14 s hlim h ev w hv hev
open Go.RowKit in
theorem Tryd.strconv_ParseUint_10_at0_range_var (s : ByteArray) (hlim : s.size ≤ 281474976710656) (h : Lib.parseUintB 64 s.data.toList = .range) (tp : TypeId) (p : Value) (w : World) (hvar : w.var? Tryd.prog "strconv.ErrRange" = some #[.iface tp p]) :
    Calls Tryd.prog 66 #[.string s, .int .i64 10, .int .i64 0] w fun e w' => ∃ N, e = .returned (.tuple #[.int .u64 18446744073709551615, .iface 103 (.pointer (some ⟨N, 0, none⟩))]) ∧ w.heap.size ≤ N ∧ w'.heap[N]? = some (.cells #[.string ⟨#[80, 97, 114, 115, 101, 85, 105, 110, 116]⟩, .string s, .iface tp p] 108 (0, 0)) ∧ Below w.heap.size w w' := Any.strconv_ParseUint_10_at0_range_var Tryd.laysPu14 s hlim h tp p w hvar
open Go.RowKit in
theorem Tryd.strconv_ParseUint_10_at64_range_var (s : ByteArray) (hlim : s.size ≤ 281474976710656) (h : Lib.parseUintB 64 s.data.toList = .range) (tp : TypeId) (p : Value) (w : World) (hvar : w.var? Tryd.prog "strconv.ErrRange" = some #[.iface tp p]) :
    Calls Tryd.prog 66 #[.string s, .int .i64 10, .int .i64 64] w fun e w' => ∃ N, e = .returned (.tuple #[.int .u64 18446744073709551615, .iface 103 (.pointer (some ⟨N, 0, none⟩))]) ∧ w.heap.size ≤ N ∧ w'.heap[N]? = some (.cells #[.string ⟨#[80, 97, 114, 115, 101, 85, 105, 110, 116]⟩, .string s, .iface tp p] 108 (0, 0)) ∧ Below w.heap.size w w' := Any.strconv_ParseUint_10_at64_range_var Tryd.laysPu14 s hlim h tp p w hvar
open Go.RowKit in
theorem Tryd.strconv_ParseUint_10_at32_range_var (s : ByteArray) (hlim : s.size ≤ 281474976710656) (h : Lib.parseUintB 32 s.data.toList = .range) (tp : TypeId) (p : Value) (w : World) (hvar : w.var? Tryd.prog "strconv.ErrRange" = some #[.iface tp p]) :
    Calls Tryd.prog 66 #[.string s, .int .i64 10, .int .i64 32] w fun e w' => ∃ N, e = .returned (.tuple #[.int .u64 4294967295, .iface 103 (.pointer (some ⟨N, 0, none⟩))]) ∧ w.heap.size ≤ N ∧ w'.heap[N]? = some (.cells #[.string ⟨#[80, 97, 114, 115, 101, 85, 105, 110, 116]⟩, .string s, .iface tp p] 108 (0, 0)) ∧ Below w.heap.size w w' := Any.strconv_ParseUint_10_at32_range_var Tryd.laysPu14 s hlim h tp p w hvar
open Go.RowKit in
theorem Tryd.strconv_ParseUint_10_at16_range_var (s : ByteArray) (hlim : s.size ≤ 281474976710656) (h : Lib.parseUintB 16 s.data.toList = .range) (tp : TypeId) (p : Value) (w : World) (hvar : w.var? Tryd.prog "strconv.ErrRange" = some #[.iface tp p]) :
    Calls Tryd.prog 66 #[.string s, .int .i64 10, .int .i64 16] w fun e w' => ∃ N, e = .returned (.tuple #[.int .u64 65535, .iface 103 (.pointer (some ⟨N, 0, none⟩))]) ∧ w.heap.size ≤ N ∧ w'.heap[N]? = some (.cells #[.string ⟨#[80, 97, 114, 115, 101, 85, 105, 110, 116]⟩, .string s, .iface tp p] 108 (0, 0)) ∧ Below w.heap.size w w' := Any.strconv_ParseUint_10_at16_range_var Tryd.laysPu14 s hlim h tp p w hvar
open Go.RowKit in
theorem Tryd.strconv_ParseUint_10_at8_range_var (s : ByteArray) (hlim : s.size ≤ 281474976710656) (h : Lib.parseUintB 8 s.data.toList = .range) (tp : TypeId) (p : Value) (w : World) (hvar : w.var? Tryd.prog "strconv.ErrRange" = some #[.iface tp p]) :
    Calls Tryd.prog 66 #[.string s, .int .i64 10, .int .i64 8] w fun e w' => ∃ N, e = .returned (.tuple #[.int .u64 255, .iface 103 (.pointer (some ⟨N, 0, none⟩))]) ∧ w.heap.size ≤ N ∧ w'.heap[N]? = some (.cells #[.string ⟨#[80, 97, 114, 115, 101, 85, 105, 110, 116]⟩, .string s, .iface tp p] 108 (0, 0)) ∧ Below w.heap.size w w' := Any.strconv_ParseUint_10_at8_range_var Tryd.laysPu14 s hlim h tp p w hvar
end Go.Proofs
