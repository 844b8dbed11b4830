/-
  DERIVED: THE SHELF's CONTRACTS AT THIS DUMP, IN PLAIN WORDS (tools/lay-plain.mjs out of 'TryzShelf.lean', which tools/lay-shelf.mjs wrote): THE SAME DECLARATIONS UNDER THE SAME NAMES: 'import', 'namespace', 'open', 'def', 'theorem' AND NOTHING ELSE: no command of the shelf's: FOR A HAND-IN. Each laying: the table of numbers ('.._ren') and one theorem, a field a fact of the dump's own or the kernel's comparison; each contract: ONE APPLICATION.
-/
import Derived.Shelf.Small.Bits
import Derived.Shelf.Strconv.Itoa0
import Derived.Shelf.Strconv.Itoa1
import Derived.Shelf.LaysM
import Derived.Shelf.Strconv.Itoa2
import Derived.Shelf.Strconv.Itoa3
import Derived.Shelf.Strconv.Itoa4
import Derived.Ground.MnProg
import Derived.Shelf.Bin.LEUint16
import Derived.Shelf.Bin.LEUint32
import Derived.Shelf.Bin.LEUint64
import Derived.Shelf.Bin.ReadersZ
import Derived.Test.YtojdfjohmicopaaGreatDoorProg
namespace Go.Proofs
open Go.Shelf
def Tryz.lays128_ren : Go.Shelf.Ren := ⟨fun | 128 => 80 | n => n, fun | 51 => 22 | 3 => 3 | 4 => 4 | 46 => 98 | 5 => 5 | 9 => 9 | n => n, fun | n => n⟩
theorem Tryz.lays128 : Go.Proofs.Lays.n128 Tryz.prog Tryz.lays128_ren := {
  mixed := by kernel_rfl
  f128 := Tryz.func80.trans (congrArg some (by kernel_rfl))
  t3 := Tryz.underlying3
  a3 := Tryz.isAgg3
  z3 := Tryz.sizeOf3
  v3 := Tryz.zeroValue3
  t4 := Tryz.underlying4
  a4 := Tryz.isAgg4
  z4 := Tryz.sizeOf4
  v4 := Tryz.zeroValue4
  t5 := Tryz.underlying5
  a5 := Tryz.isAgg5
  z5 := Tryz.sizeOf5
  v5 := Tryz.zeroValue5
  t9 := Tryz.underlying9
  a9 := Tryz.isAgg9
  z9 := Tryz.sizeOf9
  v9 := Tryz.zeroValue9
  t46 := Tryz.underlying98
  a46 := Tryz.isAgg98
  z46 := Tryz.sizeOf98
  v46 := Tryz.zeroValue98
  t51 := Tryz.underlying22
  a51 := Tryz.isAgg22
  z51 := Tryz.sizeOf22
  v51 := Tryz.zeroValue22 }
/-- bits.Len32: "Len32 returns the minimum number of bits required to represent x; the result is 0 for x == 0.": IT RETURNS 'Lib.bitLen x'; the world is as it was. ('h0', 'h1': x is a uint32.) (LAID: no walk: one application.) -/
theorem Tryz.bits_Len32 (x : Int) (w : World) (h0 : 0 ≤ x) (h1 : x ≤ 4294967295) :
    Calls Tryz.prog 80 #[.int .u32 x] w fun e w' => e = .returned (.int .i64 (Lib.bitLen x.toNat)) ∧ w' = w := Any.bits_Len32 Tryz.lays128 x w h0 h1
def Tryz.lays129_ren : Go.Shelf.Ren := ⟨fun | 129 => 100 | n => n, fun | 53 => 42 | 3 => 3 | 4 => 4 | 46 => 98 | 5 => 5 | 9 => 9 | n => n, fun | n => n⟩
theorem Tryz.lays129 : Go.Proofs.Lays.n129 Tryz.prog Tryz.lays129_ren := {
  mixed := by kernel_rfl
  f129 := Tryz.func100.trans (congrArg some (by kernel_rfl))
  t3 := Tryz.underlying3
  a3 := Tryz.isAgg3
  z3 := Tryz.sizeOf3
  v3 := Tryz.zeroValue3
  t4 := Tryz.underlying4
  a4 := Tryz.isAgg4
  z4 := Tryz.sizeOf4
  v4 := Tryz.zeroValue4
  t5 := Tryz.underlying5
  a5 := Tryz.isAgg5
  z5 := Tryz.sizeOf5
  v5 := Tryz.zeroValue5
  t9 := Tryz.underlying9
  a9 := Tryz.isAgg9
  z9 := Tryz.sizeOf9
  v9 := Tryz.zeroValue9
  t46 := Tryz.underlying98
  a46 := Tryz.isAgg98
  z46 := Tryz.sizeOf98
  v46 := Tryz.zeroValue98
  t53 := Tryz.underlying42
  a53 := Tryz.isAgg42
  z53 := Tryz.sizeOf42
  v53 := Tryz.zeroValue42 }
/-- bits.Len64: "Len64 returns the minimum number of bits required to represent x; the result is 0 for x == 0.": IT RETURNS 'Lib.bitLen x'; the world is as it was. ('h0', 'h1': x is a uint64.) (LAID: no walk: one application.) -/
theorem Tryz.bits_Len64 (x : Int) (w : World) (h0 : 0 ≤ x) (h1 : x ≤ 18446744073709551615) :
    Calls Tryz.prog 100 #[.int .u64 x] w fun e w' => e = .returned (.int .i64 (Lib.bitLen x.toNat)) ∧ w' = w := Any.bits_Len64 Tryz.lays129 x w h0 h1
def Tryz.lays317_ren : Go.Shelf.Ren := ⟨fun | 317 => 99 | n => n, fun | 3 => 3 | 46 => 98 | n => n, fun | n => n⟩
theorem Tryz.lays317 : Go.Proofs.Lays.n317 Tryz.prog Tryz.lays317_ren := {
  mixed := by kernel_rfl
  f317 := Tryz.func99.trans (congrArg some (by kernel_rfl))
  t3 := Tryz.underlying3
  a3 := Tryz.isAgg3
  z3 := Tryz.sizeOf3
  v3 := Tryz.zeroValue3
  t46 := Tryz.underlying98
  a46 := Tryz.isAgg98
  z46 := Tryz.sizeOf98
  v46 := Tryz.zeroValue98 }
open Go.Lib in
/-- internal/strconv.log10Pow2: "log10Pow2(x) returns ⌊log₁₀ 2**x⌋ = ⌊x * log₁₀ 2⌋.": '(x * 78913) >> 18', at an x up to 64 (a length in bits). The world is as it was. (LAID: no walk: one application.) -/
theorem Tryz.internal_strconv_log10Pow2 (x : Nat) (h : x ≤ 64) (w : World) :
    Calls Tryz.prog 99 #[.int .i64 x] w fun e w' => e = .returned (.int .i64 (Lib.l10 x)) ∧ w' = w := Any.internal_strconv_log10Pow2 Tryz.lays317 x h w
def Tryz.lays318_ren : Go.Shelf.Ren := ⟨fun | 318 => 101 | n => n, fun | 3 => 3 | 4 => 4 | n => n, fun | n => n⟩
theorem Tryz.lays318 : Go.Proofs.Lays.n318 Tryz.prog Tryz.lays318_ren := {
  mixed := by kernel_rfl
  f318 := Tryz.func101.trans (congrArg some (by kernel_rfl))
  t3 := Tryz.underlying3
  a3 := Tryz.isAgg3
  z3 := Tryz.sizeOf3
  v3 := Tryz.zeroValue3
  t4 := Tryz.underlying4
  a4 := Tryz.isAgg4
  z4 := Tryz.sizeOf4
  v4 := Tryz.zeroValue4 }
open Go.Lib in
/-- internal/strconv.bool2: "bool2 converts b to an integer: 1 for true, 0 for false." The world is as it was. (LAID: no walk: one application.) -/
theorem Tryz.internal_strconv_bool2_int (b : Bool) (w : World) :
    Calls Tryz.prog 101 #[.bool b] w fun e w' => e = .returned (.int .i64 (if b then 1 else 0)) ∧ w' = w := Any.internal_strconv_bool2_int Tryz.lays318 b w
def Tryz.lays283_ren : Go.Shelf.Ren := ⟨fun | 283 => 75 | n => n, fun | 3 => 3 | 9 => 9 | 4 => 4 | n => n, fun | n => n⟩
theorem Tryz.lays283 : Go.Proofs.Lays.n283 Tryz.prog Tryz.lays283_ren := {
  mixed := by kernel_rfl
  f283 := Tryz.func75.trans (congrArg some (by kernel_rfl))
  t3 := Tryz.underlying3
  a3 := Tryz.isAgg3
  z3 := Tryz.sizeOf3
  v3 := Tryz.zeroValue3
  t4 := Tryz.underlying4
  a4 := Tryz.isAgg4
  z4 := Tryz.sizeOf4
  v4 := Tryz.zeroValue4
  t9 := Tryz.underlying9
  a9 := Tryz.isAgg9
  z9 := Tryz.sizeOf9
  v9 := Tryz.zeroValue9 }
open Go.Lib in
/-- internal/strconv.small: "small returns the string for an i with 0 <= i < nSmalls.": i's decimal numeral. The world is as it was. (LAID: no walk: one application.) -/
theorem Tryz.internal_strconv_small (i : Nat) (h : i < 100) (w : World) :
    Calls Tryz.prog 75 #[.int .i64 i] w fun e w' => e = .returned (.string ⟨(Lib.decDigits i).toArray⟩) ∧ w' = w := Any.internal_strconv_small Tryz.lays283 i h w
def Tryz.laysM284_ren : Go.Shelf.Ren := ⟨fun | 284 => 76 | 129 => 100 | 317 => 99 | 318 => 101 | n => n, fun | 53 => 42 | 3 => 3 | 212 => 168 | 0 => 0 | 4 => 4 | 46 => 98 | 5 => 5 | 9 => 9 | n => n, fun | 17 => 5 | n => n⟩
theorem Tryz.laysM284 : Go.Proofs.LaysM.n284 Tryz.prog Tryz.laysM284_ren := {
  mixed := by kernel_rfl
  f129 := Tryz.func100.trans (congrArg some (by kernel_rfl))
  f284 := Tryz.func76.trans (congrArg some (by kernel_rfl))
  f317 := Tryz.func99.trans (congrArg some (by kernel_rfl))
  f318 := Tryz.func101.trans (congrArg some (by kernel_rfl))
  t0 := Tryz.underlying0
  a0 := Tryz.isAgg0
  z0 := Tryz.sizeOf0
  v0 := Tryz.zeroValue0
  t3 := Tryz.underlying3
  a3 := Tryz.isAgg3
  z3 := Tryz.sizeOf3
  v3 := Tryz.zeroValue3
  t4 := Tryz.underlying4
  a4 := Tryz.isAgg4
  z4 := Tryz.sizeOf4
  v4 := Tryz.zeroValue4
  t5 := Tryz.underlying5
  a5 := Tryz.isAgg5
  z5 := Tryz.sizeOf5
  v5 := Tryz.zeroValue5
  t9 := Tryz.underlying9
  a9 := Tryz.isAgg9
  z9 := Tryz.sizeOf9
  v9 := Tryz.zeroValue9
  t46 := Tryz.underlying98
  a46 := Tryz.isAgg98
  z46 := Tryz.sizeOf98
  v46 := Tryz.zeroValue98
  t53 := Tryz.underlying42
  a53 := Tryz.isAgg42
  z53 := Tryz.sizeOf42
  v53 := Tryz.zeroValue42
  t212 := Tryz.underlying168
  a212 := Tryz.isAgg168
  z212 := Tryz.sizeOf168
  v212 := Tryz.zeroValue168
  g17 := by kernel_rfl
  i0 := by kernel_rfl
  i3 := by kernel_rfl
  i4 := by kernel_rfl
  i5 := by kernel_rfl
  i9 := by kernel_rfl
  i46 := by kernel_rfl
  i53 := by kernel_rfl
  i212 := by kernel_rfl
  m17 := by kernel_rfl }
open Go.Lib in
/-- internal/strconv.numDigits, at a d that is not 0: THE NUMBER OF d's DECIMAL DIGITS. The world is as it was. (LAID: no walk: one application.) -/
theorem Tryz.internal_strconv_numDigits (u : Nat) (h1 : 1 ≤ u) (h2 : u < 18446744073709551616) (w : World) (htab : Lib.TabIs Tryz.prog w "internal/strconv.uint64pow10" .u64 Lib.pow10Tab) :
    Calls Tryz.prog 76 #[.int .u64 u] w fun e w' => e = .returned (.int .i64 (Lib.nDigits u)) ∧ w' = w := Any.internal_strconv_numDigits Tryz.laysM284 u h1 h2 w htab
def Tryz.lays285_ren : Go.Shelf.Ren := ⟨fun | 285 => 77 | n => n, fun | 37 => 33 | 53 => 42 | 3 => 3 | 4 => 4 | 51 => 22 | 9 => 9 | 5 => 5 | 0 => 0 | n => n, fun | n => n⟩
theorem Tryz.lays285 : Go.Proofs.Lays.n285 Tryz.prog Tryz.lays285_ren := {
  mixed := by kernel_rfl
  f285 := Tryz.func77.trans (congrArg some (by kernel_rfl))
  t0 := Tryz.underlying0
  a0 := Tryz.isAgg0
  z0 := Tryz.sizeOf0
  v0 := Tryz.zeroValue0
  t3 := Tryz.underlying3
  a3 := Tryz.isAgg3
  z3 := Tryz.sizeOf3
  v3 := Tryz.zeroValue3
  t4 := Tryz.underlying4
  a4 := Tryz.isAgg4
  z4 := Tryz.sizeOf4
  v4 := Tryz.zeroValue4
  t5 := Tryz.underlying5
  a5 := Tryz.isAgg5
  z5 := Tryz.sizeOf5
  v5 := Tryz.zeroValue5
  t9 := Tryz.underlying9
  a9 := Tryz.isAgg9
  z9 := Tryz.sizeOf9
  v9 := Tryz.zeroValue9
  t37 := Tryz.underlying33
  a37 := Tryz.isAgg33
  z37 := Tryz.sizeOf33
  v37 := Tryz.zeroValue33
  t51 := Tryz.underlying22
  a51 := Tryz.isAgg22
  z51 := Tryz.sizeOf22
  v51 := Tryz.zeroValue22
  t53 := Tryz.underlying42
  a53 := Tryz.isAgg42
  z53 := Tryz.sizeOf42
  v53 := Tryz.zeroValue42 }
open Go.RowKit Go.Sort Go.Lib in
/-- internal/strconv.formatBase10: "formatBase10 formats the decimal representation of u into a. The caller is responsible for ensuring that a is big enough to hold u. If a is too big, leading zeros will be filled in as needed.": THE ROW HOLDS u's DIGITS ('FmtInv .. 0 ..': every place t holds 'dg u (len - 1 - t)'); all else is as it was but for the count of draws. (LAID: no walk: one application.) -/
theorem Tryz.internal_strconv_formatBase10 (blk off cap : Nat) (u : Nat) (d : Array UInt8) (w : World) (hH : Holds (fun (b : UInt8) => Value.int .u8 (b.toNat : Int)) w blk off d) (hu : u < 10 ^ d.size) (hu64 : u < 18446744073709551616) (hsz : d.size < 4611686018427387904) :
    Calls Tryz.prog 77 #[.slice (some ⟨blk, off, none⟩) d.size cap, .int .u64 u] w fun e w' =>
      e = .returned (.tuple #[]) ∧ ∃ (n v' : Nat) (dk : Array UInt8), w' = (putRow (fun (b : UInt8) => Value.int .u8 (b.toNat : Int)) w blk off dk).drewN n ∧ FmtInv d.size u 0 v' dk := Any.internal_strconv_formatBase10 Tryz.lays285 blk off cap u d w hH hu hu64 hsz
def Tryz.laysM246_ren : Go.Shelf.Ren := ⟨fun | 246 => 36 | 283 => 75 | 284 => 76 | 285 => 77 | 286 => 78 | 129 => 100 | 317 => 99 | 318 => 101 | 319 => 102 | 320 => 103 | 337 => 109 | 338 => 110 | n => n, fun | 2 => 2 | 3 => 3 | 9 => 9 | 4 => 4 | 171 => 147 | 0 => 0 | 53 => 42 | 37 => 33 | 5 => 5 | 173 => 150 | 212 => 168 | 51 => 22 | 20 => 20 | 213 => 169 | 46 => 98 | 232 => 184 | 233 => 185 | n => n, fun | 17 => 5 | 18 => 12 | 19 => 13 | n => n⟩
theorem Tryz.laysM246 : Go.Proofs.LaysM.n246 Tryz.prog Tryz.laysM246_ren := {
  mixed := by kernel_rfl
  f129 := Tryz.func100.trans (congrArg some (by kernel_rfl))
  f246 := Tryz.func36.trans (congrArg some (by kernel_rfl))
  f283 := Tryz.func75.trans (congrArg some (by kernel_rfl))
  f284 := Tryz.func76.trans (congrArg some (by kernel_rfl))
  f285 := Tryz.func77.trans (congrArg some (by kernel_rfl))
  f286 := Tryz.func78.trans (congrArg some (by kernel_rfl))
  f317 := Tryz.func99.trans (congrArg some (by kernel_rfl))
  f318 := Tryz.func101.trans (congrArg some (by kernel_rfl))
  f319 := Tryz.func102.trans (congrArg some (by kernel_rfl))
  f320 := Tryz.func103.trans (congrArg some (by kernel_rfl))
  f337 := Tryz.func109.trans (congrArg some (by kernel_rfl))
  f338 := Tryz.func110.trans (congrArg some (by kernel_rfl))
  t0 := Tryz.underlying0
  a0 := Tryz.isAgg0
  z0 := Tryz.sizeOf0
  v0 := Tryz.zeroValue0
  t2 := Tryz.underlying2
  a2 := Tryz.isAgg2
  z2 := Tryz.sizeOf2
  v2 := Tryz.zeroValue2
  t3 := Tryz.underlying3
  a3 := Tryz.isAgg3
  z3 := Tryz.sizeOf3
  v3 := Tryz.zeroValue3
  t4 := Tryz.underlying4
  a4 := Tryz.isAgg4
  z4 := Tryz.sizeOf4
  v4 := Tryz.zeroValue4
  t5 := Tryz.underlying5
  a5 := Tryz.isAgg5
  z5 := Tryz.sizeOf5
  v5 := Tryz.zeroValue5
  t9 := Tryz.underlying9
  a9 := Tryz.isAgg9
  z9 := Tryz.sizeOf9
  v9 := Tryz.zeroValue9
  t20 := Tryz.underlying20
  a20 := Tryz.isAgg20
  z20 := Tryz.sizeOf20
  v20 := Tryz.zeroValue20
  t37 := Tryz.underlying33
  a37 := Tryz.isAgg33
  z37 := Tryz.sizeOf33
  v37 := Tryz.zeroValue33
  t46 := Tryz.underlying98
  a46 := Tryz.isAgg98
  z46 := Tryz.sizeOf98
  v46 := Tryz.zeroValue98
  t51 := Tryz.underlying22
  a51 := Tryz.isAgg22
  z51 := Tryz.sizeOf22
  v51 := Tryz.zeroValue22
  t53 := Tryz.underlying42
  a53 := Tryz.isAgg42
  z53 := Tryz.sizeOf42
  v53 := Tryz.zeroValue42
  t171 := Tryz.underlying147
  a171 := Tryz.isAgg147
  z171 := Tryz.sizeOf147
  v171 := Tryz.zeroValue147
  t173 := Tryz.underlying150
  a173 := Tryz.isAgg150
  z173 := Tryz.sizeOf150
  v173 := Tryz.zeroValue150
  t212 := Tryz.underlying168
  a212 := Tryz.isAgg168
  z212 := Tryz.sizeOf168
  v212 := Tryz.zeroValue168
  t213 := Tryz.underlying169
  a213 := Tryz.isAgg169
  z213 := Tryz.sizeOf169
  t232 := Tryz.underlying184
  a232 := Tryz.isAgg184
  z232 := Tryz.sizeOf184
  v232 := Tryz.zeroValue184
  t233 := Tryz.underlying185
  a233 := Tryz.isAgg185
  z233 := Tryz.sizeOf185
  v233 := Tryz.zeroValue185
  g17 := by kernel_rfl
  g18 := by kernel_rfl
  g19 := by kernel_rfl
  i0 := by kernel_rfl
  i2 := by kernel_rfl
  i3 := by kernel_rfl
  i4 := by kernel_rfl
  i5 := by kernel_rfl
  i9 := by kernel_rfl
  i20 := by kernel_rfl
  i37 := by kernel_rfl
  i46 := by kernel_rfl
  i51 := by kernel_rfl
  i53 := by kernel_rfl
  i171 := by kernel_rfl
  i173 := by kernel_rfl
  i212 := by kernel_rfl
  i232 := by kernel_rfl
  i233 := by kernel_rfl
  m17 := by kernel_rfl
  m18 := by kernel_rfl
  m19 := by kernel_rfl }
open Go.RowKit Go.Sort Go.Lib in
/-- internal/strconv.FormatInt: "FormatInt returns the string representation of i in the given base": AT BASE 10: i's decimal numeral, for every int64. The world behind the call: the world before it, new blocks behind the heap, draws. (LAID: no walk: one application.) -/
theorem Tryz.internal_strconv_FormatInt_10 (n : Int) (h0 : -9223372036854775808 ≤ n) (h1 : n ≤ 9223372036854775807) (w : World) (htab : Lib.TabIs Tryz.prog w "internal/strconv.uint64pow10" .u64 Lib.pow10Tab) :
    Calls Tryz.prog 36 #[.int .i64 n, .int .i64 10] w fun e w' => e = .returned (.string ⟨(Lib.itoa n).toArray⟩) ∧ ∃ k os, w' = grow (w.drewN k) os := Any.internal_strconv_FormatInt_10 Tryz.laysM246 n h0 h1 w htab
def Tryz.lays246_ren : Go.Shelf.Ren := ⟨fun | 246 => 36 | 283 => 75 | 284 => 76 | 285 => 77 | 286 => 78 | 129 => 100 | 317 => 99 | 318 => 101 | 319 => 102 | 320 => 103 | 337 => 109 | 338 => 110 | n => n, fun | 2 => 2 | 3 => 3 | 9 => 9 | 4 => 4 | 171 => 147 | 0 => 0 | 53 => 42 | 37 => 33 | 5 => 5 | 173 => 150 | 212 => 168 | 51 => 22 | 20 => 20 | 213 => 169 | 46 => 98 | 232 => 184 | 233 => 185 | n => n, fun | 17 => 5 | 18 => 12 | 19 => 13 | n => n⟩
theorem Tryz.lays246 : Go.Proofs.Lays.n246 Tryz.prog Tryz.lays246_ren := {
  mixed := by kernel_rfl
  f129 := Tryz.func100.trans (congrArg some (by kernel_rfl))
  f246 := Tryz.func36.trans (congrArg some (by kernel_rfl))
  f283 := Tryz.func75.trans (congrArg some (by kernel_rfl))
  f284 := Tryz.func76.trans (congrArg some (by kernel_rfl))
  f285 := Tryz.func77.trans (congrArg some (by kernel_rfl))
  f286 := Tryz.func78.trans (congrArg some (by kernel_rfl))
  f317 := Tryz.func99.trans (congrArg some (by kernel_rfl))
  f318 := Tryz.func101.trans (congrArg some (by kernel_rfl))
  f319 := Tryz.func102.trans (congrArg some (by kernel_rfl))
  f320 := Tryz.func103.trans (congrArg some (by kernel_rfl))
  f337 := Tryz.func109.trans (congrArg some (by kernel_rfl))
  f338 := Tryz.func110.trans (congrArg some (by kernel_rfl))
  t0 := Tryz.underlying0
  a0 := Tryz.isAgg0
  z0 := Tryz.sizeOf0
  v0 := Tryz.zeroValue0
  t2 := Tryz.underlying2
  a2 := Tryz.isAgg2
  z2 := Tryz.sizeOf2
  v2 := Tryz.zeroValue2
  t3 := Tryz.underlying3
  a3 := Tryz.isAgg3
  z3 := Tryz.sizeOf3
  v3 := Tryz.zeroValue3
  t4 := Tryz.underlying4
  a4 := Tryz.isAgg4
  z4 := Tryz.sizeOf4
  v4 := Tryz.zeroValue4
  t5 := Tryz.underlying5
  a5 := Tryz.isAgg5
  z5 := Tryz.sizeOf5
  v5 := Tryz.zeroValue5
  t9 := Tryz.underlying9
  a9 := Tryz.isAgg9
  z9 := Tryz.sizeOf9
  v9 := Tryz.zeroValue9
  t20 := Tryz.underlying20
  a20 := Tryz.isAgg20
  z20 := Tryz.sizeOf20
  v20 := Tryz.zeroValue20
  t37 := Tryz.underlying33
  a37 := Tryz.isAgg33
  z37 := Tryz.sizeOf33
  v37 := Tryz.zeroValue33
  t46 := Tryz.underlying98
  a46 := Tryz.isAgg98
  z46 := Tryz.sizeOf98
  v46 := Tryz.zeroValue98
  t51 := Tryz.underlying22
  a51 := Tryz.isAgg22
  z51 := Tryz.sizeOf22
  v51 := Tryz.zeroValue22
  t53 := Tryz.underlying42
  a53 := Tryz.isAgg42
  z53 := Tryz.sizeOf42
  v53 := Tryz.zeroValue42
  t171 := Tryz.underlying147
  a171 := Tryz.isAgg147
  z171 := Tryz.sizeOf147
  v171 := Tryz.zeroValue147
  t173 := Tryz.underlying150
  a173 := Tryz.isAgg150
  z173 := Tryz.sizeOf150
  v173 := Tryz.zeroValue150
  t212 := Tryz.underlying168
  a212 := Tryz.isAgg168
  z212 := Tryz.sizeOf168
  v212 := Tryz.zeroValue168
  t213 := Tryz.underlying169
  a213 := Tryz.isAgg169
  z213 := Tryz.sizeOf169
  t232 := Tryz.underlying184
  a232 := Tryz.isAgg184
  z232 := Tryz.sizeOf184
  v232 := Tryz.zeroValue184
  t233 := Tryz.underlying185
  a233 := Tryz.isAgg185
  z233 := Tryz.sizeOf185
  v233 := Tryz.zeroValue185
  g17 := by kernel_rfl
  g18 := by kernel_rfl
  g19 := by kernel_rfl }
open Go.RowKit Go.Sort Go.Lib in
/-- THE ROAD WITHOUT THE TABLE: 0 <= i < 100: two constants are read, nothing is laid: no premise on the world, and the world is as it was. (LAID: no walk: one application.) -/
theorem Tryz.internal_strconv_FormatInt_10_small (i : Nat) (hi : i < 100) (w : World) :
    Calls Tryz.prog 36 #[.int .i64 i, .int .i64 10] w fun e w' => e = .returned (.string ⟨(Lib.decDigits i).toArray⟩) ∧ w' = w := Any.internal_strconv_FormatInt_10_small Tryz.lays246 i hi w
def Tryz.laysM173_ren : Go.Shelf.Ren := ⟨fun | 173 => 23 | 246 => 36 | 283 => 75 | 284 => 76 | 285 => 77 | 286 => 78 | 129 => 100 | 317 => 99 | 318 => 101 | 319 => 102 | 320 => 103 | 337 => 109 | 338 => 110 | n => n, fun | 2 => 2 | 3 => 3 | 9 => 9 | 4 => 4 | 171 => 147 | 0 => 0 | 53 => 42 | 37 => 33 | 5 => 5 | 173 => 150 | 212 => 168 | 51 => 22 | 20 => 20 | 213 => 169 | 46 => 98 | 232 => 184 | 233 => 185 | n => n, fun | 17 => 5 | 18 => 12 | 19 => 13 | n => n⟩
theorem Tryz.laysM173 : Go.Proofs.LaysM.n173 Tryz.prog Tryz.laysM173_ren := {
  mixed := by kernel_rfl
  f129 := Tryz.func100.trans (congrArg some (by kernel_rfl))
  f173 := Tryz.func23.trans (congrArg some (by kernel_rfl))
  f246 := Tryz.func36.trans (congrArg some (by kernel_rfl))
  f283 := Tryz.func75.trans (congrArg some (by kernel_rfl))
  f284 := Tryz.func76.trans (congrArg some (by kernel_rfl))
  f285 := Tryz.func77.trans (congrArg some (by kernel_rfl))
  f286 := Tryz.func78.trans (congrArg some (by kernel_rfl))
  f317 := Tryz.func99.trans (congrArg some (by kernel_rfl))
  f318 := Tryz.func101.trans (congrArg some (by kernel_rfl))
  f319 := Tryz.func102.trans (congrArg some (by kernel_rfl))
  f320 := Tryz.func103.trans (congrArg some (by kernel_rfl))
  f337 := Tryz.func109.trans (congrArg some (by kernel_rfl))
  f338 := Tryz.func110.trans (congrArg some (by kernel_rfl))
  t0 := Tryz.underlying0
  a0 := Tryz.isAgg0
  z0 := Tryz.sizeOf0
  v0 := Tryz.zeroValue0
  t2 := Tryz.underlying2
  a2 := Tryz.isAgg2
  z2 := Tryz.sizeOf2
  v2 := Tryz.zeroValue2
  t3 := Tryz.underlying3
  a3 := Tryz.isAgg3
  z3 := Tryz.sizeOf3
  v3 := Tryz.zeroValue3
  t4 := Tryz.underlying4
  a4 := Tryz.isAgg4
  z4 := Tryz.sizeOf4
  v4 := Tryz.zeroValue4
  t5 := Tryz.underlying5
  a5 := Tryz.isAgg5
  z5 := Tryz.sizeOf5
  v5 := Tryz.zeroValue5
  t9 := Tryz.underlying9
  a9 := Tryz.isAgg9
  z9 := Tryz.sizeOf9
  v9 := Tryz.zeroValue9
  t20 := Tryz.underlying20
  a20 := Tryz.isAgg20
  z20 := Tryz.sizeOf20
  v20 := Tryz.zeroValue20
  t37 := Tryz.underlying33
  a37 := Tryz.isAgg33
  z37 := Tryz.sizeOf33
  v37 := Tryz.zeroValue33
  t46 := Tryz.underlying98
  a46 := Tryz.isAgg98
  z46 := Tryz.sizeOf98
  v46 := Tryz.zeroValue98
  t51 := Tryz.underlying22
  a51 := Tryz.isAgg22
  z51 := Tryz.sizeOf22
  v51 := Tryz.zeroValue22
  t53 := Tryz.underlying42
  a53 := Tryz.isAgg42
  z53 := Tryz.sizeOf42
  v53 := Tryz.zeroValue42
  t171 := Tryz.underlying147
  a171 := Tryz.isAgg147
  z171 := Tryz.sizeOf147
  v171 := Tryz.zeroValue147
  t173 := Tryz.underlying150
  a173 := Tryz.isAgg150
  z173 := Tryz.sizeOf150
  v173 := Tryz.zeroValue150
  t212 := Tryz.underlying168
  a212 := Tryz.isAgg168
  z212 := Tryz.sizeOf168
  v212 := Tryz.zeroValue168
  t213 := Tryz.underlying169
  a213 := Tryz.isAgg169
  z213 := Tryz.sizeOf169
  t232 := Tryz.underlying184
  a232 := Tryz.isAgg184
  z232 := Tryz.sizeOf184
  v232 := Tryz.zeroValue184
  t233 := Tryz.underlying185
  a233 := Tryz.isAgg185
  z233 := Tryz.sizeOf185
  v233 := Tryz.zeroValue185
  g17 := by kernel_rfl
  g18 := by kernel_rfl
  g19 := by kernel_rfl
  i0 := by kernel_rfl
  i2 := by kernel_rfl
  i3 := by kernel_rfl
  i4 := by kernel_rfl
  i5 := by kernel_rfl
  i9 := by kernel_rfl
  i20 := by kernel_rfl
  i37 := by kernel_rfl
  i46 := by kernel_rfl
  i51 := by kernel_rfl
  i53 := by kernel_rfl
  i171 := by kernel_rfl
  i173 := by kernel_rfl
  i212 := by kernel_rfl
  i232 := by kernel_rfl
  i233 := by kernel_rfl
  m17 := by kernel_rfl
  m18 := by kernel_rfl
  m19 := by kernel_rfl }
open Go.RowKit Go.Sort Go.Lib in
/-- strconv.FormatInt: "FormatInt returns the string representation of i in the given base": AT BASE 10: i's decimal numeral, for every int64. (LAID: no walk: one application.) -/
theorem Tryz.strconv_FormatInt_10 (n : Int) (h0 : -9223372036854775808 ≤ n) (h1 : n ≤ 9223372036854775807) (w : World) (htab : Lib.TabIs Tryz.prog w "internal/strconv.uint64pow10" .u64 Lib.pow10Tab) :
    Calls Tryz.prog 23 #[.int .i64 n, .int .i64 10] w fun e w' => e = .returned (.string ⟨(Lib.itoa n).toArray⟩) ∧ ∃ k os, w' = grow (w.drewN k) os := Any.strconv_FormatInt_10 Tryz.laysM173 n h0 h1 w htab
def Tryz.lays173_ren : Go.Shelf.Ren := ⟨fun | 173 => 23 | 246 => 36 | 283 => 75 | 284 => 76 | 285 => 77 | 286 => 78 | 129 => 100 | 317 => 99 | 318 => 101 | 319 => 102 | 320 => 103 | 337 => 109 | 338 => 110 | n => n, fun | 2 => 2 | 3 => 3 | 9 => 9 | 4 => 4 | 171 => 147 | 0 => 0 | 53 => 42 | 37 => 33 | 5 => 5 | 173 => 150 | 212 => 168 | 51 => 22 | 20 => 20 | 213 => 169 | 46 => 98 | 232 => 184 | 233 => 185 | n => n, fun | 17 => 5 | 18 => 12 | 19 => 13 | n => n⟩
theorem Tryz.lays173 : Go.Proofs.Lays.n173 Tryz.prog Tryz.lays173_ren := {
  mixed := by kernel_rfl
  f129 := Tryz.func100.trans (congrArg some (by kernel_rfl))
  f173 := Tryz.func23.trans (congrArg some (by kernel_rfl))
  f246 := Tryz.func36.trans (congrArg some (by kernel_rfl))
  f283 := Tryz.func75.trans (congrArg some (by kernel_rfl))
  f284 := Tryz.func76.trans (congrArg some (by kernel_rfl))
  f285 := Tryz.func77.trans (congrArg some (by kernel_rfl))
  f286 := Tryz.func78.trans (congrArg some (by kernel_rfl))
  f317 := Tryz.func99.trans (congrArg some (by kernel_rfl))
  f318 := Tryz.func101.trans (congrArg some (by kernel_rfl))
  f319 := Tryz.func102.trans (congrArg some (by kernel_rfl))
  f320 := Tryz.func103.trans (congrArg some (by kernel_rfl))
  f337 := Tryz.func109.trans (congrArg some (by kernel_rfl))
  f338 := Tryz.func110.trans (congrArg some (by kernel_rfl))
  t0 := Tryz.underlying0
  a0 := Tryz.isAgg0
  z0 := Tryz.sizeOf0
  v0 := Tryz.zeroValue0
  t2 := Tryz.underlying2
  a2 := Tryz.isAgg2
  z2 := Tryz.sizeOf2
  v2 := Tryz.zeroValue2
  t3 := Tryz.underlying3
  a3 := Tryz.isAgg3
  z3 := Tryz.sizeOf3
  v3 := Tryz.zeroValue3
  t4 := Tryz.underlying4
  a4 := Tryz.isAgg4
  z4 := Tryz.sizeOf4
  v4 := Tryz.zeroValue4
  t5 := Tryz.underlying5
  a5 := Tryz.isAgg5
  z5 := Tryz.sizeOf5
  v5 := Tryz.zeroValue5
  t9 := Tryz.underlying9
  a9 := Tryz.isAgg9
  z9 := Tryz.sizeOf9
  v9 := Tryz.zeroValue9
  t20 := Tryz.underlying20
  a20 := Tryz.isAgg20
  z20 := Tryz.sizeOf20
  v20 := Tryz.zeroValue20
  t37 := Tryz.underlying33
  a37 := Tryz.isAgg33
  z37 := Tryz.sizeOf33
  v37 := Tryz.zeroValue33
  t46 := Tryz.underlying98
  a46 := Tryz.isAgg98
  z46 := Tryz.sizeOf98
  v46 := Tryz.zeroValue98
  t51 := Tryz.underlying22
  a51 := Tryz.isAgg22
  z51 := Tryz.sizeOf22
  v51 := Tryz.zeroValue22
  t53 := Tryz.underlying42
  a53 := Tryz.isAgg42
  z53 := Tryz.sizeOf42
  v53 := Tryz.zeroValue42
  t171 := Tryz.underlying147
  a171 := Tryz.isAgg147
  z171 := Tryz.sizeOf147
  v171 := Tryz.zeroValue147
  t173 := Tryz.underlying150
  a173 := Tryz.isAgg150
  z173 := Tryz.sizeOf150
  v173 := Tryz.zeroValue150
  t212 := Tryz.underlying168
  a212 := Tryz.isAgg168
  z212 := Tryz.sizeOf168
  v212 := Tryz.zeroValue168
  t213 := Tryz.underlying169
  a213 := Tryz.isAgg169
  z213 := Tryz.sizeOf169
  t232 := Tryz.underlying184
  a232 := Tryz.isAgg184
  z232 := Tryz.sizeOf184
  v232 := Tryz.zeroValue184
  t233 := Tryz.underlying185
  a233 := Tryz.isAgg185
  z233 := Tryz.sizeOf185
  v233 := Tryz.zeroValue185
  g17 := by kernel_rfl
  g18 := by kernel_rfl
  g19 := by kernel_rfl }
open Go.RowKit Go.Sort Go.Lib in
/-- THE ROAD WITHOUT THE TABLE: 0 <= i < 100. (LAID: no walk: one application.) -/
theorem Tryz.strconv_FormatInt_10_small (i : Nat) (hi : i < 100) (w : World) :
    Calls Tryz.prog 23 #[.int .i64 i, .int .i64 10] w fun e w' => e = .returned (.string ⟨(Lib.decDigits i).toArray⟩) ∧ w' = w := Any.strconv_FormatInt_10_small Tryz.lays173 i hi w
def Tryz.laysBin27_ren : Go.Shelf.Ren := ⟨fun | 27 => 112 | n => n, fun | 25 => 138 | 22 => 33 | 23 => 27 | 0 => 0 | 5 => 5 | 45 => 98 | n => n, fun | n => n⟩
theorem Tryz.laysBin27 : Go.Proofs.LaysBin.n27 Tryz.prog Tryz.laysBin27_ren := {
  mixed := by kernel_rfl
  f27 := Tryz.func112.trans (congrArg some (by kernel_rfl))
  t0 := Tryz.underlying0
  a0 := Tryz.isAgg0
  z0 := Tryz.sizeOf0
  v0 := Tryz.zeroValue0
  i0 := by kernel_rfl
  t5 := Tryz.underlying5
  a5 := Tryz.isAgg5
  z5 := Tryz.sizeOf5
  v5 := Tryz.zeroValue5
  i5 := by kernel_rfl
  t22 := Tryz.underlying33
  a22 := Tryz.isAgg33
  z22 := Tryz.sizeOf33
  v22 := Tryz.zeroValue33
  i22 := by kernel_rfl
  t23 := Tryz.underlying27
  a23 := Tryz.isAgg27
  z23 := Tryz.sizeOf27
  v23 := Tryz.zeroValue27
  i23 := by kernel_rfl
  t25 := Tryz.underlying138
  a25 := Tryz.isAgg138
  z25 := Tryz.sizeOf138
  v25 := Tryz.zeroValue138
  i25 := by kernel_rfl
  t45 := Tryz.underlying98
  a45 := Tryz.isAgg98
  z45 := Tryz.sizeOf98
  v45 := Tryz.zeroValue98
  i45 := by kernel_rfl }
open Go.RowKit in
/-- binary.LittleEndian.Uint16: "Uint16 returns the uint16 representation of b[0:2].": THE NUMBER THAT THE FIRST 2 BYTES SPELL, the least byte first ('Lib.leNat'). Of what was there nothing has turned (the receiver, an empty struct, is laid in a new block without cells; the statement's order is drawn). (LAID: no walk: one application.) -/
theorem Tryz.binary_LE_Uint16 (g o n c : Nat) (b0 b1 : UInt8) (w : World) (hn : 2 ≤ n) (c0 : w.cell? ⟨g, o, none⟩ = some (.int .u8 b0.toNat)) (c1 : w.cell? ⟨g, o + 1, none⟩ = some (.int .u8 b1.toNat)) :
    Calls Tryz.prog 112 #[.agg #[], .slice (some ⟨g, o, none⟩) n c] w fun e w' => e = .returned (.int .u16 (Lib.leNat [b0, b1])) ∧ Below w.heap.size w w' := Any.binary_LE_Uint16 Tryz.laysBin27 g o n c b0 b1 w hn c0 c1
def Tryz.laysBin30_ren : Go.Shelf.Ren := ⟨fun | 30 => 72 | n => n, fun | 25 => 138 | 22 => 33 | 29 => 22 | 0 => 0 | 5 => 5 | 45 => 98 | n => n, fun | n => n⟩
theorem Tryz.laysBin30 : Go.Proofs.LaysBin.n30 Tryz.prog Tryz.laysBin30_ren := {
  mixed := by kernel_rfl
  f30 := Tryz.func72.trans (congrArg some (by kernel_rfl))
  t0 := Tryz.underlying0
  a0 := Tryz.isAgg0
  z0 := Tryz.sizeOf0
  v0 := Tryz.zeroValue0
  i0 := by kernel_rfl
  t5 := Tryz.underlying5
  a5 := Tryz.isAgg5
  z5 := Tryz.sizeOf5
  v5 := Tryz.zeroValue5
  i5 := by kernel_rfl
  t22 := Tryz.underlying33
  a22 := Tryz.isAgg33
  z22 := Tryz.sizeOf33
  v22 := Tryz.zeroValue33
  i22 := by kernel_rfl
  t25 := Tryz.underlying138
  a25 := Tryz.isAgg138
  z25 := Tryz.sizeOf138
  v25 := Tryz.zeroValue138
  i25 := by kernel_rfl
  t29 := Tryz.underlying22
  a29 := Tryz.isAgg22
  z29 := Tryz.sizeOf22
  v29 := Tryz.zeroValue22
  i29 := by kernel_rfl
  t45 := Tryz.underlying98
  a45 := Tryz.isAgg98
  z45 := Tryz.sizeOf98
  v45 := Tryz.zeroValue98
  i45 := by kernel_rfl }
open Go.RowKit in
/-- binary.LittleEndian.Uint32: "Uint32 returns the uint32 representation of b[0:4].": THE NUMBER THAT THE FIRST 4 BYTES SPELL, the least byte first ('Lib.leNat'). Of what was there nothing has turned (the receiver, an empty struct, is laid in a new block without cells; the statement's order is drawn). (LAID: no walk: one application.) -/
theorem Tryz.binary_LE_Uint32 (g o n c : Nat) (b0 b1 b2 b3 : UInt8) (w : World) (hn : 4 ≤ n) (c0 : w.cell? ⟨g, o, none⟩ = some (.int .u8 b0.toNat)) (c1 : w.cell? ⟨g, o + 1, none⟩ = some (.int .u8 b1.toNat)) (c2 : w.cell? ⟨g, o + 2, none⟩ = some (.int .u8 b2.toNat)) (c3 : w.cell? ⟨g, o + 3, none⟩ = some (.int .u8 b3.toNat)) :
    Calls Tryz.prog 72 #[.agg #[], .slice (some ⟨g, o, none⟩) n c] w fun e w' => e = .returned (.int .u32 (Lib.leNat [b0, b1, b2, b3])) ∧ Below w.heap.size w w' := Any.binary_LE_Uint32 Tryz.laysBin30 g o n c b0 b1 b2 b3 w hn c0 c1 c2 c3
def Tryz.laysBin33_ren : Go.Shelf.Ren := ⟨fun | 33 => 71 | n => n, fun | 25 => 138 | 22 => 33 | 33 => 42 | 0 => 0 | 5 => 5 | 45 => 98 | n => n, fun | n => n⟩
theorem Tryz.laysBin33 : Go.Proofs.LaysBin.n33 Tryz.prog Tryz.laysBin33_ren := {
  mixed := by kernel_rfl
  f33 := Tryz.func71.trans (congrArg some (by kernel_rfl))
  t0 := Tryz.underlying0
  a0 := Tryz.isAgg0
  z0 := Tryz.sizeOf0
  v0 := Tryz.zeroValue0
  i0 := by kernel_rfl
  t5 := Tryz.underlying5
  a5 := Tryz.isAgg5
  z5 := Tryz.sizeOf5
  v5 := Tryz.zeroValue5
  i5 := by kernel_rfl
  t22 := Tryz.underlying33
  a22 := Tryz.isAgg33
  z22 := Tryz.sizeOf33
  v22 := Tryz.zeroValue33
  i22 := by kernel_rfl
  t25 := Tryz.underlying138
  a25 := Tryz.isAgg138
  z25 := Tryz.sizeOf138
  v25 := Tryz.zeroValue138
  i25 := by kernel_rfl
  t33 := Tryz.underlying42
  a33 := Tryz.isAgg42
  z33 := Tryz.sizeOf42
  v33 := Tryz.zeroValue42
  i33 := by kernel_rfl
  t45 := Tryz.underlying98
  a45 := Tryz.isAgg98
  z45 := Tryz.sizeOf98
  v45 := Tryz.zeroValue98
  i45 := by kernel_rfl }
open Go.RowKit in
/-- binary.LittleEndian.Uint64: "Uint64 returns the uint64 representation of b[0:8].": THE NUMBER THAT THE FIRST 8 BYTES SPELL, the least byte first ('Lib.leNat'). Of what was there nothing has turned (the receiver, an empty struct, is laid in a new block without cells; the statement's order is drawn). (LAID: no walk: one application.) -/
theorem Tryz.binary_LE_Uint64 (g o n c : Nat) (b0 b1 b2 b3 b4 b5 b6 b7 : UInt8) (w : World) (hn : 8 ≤ n) (c0 : w.cell? ⟨g, o, none⟩ = some (.int .u8 b0.toNat)) (c1 : w.cell? ⟨g, o + 1, none⟩ = some (.int .u8 b1.toNat)) (c2 : w.cell? ⟨g, o + 2, none⟩ = some (.int .u8 b2.toNat)) (c3 : w.cell? ⟨g, o + 3, none⟩ = some (.int .u8 b3.toNat)) (c4 : w.cell? ⟨g, o + 4, none⟩ = some (.int .u8 b4.toNat)) (c5 : w.cell? ⟨g, o + 5, none⟩ = some (.int .u8 b5.toNat)) (c6 : w.cell? ⟨g, o + 6, none⟩ = some (.int .u8 b6.toNat)) (c7 : w.cell? ⟨g, o + 7, none⟩ = some (.int .u8 b7.toNat)) :
    Calls Tryz.prog 71 #[.agg #[], .slice (some ⟨g, o, none⟩) n c] w fun e w' => e = .returned (.int .u64 (Lib.leNat [b0, b1, b2, b3, b4, b5, b6, b7])) ∧ Below w.heap.size w w' := Any.binary_LE_Uint64 Tryz.laysBin33 g o n c b0 b1 b2 b3 b4 b5 b6 b7 w hn c0 c1 c2 c3 c4 c5 c6 c7
open Go.RowKit in
/-- binary.LittleEndian.Uint16, ITS PREMISES 'open_ints'' CONCLUSION TO THE LETTER: a slice at WHATEVER address a, the numbers zs that its cells hold: THE NUMBER THAT THE FIRST 2 SPELL ('Lib.leZ'). (LAID: no walk: one application.) -/
theorem Tryz.binary_LE_Uint16_z (a : Addr) (n c : Nat) (zs : List Int) (w : World) (hn : 2 ≤ n) (hl : 2 ≤ zs.length) (hcell : ∀ i, i < zs.length → w.cell? (a.add i) = some (.int .u8 (zs.getD i 0))) (hw : ∀ z ∈ zs, (Lit.int .u8 z).wf = true) :
    Calls Tryz.prog 112 #[.agg #[], .slice (some a) n c] w fun e w' => e = .returned (.int .u16 (Lib.leZ (zs.take 2))) ∧ Below w.heap.size w w' := Any.binary_LE_Uint16_z Tryz.laysBin27 a n c zs w hn hl hcell hw
open Go.RowKit in
/-- binary.LittleEndian.Uint32, ITS PREMISES 'open_ints'' CONCLUSION TO THE LETTER: a slice at WHATEVER address a, the numbers zs that its cells hold: THE NUMBER THAT THE FIRST 4 SPELL ('Lib.leZ'). (LAID: no walk: one application.) -/
theorem Tryz.binary_LE_Uint32_z (a : Addr) (n c : Nat) (zs : List Int) (w : World) (hn : 4 ≤ n) (hl : 4 ≤ zs.length) (hcell : ∀ i, i < zs.length → w.cell? (a.add i) = some (.int .u8 (zs.getD i 0))) (hw : ∀ z ∈ zs, (Lit.int .u8 z).wf = true) :
    Calls Tryz.prog 72 #[.agg #[], .slice (some a) n c] w fun e w' => e = .returned (.int .u32 (Lib.leZ (zs.take 4))) ∧ Below w.heap.size w w' := Any.binary_LE_Uint32_z Tryz.laysBin30 a n c zs w hn hl hcell hw
open Go.RowKit in
/-- binary.LittleEndian.Uint64, ITS PREMISES 'open_ints'' CONCLUSION TO THE LETTER: a slice at WHATEVER address a, the numbers zs that its cells hold: THE NUMBER THAT THE FIRST 8 SPELL ('Lib.leZ'). (LAID: no walk: one application.) -/
theorem Tryz.binary_LE_Uint64_z (a : Addr) (n c : Nat) (zs : List Int) (w : World) (hn : 8 ≤ n) (hl : 8 ≤ zs.length) (hcell : ∀ i, i < zs.length → w.cell? (a.add i) = some (.int .u8 (zs.getD i 0))) (hw : ∀ z ∈ zs, (Lit.int .u8 z).wf = true) :
    Calls Tryz.prog 71 #[.agg #[], .slice (some a) n c] w fun e w' => e = .returned (.int .u64 (Lib.leZ (zs.take 8))) ∧ Below w.heap.size w w' := Any.binary_LE_Uint64_z Tryz.laysBin33 a n c zs w hn hl hcell hw
end Go.Proofs
