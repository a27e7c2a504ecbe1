/-
  DERIVED: THE SHELF's CONTRACTS AT THIS DUMP, IN PLAIN WORDS (tools/lay-plain.mjs out of 'TryzShelf.lean', which tools/lay-shelf.mjs wrote): THE SAME DECLARATIONS UNDER THE SAME NAMES: 'import', 'namespace', 'open', 'def', 'theorem' AND NOTHING ELSE: no command of the shelf's: FOR A HAND-IN. Each laying: the table of numbers ('.._ren') and one theorem, a field a fact of the dump's own or the kernel's comparison; each contract: ONE APPLICATION.
-/
import Derived.Shelf.Small.Bits
import Derived.Shelf.Strconv.Itoa0
import Derived.Shelf.Strconv.Itoa1
import Derived.Shelf.LaysM
import Derived.Shelf.Strconv.Itoa2
import Derived.Shelf.Strconv.Itoa3
import Derived.Shelf.Strconv.Clone
import Derived.Shelf.Strconv.SyntaxError
import Derived.Shelf.LaysC
import Derived.Shelf.Strconv.ToError
import Derived.Shelf.Strconv.Lower
import Derived.Shelf.Strconv.RangeError
import Derived.Shelf.Strconv.ToErrorRange
import Derived.Shelf.Strconv.ParseUintEmpty
import Derived.Shelf.Sort.Plain
import Derived.Shelf.Strings.Prefix
import Derived.Shelf.Slices.Equal
import Derived.Shelf.Slices.CompactS
import Derived.Shelf.Slices.Cells
import Derived.Shelf.Slices.In.SortNone
import Derived.Shelf.Slices.Empties2
import Derived.Test.Qxb6616331aGreatDoorProg
namespace Go.Proofs
open Go.Shelf
def Tryz.lays128_ren : Go.Shelf.Ren := ⟨fun | 128 => 90 | n => n, fun | 51 => 128 | 3 => 3 | 4 => 4 | 46 => 78 | 5 => 5 | 9 => 9 | n => n, fun | n => n⟩
theorem Tryz.lays128 : Go.Proofs.Lays.n128 Tryz.prog Tryz.lays128_ren := {
  mixed := by kernel_rfl
  f128 := Tryz.func90.trans (congrArg some (by kernel_rfl))
  t3 := Tryz.underlying3
  a3 := Tryz.isAgg3
  z3 := Tryz.sizeOf3
  v3 := Tryz.zeroValue3
  t4 := Tryz.underlying4
  a4 := Tryz.isAgg4
  z4 := Tryz.sizeOf4
  v4 := Tryz.zeroValue4
  t5 := Tryz.underlying5
  a5 := Tryz.isAgg5
  z5 := Tryz.sizeOf5
  v5 := Tryz.zeroValue5
  t9 := Tryz.underlying9
  a9 := Tryz.isAgg9
  z9 := Tryz.sizeOf9
  v9 := Tryz.zeroValue9
  t46 := Tryz.underlying78
  a46 := Tryz.isAgg78
  z46 := Tryz.sizeOf78
  v46 := Tryz.zeroValue78
  t51 := Tryz.underlying128
  a51 := Tryz.isAgg128
  z51 := Tryz.sizeOf128
  v51 := Tryz.zeroValue128 }
/-- bits.Len32: "Len32 returns the minimum number of bits required to represent x; the result is 0 for x == 0.": IT RETURNS 'Lib.bitLen x'; the world is as it was. ('h0', 'h1': x is a uint32.) (LAID: no walk: one application.) -/
theorem Tryz.bits_Len32 (x : Int) (w : World) (h0 : 0 ≤ x) (h1 : x ≤ 4294967295) :
    Calls Tryz.prog 90 #[.int .u32 x] w fun e w' => e = .returned (.int .i64 (Lib.bitLen x.toNat)) ∧ w' = w := Any.bits_Len32 Tryz.lays128 x w h0 h1
def Tryz.lays125_ren : Go.Shelf.Ren := ⟨fun | 125 => 78 | 128 => 90 | 129 => 91 | n => n, fun | 46 => 78 | 3 => 3 | 51 => 128 | 53 => 22 | 4 => 4 | 5 => 5 | 9 => 9 | n => n, fun | n => n⟩
theorem Tryz.lays125 : Go.Proofs.Lays.n125 Tryz.prog Tryz.lays125_ren := {
  mixed := by kernel_rfl
  f125 := Tryz.func78.trans (congrArg some (by kernel_rfl))
  f128 := Tryz.func90.trans (congrArg some (by kernel_rfl))
  f129 := Tryz.func91.trans (congrArg some (by kernel_rfl))
  t3 := Tryz.underlying3
  a3 := Tryz.isAgg3
  z3 := Tryz.sizeOf3
  v3 := Tryz.zeroValue3
  t4 := Tryz.underlying4
  a4 := Tryz.isAgg4
  z4 := Tryz.sizeOf4
  v4 := Tryz.zeroValue4
  t5 := Tryz.underlying5
  a5 := Tryz.isAgg5
  z5 := Tryz.sizeOf5
  v5 := Tryz.zeroValue5
  t9 := Tryz.underlying9
  a9 := Tryz.isAgg9
  z9 := Tryz.sizeOf9
  v9 := Tryz.zeroValue9
  t46 := Tryz.underlying78
  a46 := Tryz.isAgg78
  z46 := Tryz.sizeOf78
  v46 := Tryz.zeroValue78
  t51 := Tryz.underlying128
  a51 := Tryz.isAgg128
  z51 := Tryz.sizeOf128
  v51 := Tryz.zeroValue128
  t53 := Tryz.underlying22
  a53 := Tryz.isAgg22
  z53 := Tryz.sizeOf22
  v53 := Tryz.zeroValue22 }
/-- bits.Len: "Len returns the minimum number of bits required to represent x; the result is 0 for x == 0.": IT RETURNS 'Lib.bitLen x'; the world is as it was. (A uint has 64 bits in the model.) ITS CALLEE bits.Len64 IS MET BY ITS OWN CONTRACT OFF THE SHELF (lay that first). (LAID: no walk: one application.) -/
theorem Tryz.bits_Len (x : Int) (w : World) (h0 : 0 ≤ x) (h1 : x ≤ 18446744073709551615) :
    Calls Tryz.prog 78 #[.int .u64 x] w fun e w' => e = .returned (.int .i64 (Lib.bitLen x.toNat)) ∧ w' = w := Any.bits_Len Tryz.lays125 x w h0 h1
def Tryz.lays129_ren : Go.Shelf.Ren := ⟨fun | 129 => 91 | n => n, fun | 53 => 22 | 3 => 3 | 4 => 4 | 46 => 78 | 5 => 5 | 9 => 9 | n => n, fun | n => n⟩
theorem Tryz.lays129 : Go.Proofs.Lays.n129 Tryz.prog Tryz.lays129_ren := {
  mixed := by kernel_rfl
  f129 := Tryz.func91.trans (congrArg some (by kernel_rfl))
  t3 := Tryz.underlying3
  a3 := Tryz.isAgg3
  z3 := Tryz.sizeOf3
  v3 := Tryz.zeroValue3
  t4 := Tryz.underlying4
  a4 := Tryz.isAgg4
  z4 := Tryz.sizeOf4
  v4 := Tryz.zeroValue4
  t5 := Tryz.underlying5
  a5 := Tryz.isAgg5
  z5 := Tryz.sizeOf5
  v5 := Tryz.zeroValue5
  t9 := Tryz.underlying9
  a9 := Tryz.isAgg9
  z9 := Tryz.sizeOf9
  v9 := Tryz.zeroValue9
  t46 := Tryz.underlying78
  a46 := Tryz.isAgg78
  z46 := Tryz.sizeOf78
  v46 := Tryz.zeroValue78
  t53 := Tryz.underlying22
  a53 := Tryz.isAgg22
  z53 := Tryz.sizeOf22
  v53 := Tryz.zeroValue22 }
/-- bits.Len64: "Len64 returns the minimum number of bits required to represent x; the result is 0 for x == 0.": IT RETURNS 'Lib.bitLen x'; the world is as it was. ('h0', 'h1': x is a uint64.) (LAID: no walk: one application.) -/
theorem Tryz.bits_Len64 (x : Int) (w : World) (h0 : 0 ≤ x) (h1 : x ≤ 18446744073709551615) :
    Calls Tryz.prog 91 #[.int .u64 x] w fun e w' => e = .returned (.int .i64 (Lib.bitLen x.toNat)) ∧ w' = w := Any.bits_Len64 Tryz.lays129 x w h0 h1
def Tryz.lays317_ren : Go.Shelf.Ren := ⟨fun | 317 => 104 | n => n, fun | 3 => 3 | 46 => 78 | n => n, fun | n => n⟩
theorem Tryz.lays317 : Go.Proofs.Lays.n317 Tryz.prog Tryz.lays317_ren := {
  mixed := by kernel_rfl
  f317 := Tryz.func104.trans (congrArg some (by kernel_rfl))
  t3 := Tryz.underlying3
  a3 := Tryz.isAgg3
  z3 := Tryz.sizeOf3
  v3 := Tryz.zeroValue3
  t46 := Tryz.underlying78
  a46 := Tryz.isAgg78
  z46 := Tryz.sizeOf78
  v46 := Tryz.zeroValue78 }
open Go.Lib in
/-- internal/strconv.log10Pow2: "log10Pow2(x) returns ⌊log₁₀ 2**x⌋ = ⌊x * log₁₀ 2⌋.": '(x * 78913) >> 18', at an x up to 64 (a length in bits). The world is as it was. (LAID: no walk: one application.) -/
theorem Tryz.internal_strconv_log10Pow2 (x : Nat) (h : x ≤ 64) (w : World) :
    Calls Tryz.prog 104 #[.int .i64 x] w fun e w' => e = .returned (.int .i64 (Lib.l10 x)) ∧ w' = w := Any.internal_strconv_log10Pow2 Tryz.lays317 x h w
def Tryz.lays318_ren : Go.Shelf.Ren := ⟨fun | 318 => 105 | n => n, fun | 3 => 3 | 4 => 4 | n => n, fun | n => n⟩
theorem Tryz.lays318 : Go.Proofs.Lays.n318 Tryz.prog Tryz.lays318_ren := {
  mixed := by kernel_rfl
  f318 := Tryz.func105.trans (congrArg some (by kernel_rfl))
  t3 := Tryz.underlying3
  a3 := Tryz.isAgg3
  z3 := Tryz.sizeOf3
  v3 := Tryz.zeroValue3
  t4 := Tryz.underlying4
  a4 := Tryz.isAgg4
  z4 := Tryz.sizeOf4
  v4 := Tryz.zeroValue4 }
open Go.Lib in
/-- internal/strconv.bool2: "bool2 converts b to an integer: 1 for true, 0 for false." The world is as it was. (LAID: no walk: one application.) -/
theorem Tryz.internal_strconv_bool2_int (b : Bool) (w : World) :
    Calls Tryz.prog 105 #[.bool b] w fun e w' => e = .returned (.int .i64 (if b then 1 else 0)) ∧ w' = w := Any.internal_strconv_bool2_int Tryz.lays318 b w
def Tryz.lays283_ren : Go.Shelf.Ren := ⟨fun | 283 => 99 | n => n, fun | 3 => 3 | 9 => 9 | 4 => 4 | n => n, fun | n => n⟩
theorem Tryz.lays283 : Go.Proofs.Lays.n283 Tryz.prog Tryz.lays283_ren := {
  mixed := by kernel_rfl
  f283 := Tryz.func99.trans (congrArg some (by kernel_rfl))
  t3 := Tryz.underlying3
  a3 := Tryz.isAgg3
  z3 := Tryz.sizeOf3
  v3 := Tryz.zeroValue3
  t4 := Tryz.underlying4
  a4 := Tryz.isAgg4
  z4 := Tryz.sizeOf4
  v4 := Tryz.zeroValue4
  t9 := Tryz.underlying9
  a9 := Tryz.isAgg9
  z9 := Tryz.sizeOf9
  v9 := Tryz.zeroValue9 }
open Go.Lib in
/-- internal/strconv.small: "small returns the string for an i with 0 <= i < nSmalls.": i's decimal numeral. The world is as it was. (LAID: no walk: one application.) -/
theorem Tryz.internal_strconv_small (i : Nat) (h : i < 100) (w : World) :
    Calls Tryz.prog 99 #[.int .i64 i] w fun e w' => e = .returned (.string ⟨(Lib.decDigits i).toArray⟩) ∧ w' = w := Any.internal_strconv_small Tryz.lays283 i h w
def Tryz.laysM284_ren : Go.Shelf.Ren := ⟨fun | 284 => 100 | 129 => 91 | 317 => 104 | 318 => 105 | n => n, fun | 53 => 22 | 3 => 3 | 212 => 145 | 0 => 0 | 4 => 4 | 46 => 78 | 5 => 5 | 9 => 9 | n => n, fun | 17 => 2 | n => n⟩
theorem Tryz.laysM284 : Go.Proofs.LaysM.n284 Tryz.prog Tryz.laysM284_ren := {
  mixed := by kernel_rfl
  f129 := Tryz.func91.trans (congrArg some (by kernel_rfl))
  f284 := Tryz.func100.trans (congrArg some (by kernel_rfl))
  f317 := Tryz.func104.trans (congrArg some (by kernel_rfl))
  f318 := Tryz.func105.trans (congrArg some (by kernel_rfl))
  t0 := Tryz.underlying0
  a0 := Tryz.isAgg0
  z0 := Tryz.sizeOf0
  v0 := Tryz.zeroValue0
  t3 := Tryz.underlying3
  a3 := Tryz.isAgg3
  z3 := Tryz.sizeOf3
  v3 := Tryz.zeroValue3
  t4 := Tryz.underlying4
  a4 := Tryz.isAgg4
  z4 := Tryz.sizeOf4
  v4 := Tryz.zeroValue4
  t5 := Tryz.underlying5
  a5 := Tryz.isAgg5
  z5 := Tryz.sizeOf5
  v5 := Tryz.zeroValue5
  t9 := Tryz.underlying9
  a9 := Tryz.isAgg9
  z9 := Tryz.sizeOf9
  v9 := Tryz.zeroValue9
  t46 := Tryz.underlying78
  a46 := Tryz.isAgg78
  z46 := Tryz.sizeOf78
  v46 := Tryz.zeroValue78
  t53 := Tryz.underlying22
  a53 := Tryz.isAgg22
  z53 := Tryz.sizeOf22
  v53 := Tryz.zeroValue22
  t212 := Tryz.underlying145
  a212 := Tryz.isAgg145
  z212 := Tryz.sizeOf145
  v212 := Tryz.zeroValue145
  g17 := by kernel_rfl
  i0 := by kernel_rfl
  i3 := by kernel_rfl
  i4 := by kernel_rfl
  i5 := by kernel_rfl
  i9 := by kernel_rfl
  i46 := by kernel_rfl
  i53 := by kernel_rfl
  i212 := by kernel_rfl
  m17 := by kernel_rfl }
open Go.Lib in
/-- internal/strconv.numDigits, at a d that is not 0: THE NUMBER OF d's DECIMAL DIGITS. The world is as it was. (LAID: no walk: one application.) -/
theorem Tryz.internal_strconv_numDigits (u : Nat) (h1 : 1 ≤ u) (h2 : u < 18446744073709551616) (w : World) (htab : Lib.TabIs Tryz.prog w "internal/strconv.uint64pow10" .u64 Lib.pow10Tab) :
    Calls Tryz.prog 100 #[.int .u64 u] w fun e w' => e = .returned (.int .i64 (Lib.nDigits u)) ∧ w' = w := Any.internal_strconv_numDigits Tryz.laysM284 u h1 h2 w htab
def Tryz.lays285_ren : Go.Shelf.Ren := ⟨fun | 285 => 101 | n => n, fun | 37 => 79 | 53 => 22 | 3 => 3 | 4 => 4 | 51 => 128 | 9 => 9 | 5 => 5 | 0 => 0 | n => n, fun | n => n⟩
theorem Tryz.lays285 : Go.Proofs.Lays.n285 Tryz.prog Tryz.lays285_ren := {
  mixed := by kernel_rfl
  f285 := Tryz.func101.trans (congrArg some (by kernel_rfl))
  t0 := Tryz.underlying0
  a0 := Tryz.isAgg0
  z0 := Tryz.sizeOf0
  v0 := Tryz.zeroValue0
  t3 := Tryz.underlying3
  a3 := Tryz.isAgg3
  z3 := Tryz.sizeOf3
  v3 := Tryz.zeroValue3
  t4 := Tryz.underlying4
  a4 := Tryz.isAgg4
  z4 := Tryz.sizeOf4
  v4 := Tryz.zeroValue4
  t5 := Tryz.underlying5
  a5 := Tryz.isAgg5
  z5 := Tryz.sizeOf5
  v5 := Tryz.zeroValue5
  t9 := Tryz.underlying9
  a9 := Tryz.isAgg9
  z9 := Tryz.sizeOf9
  v9 := Tryz.zeroValue9
  t37 := Tryz.underlying79
  a37 := Tryz.isAgg79
  z37 := Tryz.sizeOf79
  v37 := Tryz.zeroValue79
  t51 := Tryz.underlying128
  a51 := Tryz.isAgg128
  z51 := Tryz.sizeOf128
  v51 := Tryz.zeroValue128
  t53 := Tryz.underlying22
  a53 := Tryz.isAgg22
  z53 := Tryz.sizeOf22
  v53 := Tryz.zeroValue22 }
open Go.RowKit Go.Sort Go.Lib in
/-- internal/strconv.formatBase10: "formatBase10 formats the decimal representation of u into a. The caller is responsible for ensuring that a is big enough to hold u. If a is too big, leading zeros will be filled in as needed.": THE ROW HOLDS u's DIGITS ('FmtInv .. 0 ..': every place t holds 'dg u (len - 1 - t)'); all else is as it was but for the count of draws. (LAID: no walk: one application.) -/
theorem Tryz.internal_strconv_formatBase10 (blk off cap : Nat) (u : Nat) (d : Array UInt8) (w : World) (hH : Holds (fun (b : UInt8) => Value.int .u8 (b.toNat : Int)) w blk off d) (hu : u < 10 ^ d.size) (hu64 : u < 18446744073709551616) (hsz : d.size < 4611686018427387904) :
    Calls Tryz.prog 101 #[.slice (some ⟨blk, off, none⟩) d.size cap, .int .u64 u] w fun e w' =>
      e = .returned (.tuple #[]) ∧ ∃ (n v' : Nat) (dk : Array UInt8), w' = (putRow (fun (b : UInt8) => Value.int .u8 (b.toNat : Int)) w blk off dk).drewN n ∧ FmtInv d.size u 0 v' dk := Any.internal_strconv_formatBase10 Tryz.lays285 blk off cap u d w hH hu hu64 hsz
def Tryz.laysM246_ren : Go.Shelf.Ren := ⟨fun | 246 => 93 | 283 => 99 | 284 => 100 | 285 => 101 | 286 => 102 | 129 => 91 | 317 => 104 | 318 => 105 | 319 => 106 | 320 => 107 | 337 => 108 | 338 => 109 | n => n, fun | 2 => 2 | 3 => 3 | 9 => 9 | 4 => 4 | 171 => 136 | 0 => 0 | 53 => 22 | 37 => 79 | 5 => 5 | 173 => 138 | 212 => 145 | 51 => 128 | 20 => 20 | 213 => 146 | 46 => 78 | 232 => 148 | 233 => 149 | n => n, fun | 17 => 2 | 18 => 3 | 19 => 4 | n => n⟩
theorem Tryz.laysM246 : Go.Proofs.LaysM.n246 Tryz.prog Tryz.laysM246_ren := {
  mixed := by kernel_rfl
  f129 := Tryz.func91.trans (congrArg some (by kernel_rfl))
  f246 := Tryz.func93.trans (congrArg some (by kernel_rfl))
  f283 := Tryz.func99.trans (congrArg some (by kernel_rfl))
  f284 := Tryz.func100.trans (congrArg some (by kernel_rfl))
  f285 := Tryz.func101.trans (congrArg some (by kernel_rfl))
  f286 := Tryz.func102.trans (congrArg some (by kernel_rfl))
  f317 := Tryz.func104.trans (congrArg some (by kernel_rfl))
  f318 := Tryz.func105.trans (congrArg some (by kernel_rfl))
  f319 := Tryz.func106.trans (congrArg some (by kernel_rfl))
  f320 := Tryz.func107.trans (congrArg some (by kernel_rfl))
  f337 := Tryz.func108.trans (congrArg some (by kernel_rfl))
  f338 := Tryz.func109.trans (congrArg some (by kernel_rfl))
  t0 := Tryz.underlying0
  a0 := Tryz.isAgg0
  z0 := Tryz.sizeOf0
  v0 := Tryz.zeroValue0
  t2 := Tryz.underlying2
  a2 := Tryz.isAgg2
  z2 := Tryz.sizeOf2
  v2 := Tryz.zeroValue2
  t3 := Tryz.underlying3
  a3 := Tryz.isAgg3
  z3 := Tryz.sizeOf3
  v3 := Tryz.zeroValue3
  t4 := Tryz.underlying4
  a4 := Tryz.isAgg4
  z4 := Tryz.sizeOf4
  v4 := Tryz.zeroValue4
  t5 := Tryz.underlying5
  a5 := Tryz.isAgg5
  z5 := Tryz.sizeOf5
  v5 := Tryz.zeroValue5
  t9 := Tryz.underlying9
  a9 := Tryz.isAgg9
  z9 := Tryz.sizeOf9
  v9 := Tryz.zeroValue9
  t20 := Tryz.underlying20
  a20 := Tryz.isAgg20
  z20 := Tryz.sizeOf20
  v20 := Tryz.zeroValue20
  t37 := Tryz.underlying79
  a37 := Tryz.isAgg79
  z37 := Tryz.sizeOf79
  v37 := Tryz.zeroValue79
  t46 := Tryz.underlying78
  a46 := Tryz.isAgg78
  z46 := Tryz.sizeOf78
  v46 := Tryz.zeroValue78
  t51 := Tryz.underlying128
  a51 := Tryz.isAgg128
  z51 := Tryz.sizeOf128
  v51 := Tryz.zeroValue128
  t53 := Tryz.underlying22
  a53 := Tryz.isAgg22
  z53 := Tryz.sizeOf22
  v53 := Tryz.zeroValue22
  t171 := Tryz.underlying136
  a171 := Tryz.isAgg136
  z171 := Tryz.sizeOf136
  v171 := Tryz.zeroValue136
  t173 := Tryz.underlying138
  a173 := Tryz.isAgg138
  z173 := Tryz.sizeOf138
  v173 := Tryz.zeroValue138
  t212 := Tryz.underlying145
  a212 := Tryz.isAgg145
  z212 := Tryz.sizeOf145
  v212 := Tryz.zeroValue145
  t213 := Tryz.underlying146
  a213 := Tryz.isAgg146
  z213 := Tryz.sizeOf146
  t232 := Tryz.underlying148
  a232 := Tryz.isAgg148
  z232 := Tryz.sizeOf148
  v232 := Tryz.zeroValue148
  t233 := Tryz.underlying149
  a233 := Tryz.isAgg149
  z233 := Tryz.sizeOf149
  v233 := Tryz.zeroValue149
  g17 := by kernel_rfl
  g18 := by kernel_rfl
  g19 := by kernel_rfl
  i0 := by kernel_rfl
  i2 := by kernel_rfl
  i3 := by kernel_rfl
  i4 := by kernel_rfl
  i5 := by kernel_rfl
  i9 := by kernel_rfl
  i20 := by kernel_rfl
  i37 := by kernel_rfl
  i46 := by kernel_rfl
  i51 := by kernel_rfl
  i53 := by kernel_rfl
  i171 := by kernel_rfl
  i173 := by kernel_rfl
  i212 := by kernel_rfl
  i232 := by kernel_rfl
  i233 := by kernel_rfl
  m17 := by kernel_rfl
  m18 := by kernel_rfl
  m19 := by kernel_rfl }
open Go.RowKit Go.Sort Go.Lib in
/-- internal/strconv.FormatInt: "FormatInt returns the string representation of i in the given base": AT BASE 10: i's decimal numeral, for every int64. The world behind the call: the world before it, new blocks behind the heap, draws. (LAID: no walk: one application.) -/
theorem Tryz.internal_strconv_FormatInt_10 (n : Int) (h0 : -9223372036854775808 ≤ n) (h1 : n ≤ 9223372036854775807) (w : World) (htab : Lib.TabIs Tryz.prog w "internal/strconv.uint64pow10" .u64 Lib.pow10Tab) :
    Calls Tryz.prog 93 #[.int .i64 n, .int .i64 10] w fun e w' => e = .returned (.string ⟨(Lib.itoa n).toArray⟩) ∧ ∃ k os, w' = grow (w.drewN k) os := Any.internal_strconv_FormatInt_10 Tryz.laysM246 n h0 h1 w htab
def Tryz.lays246_ren : Go.Shelf.Ren := ⟨fun | 246 => 93 | 283 => 99 | 284 => 100 | 285 => 101 | 286 => 102 | 129 => 91 | 317 => 104 | 318 => 105 | 319 => 106 | 320 => 107 | 337 => 108 | 338 => 109 | n => n, fun | 2 => 2 | 3 => 3 | 9 => 9 | 4 => 4 | 171 => 136 | 0 => 0 | 53 => 22 | 37 => 79 | 5 => 5 | 173 => 138 | 212 => 145 | 51 => 128 | 20 => 20 | 213 => 146 | 46 => 78 | 232 => 148 | 233 => 149 | n => n, fun | 17 => 2 | 18 => 3 | 19 => 4 | n => n⟩
theorem Tryz.lays246 : Go.Proofs.Lays.n246 Tryz.prog Tryz.lays246_ren := {
  mixed := by kernel_rfl
  f129 := Tryz.func91.trans (congrArg some (by kernel_rfl))
  f246 := Tryz.func93.trans (congrArg some (by kernel_rfl))
  f283 := Tryz.func99.trans (congrArg some (by kernel_rfl))
  f284 := Tryz.func100.trans (congrArg some (by kernel_rfl))
  f285 := Tryz.func101.trans (congrArg some (by kernel_rfl))
  f286 := Tryz.func102.trans (congrArg some (by kernel_rfl))
  f317 := Tryz.func104.trans (congrArg some (by kernel_rfl))
  f318 := Tryz.func105.trans (congrArg some (by kernel_rfl))
  f319 := Tryz.func106.trans (congrArg some (by kernel_rfl))
  f320 := Tryz.func107.trans (congrArg some (by kernel_rfl))
  f337 := Tryz.func108.trans (congrArg some (by kernel_rfl))
  f338 := Tryz.func109.trans (congrArg some (by kernel_rfl))
  t0 := Tryz.underlying0
  a0 := Tryz.isAgg0
  z0 := Tryz.sizeOf0
  v0 := Tryz.zeroValue0
  t2 := Tryz.underlying2
  a2 := Tryz.isAgg2
  z2 := Tryz.sizeOf2
  v2 := Tryz.zeroValue2
  t3 := Tryz.underlying3
  a3 := Tryz.isAgg3
  z3 := Tryz.sizeOf3
  v3 := Tryz.zeroValue3
  t4 := Tryz.underlying4
  a4 := Tryz.isAgg4
  z4 := Tryz.sizeOf4
  v4 := Tryz.zeroValue4
  t5 := Tryz.underlying5
  a5 := Tryz.isAgg5
  z5 := Tryz.sizeOf5
  v5 := Tryz.zeroValue5
  t9 := Tryz.underlying9
  a9 := Tryz.isAgg9
  z9 := Tryz.sizeOf9
  v9 := Tryz.zeroValue9
  t20 := Tryz.underlying20
  a20 := Tryz.isAgg20
  z20 := Tryz.sizeOf20
  v20 := Tryz.zeroValue20
  t37 := Tryz.underlying79
  a37 := Tryz.isAgg79
  z37 := Tryz.sizeOf79
  v37 := Tryz.zeroValue79
  t46 := Tryz.underlying78
  a46 := Tryz.isAgg78
  z46 := Tryz.sizeOf78
  v46 := Tryz.zeroValue78
  t51 := Tryz.underlying128
  a51 := Tryz.isAgg128
  z51 := Tryz.sizeOf128
  v51 := Tryz.zeroValue128
  t53 := Tryz.underlying22
  a53 := Tryz.isAgg22
  z53 := Tryz.sizeOf22
  v53 := Tryz.zeroValue22
  t171 := Tryz.underlying136
  a171 := Tryz.isAgg136
  z171 := Tryz.sizeOf136
  v171 := Tryz.zeroValue136
  t173 := Tryz.underlying138
  a173 := Tryz.isAgg138
  z173 := Tryz.sizeOf138
  v173 := Tryz.zeroValue138
  t212 := Tryz.underlying145
  a212 := Tryz.isAgg145
  z212 := Tryz.sizeOf145
  v212 := Tryz.zeroValue145
  t213 := Tryz.underlying146
  a213 := Tryz.isAgg146
  z213 := Tryz.sizeOf146
  t232 := Tryz.underlying148
  a232 := Tryz.isAgg148
  z232 := Tryz.sizeOf148
  v232 := Tryz.zeroValue148
  t233 := Tryz.underlying149
  a233 := Tryz.isAgg149
  z233 := Tryz.sizeOf149
  v233 := Tryz.zeroValue149
  g17 := by kernel_rfl
  g18 := by kernel_rfl
  g19 := by kernel_rfl }
open Go.RowKit Go.Sort Go.Lib in
/-- THE ROAD WITHOUT THE TABLE: 0 <= i < 100: two constants are read, nothing is laid: no premise on the world, and the world is as it was. (LAID: no walk: one application.) -/
theorem Tryz.internal_strconv_FormatInt_10_small (i : Nat) (hi : i < 100) (w : World) :
    Calls Tryz.prog 93 #[.int .i64 i, .int .i64 10] w fun e w' => e = .returned (.string ⟨(Lib.decDigits i).toArray⟩) ∧ w' = w := Any.internal_strconv_FormatInt_10_small Tryz.lays246 i hi w
def Tryz.laysM243_ren : Go.Shelf.Ren := ⟨fun | 243 => 81 | 246 => 93 | 283 => 99 | 284 => 100 | 285 => 101 | 286 => 102 | 129 => 91 | 317 => 104 | 318 => 105 | 319 => 106 | 320 => 107 | 337 => 108 | 338 => 109 | n => n, fun | 3 => 3 | 9 => 9 | 2 => 2 | 4 => 4 | 171 => 136 | 0 => 0 | 53 => 22 | 37 => 79 | 5 => 5 | 173 => 138 | 212 => 145 | 51 => 128 | 20 => 20 | 213 => 146 | 46 => 78 | 232 => 148 | 233 => 149 | n => n, fun | 17 => 2 | 18 => 3 | 19 => 4 | n => n⟩
theorem Tryz.laysM243 : Go.Proofs.LaysM.n243 Tryz.prog Tryz.laysM243_ren := {
  mixed := by kernel_rfl
  f129 := Tryz.func91.trans (congrArg some (by kernel_rfl))
  f243 := Tryz.func81.trans (congrArg some (by kernel_rfl))
  f246 := Tryz.func93.trans (congrArg some (by kernel_rfl))
  f283 := Tryz.func99.trans (congrArg some (by kernel_rfl))
  f284 := Tryz.func100.trans (congrArg some (by kernel_rfl))
  f285 := Tryz.func101.trans (congrArg some (by kernel_rfl))
  f286 := Tryz.func102.trans (congrArg some (by kernel_rfl))
  f317 := Tryz.func104.trans (congrArg some (by kernel_rfl))
  f318 := Tryz.func105.trans (congrArg some (by kernel_rfl))
  f319 := Tryz.func106.trans (congrArg some (by kernel_rfl))
  f320 := Tryz.func107.trans (congrArg some (by kernel_rfl))
  f337 := Tryz.func108.trans (congrArg some (by kernel_rfl))
  f338 := Tryz.func109.trans (congrArg some (by kernel_rfl))
  t0 := Tryz.underlying0
  a0 := Tryz.isAgg0
  z0 := Tryz.sizeOf0
  v0 := Tryz.zeroValue0
  t2 := Tryz.underlying2
  a2 := Tryz.isAgg2
  z2 := Tryz.sizeOf2
  v2 := Tryz.zeroValue2
  t3 := Tryz.underlying3
  a3 := Tryz.isAgg3
  z3 := Tryz.sizeOf3
  v3 := Tryz.zeroValue3
  t4 := Tryz.underlying4
  a4 := Tryz.isAgg4
  z4 := Tryz.sizeOf4
  v4 := Tryz.zeroValue4
  t5 := Tryz.underlying5
  a5 := Tryz.isAgg5
  z5 := Tryz.sizeOf5
  v5 := Tryz.zeroValue5
  t9 := Tryz.underlying9
  a9 := Tryz.isAgg9
  z9 := Tryz.sizeOf9
  v9 := Tryz.zeroValue9
  t20 := Tryz.underlying20
  a20 := Tryz.isAgg20
  z20 := Tryz.sizeOf20
  v20 := Tryz.zeroValue20
  t37 := Tryz.underlying79
  a37 := Tryz.isAgg79
  z37 := Tryz.sizeOf79
  v37 := Tryz.zeroValue79
  t46 := Tryz.underlying78
  a46 := Tryz.isAgg78
  z46 := Tryz.sizeOf78
  v46 := Tryz.zeroValue78
  t51 := Tryz.underlying128
  a51 := Tryz.isAgg128
  z51 := Tryz.sizeOf128
  v51 := Tryz.zeroValue128
  t53 := Tryz.underlying22
  a53 := Tryz.isAgg22
  z53 := Tryz.sizeOf22
  v53 := Tryz.zeroValue22
  t171 := Tryz.underlying136
  a171 := Tryz.isAgg136
  z171 := Tryz.sizeOf136
  v171 := Tryz.zeroValue136
  t173 := Tryz.underlying138
  a173 := Tryz.isAgg138
  z173 := Tryz.sizeOf138
  v173 := Tryz.zeroValue138
  t212 := Tryz.underlying145
  a212 := Tryz.isAgg145
  z212 := Tryz.sizeOf145
  v212 := Tryz.zeroValue145
  t213 := Tryz.underlying146
  a213 := Tryz.isAgg146
  z213 := Tryz.sizeOf146
  t232 := Tryz.underlying148
  a232 := Tryz.isAgg148
  z232 := Tryz.sizeOf148
  v232 := Tryz.zeroValue148
  t233 := Tryz.underlying149
  a233 := Tryz.isAgg149
  z233 := Tryz.sizeOf149
  v233 := Tryz.zeroValue149
  g17 := by kernel_rfl
  g18 := by kernel_rfl
  g19 := by kernel_rfl
  i0 := by kernel_rfl
  i2 := by kernel_rfl
  i3 := by kernel_rfl
  i4 := by kernel_rfl
  i5 := by kernel_rfl
  i9 := by kernel_rfl
  i20 := by kernel_rfl
  i37 := by kernel_rfl
  i46 := by kernel_rfl
  i51 := by kernel_rfl
  i53 := by kernel_rfl
  i171 := by kernel_rfl
  i173 := by kernel_rfl
  i212 := by kernel_rfl
  i232 := by kernel_rfl
  i233 := by kernel_rfl
  m17 := by kernel_rfl
  m18 := by kernel_rfl
  m19 := by kernel_rfl }
open Go.RowKit Go.Sort Go.Lib in
/-- internal/strconv.Itoa: "Itoa is equivalent to FormatInt(int64(i), 10).": i's decimal numeral, for every int. (LAID: no walk: one application.) -/
theorem Tryz.internal_strconv_Itoa (n : Int) (h0 : -9223372036854775808 ≤ n) (h1 : n ≤ 9223372036854775807) (w : World) (htab : Lib.TabIs Tryz.prog w "internal/strconv.uint64pow10" .u64 Lib.pow10Tab) :
    Calls Tryz.prog 81 #[.int .i64 n] w fun e w' => e = .returned (.string ⟨(Lib.itoa n).toArray⟩) ∧ ∃ k os, w' = grow (w.drewN k) os := Any.internal_strconv_Itoa Tryz.laysM243 n h0 h1 w htab
def Tryz.lays243_ren : Go.Shelf.Ren := ⟨fun | 243 => 81 | 246 => 93 | 283 => 99 | 284 => 100 | 285 => 101 | 286 => 102 | 129 => 91 | 317 => 104 | 318 => 105 | 319 => 106 | 320 => 107 | 337 => 108 | 338 => 109 | n => n, fun | 3 => 3 | 9 => 9 | 2 => 2 | 4 => 4 | 171 => 136 | 0 => 0 | 53 => 22 | 37 => 79 | 5 => 5 | 173 => 138 | 212 => 145 | 51 => 128 | 20 => 20 | 213 => 146 | 46 => 78 | 232 => 148 | 233 => 149 | n => n, fun | 17 => 2 | 18 => 3 | 19 => 4 | n => n⟩
theorem Tryz.lays243 : Go.Proofs.Lays.n243 Tryz.prog Tryz.lays243_ren := {
  mixed := by kernel_rfl
  f129 := Tryz.func91.trans (congrArg some (by kernel_rfl))
  f243 := Tryz.func81.trans (congrArg some (by kernel_rfl))
  f246 := Tryz.func93.trans (congrArg some (by kernel_rfl))
  f283 := Tryz.func99.trans (congrArg some (by kernel_rfl))
  f284 := Tryz.func100.trans (congrArg some (by kernel_rfl))
  f285 := Tryz.func101.trans (congrArg some (by kernel_rfl))
  f286 := Tryz.func102.trans (congrArg some (by kernel_rfl))
  f317 := Tryz.func104.trans (congrArg some (by kernel_rfl))
  f318 := Tryz.func105.trans (congrArg some (by kernel_rfl))
  f319 := Tryz.func106.trans (congrArg some (by kernel_rfl))
  f320 := Tryz.func107.trans (congrArg some (by kernel_rfl))
  f337 := Tryz.func108.trans (congrArg some (by kernel_rfl))
  f338 := Tryz.func109.trans (congrArg some (by kernel_rfl))
  t0 := Tryz.underlying0
  a0 := Tryz.isAgg0
  z0 := Tryz.sizeOf0
  v0 := Tryz.zeroValue0
  t2 := Tryz.underlying2
  a2 := Tryz.isAgg2
  z2 := Tryz.sizeOf2
  v2 := Tryz.zeroValue2
  t3 := Tryz.underlying3
  a3 := Tryz.isAgg3
  z3 := Tryz.sizeOf3
  v3 := Tryz.zeroValue3
  t4 := Tryz.underlying4
  a4 := Tryz.isAgg4
  z4 := Tryz.sizeOf4
  v4 := Tryz.zeroValue4
  t5 := Tryz.underlying5
  a5 := Tryz.isAgg5
  z5 := Tryz.sizeOf5
  v5 := Tryz.zeroValue5
  t9 := Tryz.underlying9
  a9 := Tryz.isAgg9
  z9 := Tryz.sizeOf9
  v9 := Tryz.zeroValue9
  t20 := Tryz.underlying20
  a20 := Tryz.isAgg20
  z20 := Tryz.sizeOf20
  v20 := Tryz.zeroValue20
  t37 := Tryz.underlying79
  a37 := Tryz.isAgg79
  z37 := Tryz.sizeOf79
  v37 := Tryz.zeroValue79
  t46 := Tryz.underlying78
  a46 := Tryz.isAgg78
  z46 := Tryz.sizeOf78
  v46 := Tryz.zeroValue78
  t51 := Tryz.underlying128
  a51 := Tryz.isAgg128
  z51 := Tryz.sizeOf128
  v51 := Tryz.zeroValue128
  t53 := Tryz.underlying22
  a53 := Tryz.isAgg22
  z53 := Tryz.sizeOf22
  v53 := Tryz.zeroValue22
  t171 := Tryz.underlying136
  a171 := Tryz.isAgg136
  z171 := Tryz.sizeOf136
  v171 := Tryz.zeroValue136
  t173 := Tryz.underlying138
  a173 := Tryz.isAgg138
  z173 := Tryz.sizeOf138
  v173 := Tryz.zeroValue138
  t212 := Tryz.underlying145
  a212 := Tryz.isAgg145
  z212 := Tryz.sizeOf145
  v212 := Tryz.zeroValue145
  t213 := Tryz.underlying146
  a213 := Tryz.isAgg146
  z213 := Tryz.sizeOf146
  t232 := Tryz.underlying148
  a232 := Tryz.isAgg148
  z232 := Tryz.sizeOf148
  v232 := Tryz.zeroValue148
  t233 := Tryz.underlying149
  a233 := Tryz.isAgg149
  z233 := Tryz.sizeOf149
  v233 := Tryz.zeroValue149
  g17 := by kernel_rfl
  g18 := by kernel_rfl
  g19 := by kernel_rfl }
open Go.RowKit Go.Sort Go.Lib in
/-- THE ROAD WITHOUT THE TABLE: 0 <= i < 100. (LAID: no walk: one application.) -/
theorem Tryz.internal_strconv_Itoa_small (i : Nat) (hi : i < 100) (w : World) :
    Calls Tryz.prog 81 #[.int .i64 i] w fun e w' => e = .returned (.string ⟨(Lib.decDigits i).toArray⟩) ∧ w' = w := Any.internal_strconv_Itoa_small Tryz.lays243 i hi w
def Tryz.laysM171_ren : Go.Shelf.Ren := ⟨fun | 171 => 75 | 243 => 81 | 246 => 93 | 283 => 99 | 284 => 100 | 285 => 101 | 286 => 102 | 129 => 91 | 317 => 104 | 318 => 105 | 319 => 106 | 320 => 107 | 337 => 108 | 338 => 109 | n => n, fun | 3 => 3 | 9 => 9 | 2 => 2 | 4 => 4 | 171 => 136 | 0 => 0 | 53 => 22 | 37 => 79 | 5 => 5 | 173 => 138 | 212 => 145 | 51 => 128 | 20 => 20 | 213 => 146 | 46 => 78 | 232 => 148 | 233 => 149 | n => n, fun | 17 => 2 | 18 => 3 | 19 => 4 | n => n⟩
theorem Tryz.laysM171 : Go.Proofs.LaysM.n171 Tryz.prog Tryz.laysM171_ren := {
  mixed := by kernel_rfl
  f129 := Tryz.func91.trans (congrArg some (by kernel_rfl))
  f171 := Tryz.func75.trans (congrArg some (by kernel_rfl))
  f243 := Tryz.func81.trans (congrArg some (by kernel_rfl))
  f246 := Tryz.func93.trans (congrArg some (by kernel_rfl))
  f283 := Tryz.func99.trans (congrArg some (by kernel_rfl))
  f284 := Tryz.func100.trans (congrArg some (by kernel_rfl))
  f285 := Tryz.func101.trans (congrArg some (by kernel_rfl))
  f286 := Tryz.func102.trans (congrArg some (by kernel_rfl))
  f317 := Tryz.func104.trans (congrArg some (by kernel_rfl))
  f318 := Tryz.func105.trans (congrArg some (by kernel_rfl))
  f319 := Tryz.func106.trans (congrArg some (by kernel_rfl))
  f320 := Tryz.func107.trans (congrArg some (by kernel_rfl))
  f337 := Tryz.func108.trans (congrArg some (by kernel_rfl))
  f338 := Tryz.func109.trans (congrArg some (by kernel_rfl))
  t0 := Tryz.underlying0
  a0 := Tryz.isAgg0
  z0 := Tryz.sizeOf0
  v0 := Tryz.zeroValue0
  t2 := Tryz.underlying2
  a2 := Tryz.isAgg2
  z2 := Tryz.sizeOf2
  v2 := Tryz.zeroValue2
  t3 := Tryz.underlying3
  a3 := Tryz.isAgg3
  z3 := Tryz.sizeOf3
  v3 := Tryz.zeroValue3
  t4 := Tryz.underlying4
  a4 := Tryz.isAgg4
  z4 := Tryz.sizeOf4
  v4 := Tryz.zeroValue4
  t5 := Tryz.underlying5
  a5 := Tryz.isAgg5
  z5 := Tryz.sizeOf5
  v5 := Tryz.zeroValue5
  t9 := Tryz.underlying9
  a9 := Tryz.isAgg9
  z9 := Tryz.sizeOf9
  v9 := Tryz.zeroValue9
  t20 := Tryz.underlying20
  a20 := Tryz.isAgg20
  z20 := Tryz.sizeOf20
  v20 := Tryz.zeroValue20
  t37 := Tryz.underlying79
  a37 := Tryz.isAgg79
  z37 := Tryz.sizeOf79
  v37 := Tryz.zeroValue79
  t46 := Tryz.underlying78
  a46 := Tryz.isAgg78
  z46 := Tryz.sizeOf78
  v46 := Tryz.zeroValue78
  t51 := Tryz.underlying128
  a51 := Tryz.isAgg128
  z51 := Tryz.sizeOf128
  v51 := Tryz.zeroValue128
  t53 := Tryz.underlying22
  a53 := Tryz.isAgg22
  z53 := Tryz.sizeOf22
  v53 := Tryz.zeroValue22
  t171 := Tryz.underlying136
  a171 := Tryz.isAgg136
  z171 := Tryz.sizeOf136
  v171 := Tryz.zeroValue136
  t173 := Tryz.underlying138
  a173 := Tryz.isAgg138
  z173 := Tryz.sizeOf138
  v173 := Tryz.zeroValue138
  t212 := Tryz.underlying145
  a212 := Tryz.isAgg145
  z212 := Tryz.sizeOf145
  v212 := Tryz.zeroValue145
  t213 := Tryz.underlying146
  a213 := Tryz.isAgg146
  z213 := Tryz.sizeOf146
  t232 := Tryz.underlying148
  a232 := Tryz.isAgg148
  z232 := Tryz.sizeOf148
  v232 := Tryz.zeroValue148
  t233 := Tryz.underlying149
  a233 := Tryz.isAgg149
  z233 := Tryz.sizeOf149
  v233 := Tryz.zeroValue149
  g17 := by kernel_rfl
  g18 := by kernel_rfl
  g19 := by kernel_rfl
  i0 := by kernel_rfl
  i2 := by kernel_rfl
  i3 := by kernel_rfl
  i4 := by kernel_rfl
  i5 := by kernel_rfl
  i9 := by kernel_rfl
  i20 := by kernel_rfl
  i37 := by kernel_rfl
  i46 := by kernel_rfl
  i51 := by kernel_rfl
  i53 := by kernel_rfl
  i171 := by kernel_rfl
  i173 := by kernel_rfl
  i212 := by kernel_rfl
  i232 := by kernel_rfl
  i233 := by kernel_rfl
  m17 := by kernel_rfl
  m18 := by kernel_rfl
  m19 := by kernel_rfl }
open Go.RowKit Go.Sort Go.Lib in
/-- strconv.Itoa: "Itoa is equivalent to FormatInt(int64(i), 10).": i's DECIMAL NUMERAL ('Lib.itoa': a '-' where i is negative, then the digits), FOR EVERY int. The world behind the call: the world before it, new blocks behind the heap (the library's 'var a [24]byte'), draws. (LAID: no walk: one application.) -/
theorem Tryz.strconv_Itoa (n : Int) (h0 : -9223372036854775808 ≤ n) (h1 : n ≤ 9223372036854775807) (w : World) (htab : Lib.TabIs Tryz.prog w "internal/strconv.uint64pow10" .u64 Lib.pow10Tab) :
    Calls Tryz.prog 75 #[.int .i64 n] w fun e w' => e = .returned (.string ⟨(Lib.itoa n).toArray⟩) ∧ ∃ k os, w' = grow (w.drewN k) os := Any.strconv_Itoa Tryz.laysM171 n h0 h1 w htab
def Tryz.lays171_ren : Go.Shelf.Ren := ⟨fun | 171 => 75 | 243 => 81 | 246 => 93 | 283 => 99 | 284 => 100 | 285 => 101 | 286 => 102 | 129 => 91 | 317 => 104 | 318 => 105 | 319 => 106 | 320 => 107 | 337 => 108 | 338 => 109 | n => n, fun | 3 => 3 | 9 => 9 | 2 => 2 | 4 => 4 | 171 => 136 | 0 => 0 | 53 => 22 | 37 => 79 | 5 => 5 | 173 => 138 | 212 => 145 | 51 => 128 | 20 => 20 | 213 => 146 | 46 => 78 | 232 => 148 | 233 => 149 | n => n, fun | 17 => 2 | 18 => 3 | 19 => 4 | n => n⟩
theorem Tryz.lays171 : Go.Proofs.Lays.n171 Tryz.prog Tryz.lays171_ren := {
  mixed := by kernel_rfl
  f129 := Tryz.func91.trans (congrArg some (by kernel_rfl))
  f171 := Tryz.func75.trans (congrArg some (by kernel_rfl))
  f243 := Tryz.func81.trans (congrArg some (by kernel_rfl))
  f246 := Tryz.func93.trans (congrArg some (by kernel_rfl))
  f283 := Tryz.func99.trans (congrArg some (by kernel_rfl))
  f284 := Tryz.func100.trans (congrArg some (by kernel_rfl))
  f285 := Tryz.func101.trans (congrArg some (by kernel_rfl))
  f286 := Tryz.func102.trans (congrArg some (by kernel_rfl))
  f317 := Tryz.func104.trans (congrArg some (by kernel_rfl))
  f318 := Tryz.func105.trans (congrArg some (by kernel_rfl))
  f319 := Tryz.func106.trans (congrArg some (by kernel_rfl))
  f320 := Tryz.func107.trans (congrArg some (by kernel_rfl))
  f337 := Tryz.func108.trans (congrArg some (by kernel_rfl))
  f338 := Tryz.func109.trans (congrArg some (by kernel_rfl))
  t0 := Tryz.underlying0
  a0 := Tryz.isAgg0
  z0 := Tryz.sizeOf0
  v0 := Tryz.zeroValue0
  t2 := Tryz.underlying2
  a2 := Tryz.isAgg2
  z2 := Tryz.sizeOf2
  v2 := Tryz.zeroValue2
  t3 := Tryz.underlying3
  a3 := Tryz.isAgg3
  z3 := Tryz.sizeOf3
  v3 := Tryz.zeroValue3
  t4 := Tryz.underlying4
  a4 := Tryz.isAgg4
  z4 := Tryz.sizeOf4
  v4 := Tryz.zeroValue4
  t5 := Tryz.underlying5
  a5 := Tryz.isAgg5
  z5 := Tryz.sizeOf5
  v5 := Tryz.zeroValue5
  t9 := Tryz.underlying9
  a9 := Tryz.isAgg9
  z9 := Tryz.sizeOf9
  v9 := Tryz.zeroValue9
  t20 := Tryz.underlying20
  a20 := Tryz.isAgg20
  z20 := Tryz.sizeOf20
  v20 := Tryz.zeroValue20
  t37 := Tryz.underlying79
  a37 := Tryz.isAgg79
  z37 := Tryz.sizeOf79
  v37 := Tryz.zeroValue79
  t46 := Tryz.underlying78
  a46 := Tryz.isAgg78
  z46 := Tryz.sizeOf78
  v46 := Tryz.zeroValue78
  t51 := Tryz.underlying128
  a51 := Tryz.isAgg128
  z51 := Tryz.sizeOf128
  v51 := Tryz.zeroValue128
  t53 := Tryz.underlying22
  a53 := Tryz.isAgg22
  z53 := Tryz.sizeOf22
  v53 := Tryz.zeroValue22
  t171 := Tryz.underlying136
  a171 := Tryz.isAgg136
  z171 := Tryz.sizeOf136
  v171 := Tryz.zeroValue136
  t173 := Tryz.underlying138
  a173 := Tryz.isAgg138
  z173 := Tryz.sizeOf138
  v173 := Tryz.zeroValue138
  t212 := Tryz.underlying145
  a212 := Tryz.isAgg145
  z212 := Tryz.sizeOf145
  v212 := Tryz.zeroValue145
  t213 := Tryz.underlying146
  a213 := Tryz.isAgg146
  z213 := Tryz.sizeOf146
  t232 := Tryz.underlying148
  a232 := Tryz.isAgg148
  z232 := Tryz.sizeOf148
  v232 := Tryz.zeroValue148
  t233 := Tryz.underlying149
  a233 := Tryz.isAgg149
  z233 := Tryz.sizeOf149
  v233 := Tryz.zeroValue149
  g17 := by kernel_rfl
  g18 := by kernel_rfl
  g19 := by kernel_rfl }
open Go.RowKit Go.Sort Go.Lib in
/-- THE ROAD WITHOUT THE TABLE: 0 <= i < 100: NO PREMISE ON THE WORLD, AND THE WORLD IS AS IT WAS: a row that keeps its argument in that range need list no table ('laid = []'). (LAID: no walk: one application.) -/
theorem Tryz.strconv_Itoa_small (i : Nat) (hi : i < 100) (w : World) :
    Calls Tryz.prog 75 #[.int .i64 i] w fun e w' => e = .returned (.string ⟨(Lib.decDigits i).toArray⟩) ∧ w' = w := Any.strconv_Itoa_small Tryz.lays171 i hi w
def Tryz.laysM316_ren : Go.Shelf.Ren := ⟨fun | 316 => 73 | n => n, fun | 9 => 9 | 3 => 3 | 4 => 4 | 37 => 79 | 0 => 0 | 127 => 116 | 5 => 5 | n => n, fun | n => n⟩
theorem Tryz.laysM316 : Go.Proofs.LaysM.n316 Tryz.prog Tryz.laysM316_ren := {
  mixed := by kernel_rfl
  f316 := Tryz.func73.trans (congrArg some (by kernel_rfl))
  t0 := Tryz.underlying0
  a0 := Tryz.isAgg0
  z0 := Tryz.sizeOf0
  v0 := Tryz.zeroValue0
  t3 := Tryz.underlying3
  a3 := Tryz.isAgg3
  z3 := Tryz.sizeOf3
  v3 := Tryz.zeroValue3
  t4 := Tryz.underlying4
  a4 := Tryz.isAgg4
  z4 := Tryz.sizeOf4
  v4 := Tryz.zeroValue4
  t9 := Tryz.underlying9
  a9 := Tryz.isAgg9
  z9 := Tryz.sizeOf9
  v9 := Tryz.zeroValue9
  t37 := Tryz.underlying79
  a37 := Tryz.isAgg79
  z37 := Tryz.sizeOf79
  v37 := Tryz.zeroValue79
  t127 := Tryz.underlying116
  a127 := Tryz.isAgg116
  z127 := Tryz.sizeOf116
  v127 := Tryz.zeroValue116
  t5 := Tryz.underlying5
  a5 := Tryz.isAgg5
  z5 := Tryz.sizeOf5
  v5 := Tryz.zeroValue5
  i0 := by kernel_rfl
  i3 := by kernel_rfl
  i4 := by kernel_rfl
  i5 := by kernel_rfl
  i9 := by kernel_rfl
  i37 := by kernel_rfl
  i127 := by kernel_rfl }
open Go.RowKit in
/-- internal/stringslite.Clone (what strings.Clone calls): "Clone returns a fresh copy of s.": THE SAME BYTES. Of what was there nothing has turned (a new row is laid, and frozen, where s is not empty). (LAID: no walk: one application.) -/
theorem Tryz.stringslite_Clone (s : ByteArray) (w : World) (hlim : s.size ≤ 281474976710656) :
    Calls Tryz.prog 73 #[.string s] w fun e w' => e = .returned (.string s) ∧ Below w.heap.size w w' := Any.stringslite_Clone Tryz.laysM316 s w hlim
def Tryz.laysM279_ren : Go.Shelf.Ren := ⟨fun | 279 => 64 | 316 => 73 | n => n, fun | 9 => 9 | 168 => 101 | 75 => 86 | 210 => 110 | 3 => 3 | 4 => 4 | 37 => 79 | 0 => 0 | 127 => 116 | 80 => 152 | 5 => 5 | n => n, fun | 15 => 0 | n => n⟩
theorem Tryz.laysM279 : Go.Proofs.LaysM.n279 Tryz.prog Tryz.laysM279_ren := {
  mixed := by kernel_rfl
  f279 := Tryz.func64.trans (congrArg some (by kernel_rfl))
  f316 := Tryz.func73.trans (congrArg some (by kernel_rfl))
  t0 := Tryz.underlying0
  a0 := Tryz.isAgg0
  z0 := Tryz.sizeOf0
  v0 := Tryz.zeroValue0
  t3 := Tryz.underlying3
  a3 := Tryz.isAgg3
  z3 := Tryz.sizeOf3
  v3 := Tryz.zeroValue3
  t4 := Tryz.underlying4
  a4 := Tryz.isAgg4
  z4 := Tryz.sizeOf4
  v4 := Tryz.zeroValue4
  t9 := Tryz.underlying9
  a9 := Tryz.isAgg9
  z9 := Tryz.sizeOf9
  v9 := Tryz.zeroValue9
  t37 := Tryz.underlying79
  a37 := Tryz.isAgg79
  z37 := Tryz.sizeOf79
  v37 := Tryz.zeroValue79
  t75 := Tryz.underlying86
  a75 := Tryz.isAgg86
  z75 := Tryz.sizeOf86
  v75 := Tryz.zeroValue86
  t127 := Tryz.underlying116
  a127 := Tryz.isAgg116
  z127 := Tryz.sizeOf116
  v127 := Tryz.zeroValue116
  t168 := Tryz.underlying101
  a168 := Tryz.isAgg101
  z168 := Tryz.sizeOf101
  v168 := Tryz.zeroValue101
  t210 := Tryz.underlying110
  a210 := Tryz.isAgg110
  z210 := Tryz.sizeOf110
  v210 := Tryz.zeroValue110
  g15 := by kernel_rfl
  t5 := Tryz.underlying5
  a5 := Tryz.isAgg5
  z5 := Tryz.sizeOf5
  v5 := Tryz.zeroValue5
  t80 := Tryz.underlying152
  a80 := Tryz.isAgg152
  z80 := Tryz.sizeOf152
  v80 := Tryz.zeroValue152
  i0 := by kernel_rfl
  i3 := by kernel_rfl
  i4 := by kernel_rfl
  i5 := by kernel_rfl
  i9 := by kernel_rfl
  i37 := by kernel_rfl
  i75 := by kernel_rfl
  i80 := by kernel_rfl
  i127 := by kernel_rfl
  i168 := by kernel_rfl
  i210 := by kernel_rfl
  m15 := by kernel_rfl }
open Go.RowKit in
/-- strconv.syntaxError: '&NumError{fn, stringslite.Clone(str), ErrSyntax}': A POINTER TO A NEW BLOCK that holds fn, str's bytes, and what the variable ErrSyntax holds. Of what was there nothing has turned. (LAID: no walk: one application.) -/
theorem Tryz.strconv_syntaxError (fn s : ByteArray) (ev : Value) (w : World) (hlim : s.size ≤ 281474976710656) (hv : w.cell? ⟨0, 0, none⟩ = some ev) (hev : ev = .nilIface ∨ ∃ te pe, ev = .iface te pe) :
    Calls Tryz.prog 64 #[.string fn, .string s] w fun e w' => ∃ N, e = .returned (.pointer (some ⟨N, 0, none⟩)) ∧ w.heap.size ≤ N ∧ w'.heap[N]? = some (.cells #[.string fn, .string s, ev] 110 (0, 0)) ∧ Below w.heap.size w w' := Any.strconv_syntaxError Tryz.laysM279 fn s ev w hlim hv hev
def Tryz.laysC245_ren : Go.Shelf.Ren := ⟨fun | 245 => 56 | 279 => 64 | 280 => 65 | 281 => 66 | 282 => 67 | 316 => 73 | 171 => 75 | 205 => 74 | 243 => 81 | 246 => 93 | 283 => 99 | 284 => 100 | 285 => 101 | 286 => 102 | 129 => 91 | 317 => 104 | 318 => 105 | 319 => 106 | 320 => 107 | 337 => 108 | 338 => 109 | n => n, fun | 9 => 9 | 3 => 3 | 75 => 86 | 167 => 99 | 4 => 4 | 168 => 101 | 210 => 110 | 37 => 79 | 0 => 0 | 127 => 116 | 145 => 119 | 143 => 117 | 2 => 2 | 171 => 136 | 53 => 22 | 5 => 5 | 173 => 138 | 212 => 145 | 51 => 128 | 20 => 20 | 213 => 146 | 46 => 78 | 232 => 148 | 233 => 149 | 80 => 152 | n => n, fun | 15 => 0 | 16 => 1 | 17 => 2 | 18 => 3 | 19 => 4 | n => n⟩
theorem Tryz.laysC245 : Go.Proofs.LaysC.n245 Tryz.prog Tryz.laysC245_ren := {
  mixed := by kernel_rfl
  f129 := Tryz.func91.trans (congrArg some (by kernel_rfl))
  f171 := Tryz.func75.trans (congrArg some (by kernel_rfl))
  f205 := Tryz.func74.trans (congrArg some (by kernel_rfl))
  f243 := Tryz.func81.trans (congrArg some (by kernel_rfl))
  f245 := Tryz.func56.trans (congrArg some (by kernel_rfl))
  f246 := Tryz.func93.trans (congrArg some (by kernel_rfl))
  f279 := Tryz.func64.trans (congrArg some (by kernel_rfl))
  f280 := Tryz.func65.trans (congrArg some (by kernel_rfl))
  f281 := Tryz.func66.trans (congrArg some (by kernel_rfl))
  f282 := Tryz.func67.trans (congrArg some (by kernel_rfl))
  f283 := Tryz.func99.trans (congrArg some (by kernel_rfl))
  f284 := Tryz.func100.trans (congrArg some (by kernel_rfl))
  f285 := Tryz.func101.trans (congrArg some (by kernel_rfl))
  f286 := Tryz.func102.trans (congrArg some (by kernel_rfl))
  f316 := Tryz.func73.trans (congrArg some (by kernel_rfl))
  f317 := Tryz.func104.trans (congrArg some (by kernel_rfl))
  f318 := Tryz.func105.trans (congrArg some (by kernel_rfl))
  f319 := Tryz.func106.trans (congrArg some (by kernel_rfl))
  f320 := Tryz.func107.trans (congrArg some (by kernel_rfl))
  f337 := Tryz.func108.trans (congrArg some (by kernel_rfl))
  f338 := Tryz.func109.trans (congrArg some (by kernel_rfl))
  t0 := Tryz.underlying0
  a0 := Tryz.isAgg0
  z0 := Tryz.sizeOf0
  v0 := Tryz.zeroValue0
  t2 := Tryz.underlying2
  a2 := Tryz.isAgg2
  z2 := Tryz.sizeOf2
  v2 := Tryz.zeroValue2
  t3 := Tryz.underlying3
  a3 := Tryz.isAgg3
  z3 := Tryz.sizeOf3
  v3 := Tryz.zeroValue3
  t4 := Tryz.underlying4
  a4 := Tryz.isAgg4
  z4 := Tryz.sizeOf4
  v4 := Tryz.zeroValue4
  t5 := Tryz.underlying5
  a5 := Tryz.isAgg5
  z5 := Tryz.sizeOf5
  v5 := Tryz.zeroValue5
  t9 := Tryz.underlying9
  a9 := Tryz.isAgg9
  z9 := Tryz.sizeOf9
  v9 := Tryz.zeroValue9
  t20 := Tryz.underlying20
  a20 := Tryz.isAgg20
  z20 := Tryz.sizeOf20
  v20 := Tryz.zeroValue20
  t37 := Tryz.underlying79
  a37 := Tryz.isAgg79
  z37 := Tryz.sizeOf79
  v37 := Tryz.zeroValue79
  t46 := Tryz.underlying78
  a46 := Tryz.isAgg78
  z46 := Tryz.sizeOf78
  v46 := Tryz.zeroValue78
  t51 := Tryz.underlying128
  a51 := Tryz.isAgg128
  z51 := Tryz.sizeOf128
  v51 := Tryz.zeroValue128
  t53 := Tryz.underlying22
  a53 := Tryz.isAgg22
  z53 := Tryz.sizeOf22
  v53 := Tryz.zeroValue22
  t75 := Tryz.underlying86
  a75 := Tryz.isAgg86
  z75 := Tryz.sizeOf86
  v75 := Tryz.zeroValue86
  t127 := Tryz.underlying116
  a127 := Tryz.isAgg116
  z127 := Tryz.sizeOf116
  v127 := Tryz.zeroValue116
  t143 := Tryz.underlying117
  a143 := Tryz.isAgg117
  z143 := Tryz.sizeOf117
  v143 := Tryz.zeroValue117
  t145 := Tryz.underlying119
  a145 := Tryz.isAgg119
  z145 := Tryz.sizeOf119
  v145 := Tryz.zeroValue119
  t167 := Tryz.underlying99
  a167 := Tryz.isAgg99
  z167 := Tryz.sizeOf99
  v167 := Tryz.zeroValue99
  t168 := Tryz.underlying101
  a168 := Tryz.isAgg101
  z168 := Tryz.sizeOf101
  v168 := Tryz.zeroValue101
  t171 := Tryz.underlying136
  a171 := Tryz.isAgg136
  z171 := Tryz.sizeOf136
  v171 := Tryz.zeroValue136
  t173 := Tryz.underlying138
  a173 := Tryz.isAgg138
  z173 := Tryz.sizeOf138
  v173 := Tryz.zeroValue138
  t210 := Tryz.underlying110
  a210 := Tryz.isAgg110
  z210 := Tryz.sizeOf110
  v210 := Tryz.zeroValue110
  t212 := Tryz.underlying145
  a212 := Tryz.isAgg145
  z212 := Tryz.sizeOf145
  v212 := Tryz.zeroValue145
  t213 := Tryz.underlying146
  a213 := Tryz.isAgg146
  z213 := Tryz.sizeOf146
  t232 := Tryz.underlying148
  a232 := Tryz.isAgg148
  z232 := Tryz.sizeOf148
  v232 := Tryz.zeroValue148
  t233 := Tryz.underlying149
  a233 := Tryz.isAgg149
  z233 := Tryz.sizeOf149
  v233 := Tryz.zeroValue149
  g15 := by kernel_rfl
  g16 := by kernel_rfl
  g17 := by kernel_rfl
  g18 := by kernel_rfl
  g19 := by kernel_rfl
  t80 := Tryz.underlying152
  a80 := Tryz.isAgg152
  z80 := Tryz.sizeOf152
  v80 := Tryz.zeroValue152
  i0 := by kernel_rfl
  i2 := by kernel_rfl
  i3 := by kernel_rfl
  i4 := by kernel_rfl
  i5 := by kernel_rfl
  i9 := by kernel_rfl
  i20 := by kernel_rfl
  i37 := by kernel_rfl
  i46 := by kernel_rfl
  i51 := by kernel_rfl
  i53 := by kernel_rfl
  i75 := by kernel_rfl
  i80 := by kernel_rfl
  i127 := by kernel_rfl
  i143 := by kernel_rfl
  i145 := by kernel_rfl
  i167 := by kernel_rfl
  i168 := by kernel_rfl
  i171 := by kernel_rfl
  i173 := by kernel_rfl
  i210 := by kernel_rfl
  i212 := by kernel_rfl
  i232 := by kernel_rfl
  i233 := by kernel_rfl
  m15 := by kernel_rfl
  m16 := by kernel_rfl
  m17 := by kernel_rfl
  m18 := by kernel_rfl
  m19 := by kernel_rfl
  c0 := by kernel_rfl
  c2 := by kernel_rfl
  c3 := by kernel_rfl
  c4 := by kernel_rfl
  c5 := by kernel_rfl
  c9 := by kernel_rfl
  c20 := by kernel_rfl
  c37 := by kernel_rfl
  c46 := by kernel_rfl
  c51 := by kernel_rfl
  c53 := by kernel_rfl
  c75 := by kernel_rfl
  c80 := by kernel_rfl
  c127 := by kernel_rfl
  c143 := by kernel_rfl
  c145 := by kernel_rfl
  c167 := by kernel_rfl
  c168 := by kernel_rfl
  c171 := by kernel_rfl
  c173 := by kernel_rfl
  c210 := by kernel_rfl
  c212 := by kernel_rfl
  c213 := by kernel_rfl
  c232 := by kernel_rfl
  c233 := by kernel_rfl }
open Go.RowKit in
/-- strconv.toError, at the inner package's ErrSyntax: 'syntaxError(fn, s)' as an error: A *NumError IN A NEW BLOCK. (LAID: no walk: one application.) -/
theorem Tryz.strconv_toError_syntax (fn s : ByteArray) (base bits : Int) (ev : Value) (w : World) (hlim : s.size ≤ 281474976710656) (hv : w.cell? ⟨0, 0, none⟩ = some ev) (hev : ev = .nilIface ∨ ∃ te pe, ev = .iface te pe) :
    Calls Tryz.prog 56 #[.string fn, .string s, .int .i64 base, .int .i64 bits, .iface 99 (.int .i64 2)] w fun e w' => ∃ N, e = .returned (.iface 101 (.pointer (some ⟨N, 0, none⟩))) ∧ w.heap.size ≤ N ∧ w'.heap[N]? = some (.cells #[.string fn, .string s, ev] 110 (0, 0)) ∧ Below w.heap.size w w' := Any.strconv_toError_syntax Tryz.laysC245 fn s base bits ev w hlim hv hev
def Tryz.lays321_ren : Go.Shelf.Ren := ⟨fun | 321 => 62 | n => n, fun | 5 => 5 | n => n, fun | n => n⟩
theorem Tryz.lays321 : Go.Proofs.Lays.n321 Tryz.prog Tryz.lays321_ren := {
  mixed := by kernel_rfl
  f321 := Tryz.func62.trans (congrArg some (by kernel_rfl))
  t5 := Tryz.underlying5
  a5 := Tryz.isAgg5
  z5 := Tryz.sizeOf5
  v5 := Tryz.zeroValue5 }
open Go.RowKit in
/-- internal/strconv.lower: 'c | ('x' - 'X')': the bit 32 set. The world is as it was. (LAID: no walk: one application.) -/
theorem Tryz.internal_strconv_lower (c : Int) (w : World) :
    Calls Tryz.prog 62 #[.int .u8 c] w fun e w' => e = .returned (.int .u8 (bits .or .u8 c 32)) ∧ w' = w := Any.internal_strconv_lower Tryz.lays321 c w
def Tryz.laysM280_ren : Go.Shelf.Ren := ⟨fun | 280 => 65 | 316 => 73 | n => n, fun | 9 => 9 | 168 => 101 | 75 => 86 | 210 => 110 | 3 => 3 | 4 => 4 | 37 => 79 | 0 => 0 | 127 => 116 | 80 => 152 | 5 => 5 | n => n, fun | 16 => 1 | n => n⟩
theorem Tryz.laysM280 : Go.Proofs.LaysM.n280 Tryz.prog Tryz.laysM280_ren := {
  mixed := by kernel_rfl
  f280 := Tryz.func65.trans (congrArg some (by kernel_rfl))
  f316 := Tryz.func73.trans (congrArg some (by kernel_rfl))
  t0 := Tryz.underlying0
  a0 := Tryz.isAgg0
  z0 := Tryz.sizeOf0
  v0 := Tryz.zeroValue0
  t3 := Tryz.underlying3
  a3 := Tryz.isAgg3
  z3 := Tryz.sizeOf3
  v3 := Tryz.zeroValue3
  t4 := Tryz.underlying4
  a4 := Tryz.isAgg4
  z4 := Tryz.sizeOf4
  v4 := Tryz.zeroValue4
  t9 := Tryz.underlying9
  a9 := Tryz.isAgg9
  z9 := Tryz.sizeOf9
  v9 := Tryz.zeroValue9
  t37 := Tryz.underlying79
  a37 := Tryz.isAgg79
  z37 := Tryz.sizeOf79
  v37 := Tryz.zeroValue79
  t75 := Tryz.underlying86
  a75 := Tryz.isAgg86
  z75 := Tryz.sizeOf86
  v75 := Tryz.zeroValue86
  t127 := Tryz.underlying116
  a127 := Tryz.isAgg116
  z127 := Tryz.sizeOf116
  v127 := Tryz.zeroValue116
  t168 := Tryz.underlying101
  a168 := Tryz.isAgg101
  z168 := Tryz.sizeOf101
  v168 := Tryz.zeroValue101
  t210 := Tryz.underlying110
  a210 := Tryz.isAgg110
  z210 := Tryz.sizeOf110
  v210 := Tryz.zeroValue110
  g16 := by kernel_rfl
  t5 := Tryz.underlying5
  a5 := Tryz.isAgg5
  z5 := Tryz.sizeOf5
  v5 := Tryz.zeroValue5
  t80 := Tryz.underlying152
  a80 := Tryz.isAgg152
  z80 := Tryz.sizeOf152
  v80 := Tryz.zeroValue152
  i0 := by kernel_rfl
  i3 := by kernel_rfl
  i4 := by kernel_rfl
  i5 := by kernel_rfl
  i9 := by kernel_rfl
  i37 := by kernel_rfl
  i75 := by kernel_rfl
  i80 := by kernel_rfl
  i127 := by kernel_rfl
  i168 := by kernel_rfl
  i210 := by kernel_rfl
  m16 := by kernel_rfl }
open Go.RowKit in
/-- strconv.rangeError: '&NumError{fn, stringslite.Clone(str), ErrRange}': A POINTER TO A NEW BLOCK that holds fn, str's bytes, and what the variable ErrRange holds. Of what was there nothing has turned. (LAID: no walk: one application.) -/
theorem Tryz.strconv_rangeError (fn s : ByteArray) (ev : Value) (w : World) (hlim : s.size ≤ 281474976710656) (hv : w.cell? ⟨1, 0, none⟩ = some ev) (hev : ev = .nilIface ∨ ∃ te pe, ev = .iface te pe) :
    Calls Tryz.prog 65 #[.string fn, .string s] w fun e w' => ∃ N, e = .returned (.pointer (some ⟨N, 0, none⟩)) ∧ w.heap.size ≤ N ∧ w'.heap[N]? = some (.cells #[.string fn, .string s, ev] 110 (0, 0)) ∧ Below w.heap.size w w' := Any.strconv_rangeError Tryz.laysM280 fn s ev w hlim hv hev
open Go.RowKit in
/-- strconv.toError, at the inner package's ErrRange: 'rangeError(fn, s)' as an error: A *NumError IN A NEW BLOCK. (LAID: no walk: one application.) -/
theorem Tryz.strconv_toError_range (fn s : ByteArray) (base bits : Int) (ev : Value) (w : World) (hlim : s.size ≤ 281474976710656) (hv : w.cell? ⟨1, 0, none⟩ = some ev) (hev : ev = .nilIface ∨ ∃ te pe, ev = .iface te pe) :
    Calls Tryz.prog 56 #[.string fn, .string s, .int .i64 base, .int .i64 bits, .iface 99 (.int .i64 1)] w fun e w' => ∃ N, e = .returned (.iface 101 (.pointer (some ⟨N, 0, none⟩))) ∧ w.heap.size ≤ N ∧ w'.heap[N]? = some (.cells #[.string fn, .string s, ev] 110 (0, 0)) ∧ Below w.heap.size w w' := Any.strconv_toError_range Tryz.laysC245 fn s base bits ev w hlim hv hev
def Tryz.lays287_ren : Go.Shelf.Ren := ⟨fun | 287 => 55 | 321 => 62 | 322 => 63 | n => n, fun | 9 => 9 | 3 => 3 | 53 => 22 | 75 => 86 | 4 => 4 | 167 => 99 | 5 => 5 | 46 => 78 | 37 => 79 | 0 => 0 | 21 => 21 | 80 => 152 | n => n, fun | n => n⟩
theorem Tryz.lays287 : Go.Proofs.Lays.n287 Tryz.prog Tryz.lays287_ren := {
  mixed := by kernel_rfl
  f287 := Tryz.func55.trans (congrArg some (by kernel_rfl))
  f321 := Tryz.func62.trans (congrArg some (by kernel_rfl))
  f322 := Tryz.func63.trans (congrArg some (by kernel_rfl))
  t0 := Tryz.underlying0
  a0 := Tryz.isAgg0
  z0 := Tryz.sizeOf0
  v0 := Tryz.zeroValue0
  t3 := Tryz.underlying3
  a3 := Tryz.isAgg3
  z3 := Tryz.sizeOf3
  v3 := Tryz.zeroValue3
  t4 := Tryz.underlying4
  a4 := Tryz.isAgg4
  z4 := Tryz.sizeOf4
  v4 := Tryz.zeroValue4
  t5 := Tryz.underlying5
  a5 := Tryz.isAgg5
  z5 := Tryz.sizeOf5
  v5 := Tryz.zeroValue5
  t9 := Tryz.underlying9
  a9 := Tryz.isAgg9
  z9 := Tryz.sizeOf9
  v9 := Tryz.zeroValue9
  t21 := Tryz.underlying21
  a21 := Tryz.isAgg21
  z21 := Tryz.sizeOf21
  v21 := Tryz.zeroValue21
  t37 := Tryz.underlying79
  a37 := Tryz.isAgg79
  z37 := Tryz.sizeOf79
  v37 := Tryz.zeroValue79
  t46 := Tryz.underlying78
  a46 := Tryz.isAgg78
  z46 := Tryz.sizeOf78
  v46 := Tryz.zeroValue78
  t53 := Tryz.underlying22
  a53 := Tryz.isAgg22
  z53 := Tryz.sizeOf22
  v53 := Tryz.zeroValue22
  t75 := Tryz.underlying86
  a75 := Tryz.isAgg86
  z75 := Tryz.sizeOf86
  v75 := Tryz.zeroValue86
  t167 := Tryz.underlying99
  a167 := Tryz.isAgg99
  z167 := Tryz.sizeOf99
  v167 := Tryz.zeroValue99 }
open Go.RowKit in
/-- internal/strconv.ParseUint("", base, bitSize): (0, ErrSyntax): the first test of the text. The world is as it was. (LAID: no walk: one application.) -/
theorem Tryz.internal_strconv_ParseUint_empty (base bits : Int) (w : World) :
    Calls Tryz.prog 55 #[.string ⟨#[]⟩, .int .i64 base, .int .i64 bits] w fun e w' => e = .returned (.tuple #[.int .u64 0, .iface 99 (.int .i64 2)]) ∧ w' = w := Any.internal_strconv_ParseUint_empty Tryz.lays287 base bits w
def Tryz.lays190_ren : Go.Shelf.Ren := ⟨fun | 190 => 69 | 125 => 78 | 258 => 77 | 128 => 90 | 129 => 91 | 302 => 82 | 303 => 83 | 304 => 84 | 305 => 85 | 306 => 86 | 307 => 87 | 308 => 79 | 309 => 88 | 310 => 89 | 333 => 94 | 329 => 95 | 330 => 96 | 334 => 97 | 335 => 98 | 336 => 92 | 344 => 103 | n => n, fun | 31 => 23 | 9 => 9 | 3 => 3 | 46 => 78 | 0 => 0 | 51 => 128 | 53 => 22 | 4 => 4 | 183 => 122 | 182 => 121 | 131 => 105 | 5 => 5 | 218 => 131 | 222 => 134 | 228 => 140 | 229 => 141 | n => n, fun | n => n⟩
theorem Tryz.lays190 : Go.Proofs.Lays.n190 Tryz.prog Tryz.lays190_ren := {
  mixed := by kernel_rfl
  f125 := Tryz.func78.trans (congrArg some (by kernel_rfl))
  f128 := Tryz.func90.trans (congrArg some (by kernel_rfl))
  f129 := Tryz.func91.trans (congrArg some (by kernel_rfl))
  f190 := Tryz.func69.trans (congrArg some (by kernel_rfl))
  f258 := Tryz.func77.trans (congrArg some (by kernel_rfl))
  f302 := Tryz.func82.trans (congrArg some (by kernel_rfl))
  f303 := Tryz.func83.trans (congrArg some (by kernel_rfl))
  f304 := Tryz.func84.trans (congrArg some (by kernel_rfl))
  f305 := Tryz.func85.trans (congrArg some (by kernel_rfl))
  f306 := Tryz.func86.trans (congrArg some (by kernel_rfl))
  f307 := Tryz.func87.trans (congrArg some (by kernel_rfl))
  f308 := Tryz.func79.trans (congrArg some (by kernel_rfl))
  f309 := Tryz.func88.trans (congrArg some (by kernel_rfl))
  f310 := Tryz.func89.trans (congrArg some (by kernel_rfl))
  f329 := Tryz.func95.trans (congrArg some (by kernel_rfl))
  f330 := Tryz.func96.trans (congrArg some (by kernel_rfl))
  f333 := Tryz.func94.trans (congrArg some (by kernel_rfl))
  f334 := Tryz.func97.trans (congrArg some (by kernel_rfl))
  f335 := Tryz.func98.trans (congrArg some (by kernel_rfl))
  f336 := Tryz.func92.trans (congrArg some (by kernel_rfl))
  f344 := Tryz.func103.trans (congrArg some (by kernel_rfl))
  t0 := Tryz.underlying0
  a0 := Tryz.isAgg0
  z0 := Tryz.sizeOf0
  v0 := Tryz.zeroValue0
  t3 := Tryz.underlying3
  a3 := Tryz.isAgg3
  z3 := Tryz.sizeOf3
  v3 := Tryz.zeroValue3
  t4 := Tryz.underlying4
  a4 := Tryz.isAgg4
  z4 := Tryz.sizeOf4
  v4 := Tryz.zeroValue4
  t5 := Tryz.underlying5
  a5 := Tryz.isAgg5
  z5 := Tryz.sizeOf5
  v5 := Tryz.zeroValue5
  t9 := Tryz.underlying9
  a9 := Tryz.isAgg9
  z9 := Tryz.sizeOf9
  v9 := Tryz.zeroValue9
  t31 := Tryz.underlying23
  a31 := Tryz.isAgg23
  z31 := Tryz.sizeOf23
  v31 := Tryz.zeroValue23
  t46 := Tryz.underlying78
  a46 := Tryz.isAgg78
  z46 := Tryz.sizeOf78
  v46 := Tryz.zeroValue78
  t51 := Tryz.underlying128
  a51 := Tryz.isAgg128
  z51 := Tryz.sizeOf128
  v51 := Tryz.zeroValue128
  t53 := Tryz.underlying22
  a53 := Tryz.isAgg22
  z53 := Tryz.sizeOf22
  v53 := Tryz.zeroValue22
  t131 := Tryz.underlying105
  a131 := Tryz.isAgg105
  z131 := Tryz.sizeOf105
  v131 := Tryz.zeroValue105
  t182 := Tryz.underlying121
  a182 := Tryz.isAgg121
  z182 := Tryz.sizeOf121
  v182 := Tryz.zeroValue121
  t183 := Tryz.underlying122
  a183 := Tryz.isAgg122
  z183 := Tryz.sizeOf122
  v183 := Tryz.zeroValue122
  t218 := Tryz.underlying131
  a218 := Tryz.isAgg131
  z218 := Tryz.sizeOf131
  v218 := Tryz.zeroValue131
  t222 := Tryz.underlying134
  a222 := Tryz.isAgg134
  z222 := Tryz.sizeOf134
  v222 := Tryz.zeroValue134
  t228 := Tryz.underlying140
  a228 := Tryz.isAgg140
  z228 := Tryz.sizeOf140
  v228 := Tryz.zeroValue140
  t229 := Tryz.underlying141
  a229 := Tryz.isAgg141
  z229 := Tryz.sizeOf141
  v229 := Tryz.zeroValue141 }
open Go.Sort Go.RowKit in
theorem Tryz.slices_Sort_string (blk off cap : Nat) (ss : List (List UInt8)) (w : World) (hH : Holds encStr w blk off ss.toArray) (hblk : blk < w.heap.size) (hsz : ss.length < 4611686018427387904) :
    Calls Tryz.prog 69 #[.slice (some ⟨blk, off, none⟩) ss.length cap] w fun e w' =>
      e = .returned (.tuple #[]) ∧ ∃ n os, w' = grow (putRow encStr (Sort.ahead w n) blk off (ss.mergeSort fun x y => decide (x ≤ y)).toArray) os := Any.slices_Sort_string Tryz.lays190 blk off cap ss w hH hblk hsz
def Tryz.lays206_ren : Go.Shelf.Ren := ⟨fun | 206 => 54 | n => n, fun | 9 => 9 | 4 => 4 | 3 => 3 | n => n, fun | n => n⟩
theorem Tryz.lays206 : Go.Proofs.Lays.n206 Tryz.prog Tryz.lays206_ren := {
  mixed := by kernel_rfl
  f206 := Tryz.func54.trans (congrArg some (by kernel_rfl))
  t3 := Tryz.underlying3
  a3 := Tryz.isAgg3
  z3 := Tryz.sizeOf3
  v3 := Tryz.zeroValue3
  t4 := Tryz.underlying4
  a4 := Tryz.isAgg4
  z4 := Tryz.sizeOf4
  v4 := Tryz.zeroValue4
  t9 := Tryz.underlying9
  a9 := Tryz.isAgg9
  z9 := Tryz.sizeOf9
  v9 := Tryz.zeroValue9 }
open Go.RowKit Go.Lib in
/-- internal/stringslite.HasPrefix (what strings.HasPrefix calls). (LAID: no walk: one application.) -/
theorem Tryz.stringslite_HasPrefix (s p : ByteArray) (w : World) :
    Calls Tryz.prog 54 #[.string s, .string p] w fun e w' => e = .returned (.bool (Lib.hasPrefix s.data.toList p.data.toList)) ∧ w' = w := Any.stringslite_HasPrefix Tryz.lays206 s p w
def Tryz.lays99_ren : Go.Shelf.Ren := ⟨fun | 99 => 42 | 206 => 54 | n => n, fun | 9 => 9 | 4 => 4 | 3 => 3 | n => n, fun | n => n⟩
theorem Tryz.lays99 : Go.Proofs.Lays.n99 Tryz.prog Tryz.lays99_ren := {
  mixed := by kernel_rfl
  f99 := Tryz.func42.trans (congrArg some (by kernel_rfl))
  f206 := Tryz.func54.trans (congrArg some (by kernel_rfl))
  t3 := Tryz.underlying3
  a3 := Tryz.isAgg3
  z3 := Tryz.sizeOf3
  v3 := Tryz.zeroValue3
  t4 := Tryz.underlying4
  a4 := Tryz.isAgg4
  z4 := Tryz.sizeOf4
  v4 := Tryz.zeroValue4
  t9 := Tryz.underlying9
  a9 := Tryz.isAgg9
  z9 := Tryz.sizeOf9
  v9 := Tryz.zeroValue9 }
open Go.RowKit Go.Lib in
/-- strings.HasPrefix: "HasPrefix reports whether the string s begins with prefix.": IT RETURNS 'Lib.hasPrefix s prefix'; the world is as it was. (LAID: no walk: one application.) -/
theorem Tryz.strings_HasPrefix (s p : ByteArray) (w : World) :
    Calls Tryz.prog 42 #[.string s, .string p] w fun e w' => e = .returned (.bool (Lib.hasPrefix s.data.toList p.data.toList)) ∧ w' = w := Any.strings_HasPrefix Tryz.lays99 s p w
def Tryz.lays193_ren : Go.Shelf.Ren := ⟨fun | 193 => 50 | n => n, fun | 31 => 23 | 9 => 9 | 4 => 4 | 3 => 3 | 0 => 0 | n => n, fun | n => n⟩
theorem Tryz.lays193 : Go.Proofs.Lays.n193 Tryz.prog Tryz.lays193_ren := {
  mixed := by kernel_rfl
  f193 := Tryz.func50.trans (congrArg some (by kernel_rfl))
  t0 := Tryz.underlying0
  a0 := Tryz.isAgg0
  z0 := Tryz.sizeOf0
  v0 := Tryz.zeroValue0
  t3 := Tryz.underlying3
  a3 := Tryz.isAgg3
  z3 := Tryz.sizeOf3
  v3 := Tryz.zeroValue3
  t4 := Tryz.underlying4
  a4 := Tryz.isAgg4
  z4 := Tryz.sizeOf4
  v4 := Tryz.zeroValue4
  t9 := Tryz.underlying9
  a9 := Tryz.isAgg9
  z9 := Tryz.sizeOf9
  v9 := Tryz.zeroValue9
  t31 := Tryz.underlying23
  a31 := Tryz.isAgg23
  z31 := Tryz.sizeOf23
  v31 := Tryz.zeroValue23 }
open Go.RowKit Go.Lib in
/-- slices.Equal at []string: "Equal reports whether two slices are equal: the same length and all elements equal. If the lengths are different, Equal returns false. Otherwise, the elements are compared in increasing index order, and the comparison stops at the first unequal pair. Empty and nil slices are considered equal.": IT RETURNS WHETHER THE TWO LISTS OF ELEMENTS ARE ONE; the world is as it was but for the count of draws (the test 's1[i] != s2[i]' has two reads, whose order the model draws, once a round). 'xs', 'ys': what the cells behind the two addresses hold (the spare capacity too, if you have it); 'xs.take n', 'ys.take m': the elements. THE TWO SLICES MAY OVERLAP. (LAID: no walk: one application.) -/
theorem Tryz.slices_Equal_string (b1 o1 n c b2 o2 m d : Nat) (xs ys : List ByteArray) (w : World) (hx : n ≤ xs.length) (hy : m ≤ ys.length) (hbig : n ≤ 9223372036854775807) (hbig2 : m ≤ 9223372036854775807) (hc1 : ∀ j, j < xs.length → w.cell? ⟨b1, o1 + j, none⟩ = some (.string (xs.getD j ByteArray.empty))) (hc2 : ∀ j, j < ys.length → w.cell? ⟨b2, o2 + j, none⟩ = some (.string (ys.getD j ByteArray.empty))) :
    Calls Tryz.prog 50 #[.slice (some ⟨b1, o1, none⟩) n c, .slice (some ⟨b2, o2, none⟩) m d] w fun e w' => e = .returned (.bool (decide (xs.take n = ys.take m))) ∧ ∃ q, w' = w.drewN q := Any.slices_Equal_string Tryz.lays193 b1 o1 n c b2 o2 m d xs ys w hx hy hbig hbig2 hc1 hc2
open Go.RowKit Go.Lib in
/-- The same where the first is of length 0 (a nil one too): no cell is asked for. (LAID: no walk: one application.) -/
theorem Tryz.slices_Equal_string_empty (a1 a2 : Option Addr) (c m d : Nat) (w : World) (hbig2 : m ≤ 9223372036854775807) :
    Calls Tryz.prog 50 #[.slice a1 0 c, .slice a2 m d] w fun e w' => e = .returned (.bool (decide (m = 0))) ∧ w' = w := Any.slices_Equal_string_empty Tryz.lays193 a1 a2 c m d w hbig2
def Tryz.lays194_ren : Go.Shelf.Ren := ⟨fun | 194 => 57 | n => n, fun | 31 => 23 | 9 => 9 | 3 => 3 | 4 => 4 | 0 => 0 | n => n, fun | n => n⟩
theorem Tryz.lays194 : Go.Proofs.Lays.n194 Tryz.prog Tryz.lays194_ren := {
  mixed := by kernel_rfl
  f194 := Tryz.func57.trans (congrArg some (by kernel_rfl))
  t0 := Tryz.underlying0
  a0 := Tryz.isAgg0
  z0 := Tryz.sizeOf0
  v0 := Tryz.zeroValue0
  t3 := Tryz.underlying3
  a3 := Tryz.isAgg3
  z3 := Tryz.sizeOf3
  v3 := Tryz.zeroValue3
  t4 := Tryz.underlying4
  a4 := Tryz.isAgg4
  z4 := Tryz.sizeOf4
  v4 := Tryz.zeroValue4
  t9 := Tryz.underlying9
  a9 := Tryz.isAgg9
  z9 := Tryz.sizeOf9
  v9 := Tryz.zeroValue9
  t31 := Tryz.underlying23
  a31 := Tryz.isAgg23
  z31 := Tryz.sizeOf23
  v31 := Tryz.zeroValue23 }
open Go.RowKit Go.Lib Go.Sort in
/-- slices.Compact at []string, over an array: the library's two loops are walked. (LAID: no walk: one application.) -/
theorem Tryz.slices_Compact_string_arr (blk off cap : Nat) (d : Array (List UInt8)) (w : World) (hH : Holds encStr w blk off d) (hsz : d.size ≤ 9223372036854775807) (hcap : d.size ≤ cap) :
    Calls Tryz.prog 57 #[.slice (some ⟨blk, off, none⟩) d.size cap] w fun e w' => e = .returned (.slice (some ⟨blk, off, none⟩) (compactUpTo d d.size).length cap) ∧ ∃ q, w' = putRow encStr (Sort.ahead w q) blk off (compactUpTo d d.size ++ List.replicate (d.size - (compactUpTo d d.size).length) []).toArray := Any.slices_Compact_string_arr Tryz.lays194 blk off cap d w hH hsz hcap
open Go.RowKit Go.Lib Go.Sort in
/-- slices.Compact at []string: "Compact replaces consecutive runs of equal elements with a single copy. This is like the uniq command found on Unix. Compact modifies the contents of the slice s and returns the modified slice, which may have a smaller length. Compact zeroes the elements between the new length and the original length. The result preserves the nilness of s.": IT RETURNS THE SLICE CUT TO 'Lib.compact zs'; ITS CELLS HOLD 'Lib.compact zs', THEN ZERO VALUES up to the old length; all else is as it was, but for the count of draws. IN THE WORDS OF slices.Sort's CONTRACT ('Holds', 'putRow'): so the everyday 'slices.Sort(xs); xs = slices.Compact(xs)' goes from the one contract to the other. It asks 'zs.length ≤ cap' (every slice's: the reslicing 's[:k]' looks at it). Length 0, nil: '.._empty'. (LAID: no walk: one application.) -/
theorem Tryz.slices_Compact_string (blk off cap : Nat) (zs : List (List UInt8)) (w : World) (hH : Holds encStr w blk off zs.toArray) (hsz : zs.length ≤ 9223372036854775807) (hcap : zs.length ≤ cap) :
    Calls Tryz.prog 57 #[.slice (some ⟨blk, off, none⟩) zs.length cap] w fun e w' => e = .returned (.slice (some ⟨blk, off, none⟩) (Lib.compact zs).length cap) ∧ ∃ q, w' = putRow encStr (Sort.ahead w q) blk off (Lib.compact zs ++ List.replicate (zs.length - (Lib.compact zs).length) []).toArray := Any.slices_Compact_string Tryz.lays194 blk off cap zs w hH hsz hcap
open Go.RowKit Go.Lib Go.Sort in
/-- The same at a slice of length 0, a nil one too: it comes back as it is. (LAID: no walk: one application.) -/
theorem Tryz.slices_Compact_string_empty (a : Option Addr) (cap : Nat) (w : World) :
    Calls Tryz.prog 57 #[.slice a 0 cap] w fun e w' => e = .returned (.slice a 0 cap) ∧ w' = w := Any.slices_Compact_string_empty Tryz.lays194 a cap w
open Go.RowKit Go.Lib Go.Sort in
/-- slices.Compact at []string, of an argument. (LAID: no walk: one application.) -/
theorem Tryz.slices_Compact_string_cells (b off n c : Nat) (Sx : Nat → ByteArray) (w : World) (hbig : n ≤ 9223372036854775807) (hcap : n ≤ c) (hc : ∀ i, i < n → w.cell? ⟨b, off + i, none⟩ = some (.string (Sx i))) (hf : ∀ j, j < n → w.frozen? ⟨b, off + j, none⟩ = false) :
    Calls Tryz.prog 57 #[.slice (some ⟨b, off, none⟩) n c] w fun e w' => e = .returned (.slice (some ⟨b, off, none⟩) (Lib.compact (Lib.strsOf Sx n)).length c) ∧ ∃ q, w' = (w.drewN q).setCells b off ((Lib.compact (Lib.strsOf Sx n) ++ List.replicate (n - (Lib.compact (Lib.strsOf Sx n)).length) []).map encStr) := Any.slices_Compact_string_cells Tryz.lays194 b off n c Sx w hbig hcap hc hf
open Go.RowKit Go.Sort in
/-- .. and plain. (LAID: no walk: one application.) -/
theorem Tryz.slices_Sort_string_none (p : Option Addr) (cap : Nat) (w : World) :
    Calls Tryz.prog 69 #[.slice p 0 cap] w fun e w' => e = .returned (.tuple #[]) ∧ w' = w := Any.slices_Sort_string_none Tryz.lays190 p cap w
open Go.RowKit Go.Lib in
theorem Tryz.slices_Equal_string_lens (a1 a2 : Option Addr) (n c m d : Nat) (w : World) (hnm : n ≠ m) :
    Calls Tryz.prog 50 #[.slice a1 n c, .slice a2 m d] w fun e w' => e = .returned (.bool false) ∧ w' = w := Any.slices_Equal_string_lens Tryz.lays193 a1 a2 n c m d w hnm
end Go.Proofs
