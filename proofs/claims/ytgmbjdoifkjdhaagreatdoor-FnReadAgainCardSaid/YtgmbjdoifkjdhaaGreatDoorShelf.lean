/-
  DERIVED: THE SHELF's CONTRACTS AT THIS DUMP, IN PLAIN WORDS (tools/lay-plain.mjs out of 'TryzShelf.lean', which tools/lay-shelf.mjs wrote): THE SAME DECLARATIONS UNDER THE SAME NAMES: 'import', 'namespace', 'open', 'def', 'theorem' AND NOTHING ELSE: no command of the shelf's: FOR A HAND-IN. Each laying: the table of numbers ('.._ren') and one theorem, a field a fact of the dump's own or the kernel's comparison; each contract: ONE APPLICATION.
-/
import Derived.Shelf.Strconv.Itoa0
import Derived.Shelf.Strconv.Itoa1
import Derived.Shelf.LaysM
import Derived.Shelf.Strconv.Itoa2
import Derived.Shelf.Strconv.Itoa3
import Derived.Shelf.Bytes.Len
import Derived.Shelf.Bytes.TryGrow
import Derived.Shelf.Bytes.GrowSliceCatch
import Derived.Shelf.Bytes.GrowSlice
import Derived.Shelf.Bytes.String
import Derived.Shelf.Strconv.Clone
import Derived.Shelf.Strconv.SyntaxError
import Derived.Shelf.LaysC
import Derived.Shelf.Strconv.ToError
import Derived.Shelf.Strconv.Lower
import Derived.Shelf.Strconv.RangeError
import Derived.Shelf.Strconv.ToErrorRange
import Derived.Shelf.Bytes.GrowRow0Kept
import Derived.Shelf.Bytes.GrowRowKept
import Derived.Shelf.Bytes.GrowNilKept
import Derived.Shelf.Bytes.GrowKept
import Derived.Shelf.Bytes.WriteByteKept
import Derived.Shelf.Bytes.WriteStringKept
import Derived.Shelf.Bytes.ResetKept
import Derived.Shelf.Bytes.WriteKept
import Derived.Shelf.Bytes.BufferK
import Derived.Shelf.Bytes.GrowRow0Own
import Derived.Shelf.Bytes.GrowRowOwn
import Derived.Shelf.Bytes.GrowNilOwn
import Derived.Shelf.Bytes.GrowOwn
import Derived.Shelf.Bytes.WriteAny
import Derived.Shelf.Strings.Fold
import Derived.Shelf.Unicode.Decode
import Derived.Shelf.Bits.Mul64
import Derived.Shelf.Unicode.DecodeSlow
import Derived.Shelf.Unicode.DecodeAny
import Derived.Shelf.Unicode.CaseLookup
import Derived.Shelf.Unicode.CaseConvert
import Derived.Shelf.Bytes.SlSmallAll
import Derived.Shelf.Bytes.SlEqualAll
import Derived.Shelf.Bytes.Small
import Derived.Test.YtgmbjdoifkjdhaaGreatDoorProg
namespace Go.Proofs
open Go.Shelf
def Tryz.lays129_ren : Go.Shelf.Ren := ⟨fun | 129 => 96 | n => n, fun | 53 => 127 | 3 => 3 | 4 => 4 | 46 => 136 | 5 => 5 | 9 => 9 | n => n, fun | n => n⟩
theorem Tryz.lays129 : Go.Proofs.Lays.n129 Tryz.prog Tryz.lays129_ren := {
  mixed := by kernel_rfl
  f129 := Tryz.func96.trans (congrArg some (by kernel_rfl))
  t3 := Tryz.underlying3
  a3 := Tryz.isAgg3
  z3 := Tryz.sizeOf3
  v3 := Tryz.zeroValue3
  t4 := Tryz.underlying4
  a4 := Tryz.isAgg4
  z4 := Tryz.sizeOf4
  v4 := Tryz.zeroValue4
  t5 := Tryz.underlying5
  a5 := Tryz.isAgg5
  z5 := Tryz.sizeOf5
  v5 := Tryz.zeroValue5
  t9 := Tryz.underlying9
  a9 := Tryz.isAgg9
  z9 := Tryz.sizeOf9
  v9 := Tryz.zeroValue9
  t46 := Tryz.underlying136
  a46 := Tryz.isAgg136
  z46 := Tryz.sizeOf136
  v46 := Tryz.zeroValue136
  t53 := Tryz.underlying127
  a53 := Tryz.isAgg127
  z53 := Tryz.sizeOf127
  v53 := Tryz.zeroValue127 }
/-- bits.Len64: "Len64 returns the minimum number of bits required to represent x; the result is 0 for x == 0.": IT RETURNS 'Lib.bitLen x'; the world is as it was. ('h0', 'h1': x is a uint64.) (LAID: no walk: one application.) -/
theorem Tryz.bits_Len64 (x : Int) (w : World) (h0 : 0 ≤ x) (h1 : x ≤ 18446744073709551615) :
    Calls Tryz.prog 96 #[.int .u64 x] w fun e w' => e = .returned (.int .i64 (Lib.bitLen x.toNat)) ∧ w' = w := Any.bits_Len64 Tryz.lays129 x w h0 h1
def Tryz.lays317_ren : Go.Shelf.Ren := ⟨fun | 317 => 100 | n => n, fun | 3 => 3 | 46 => 136 | n => n, fun | n => n⟩
theorem Tryz.lays317 : Go.Proofs.Lays.n317 Tryz.prog Tryz.lays317_ren := {
  mixed := by kernel_rfl
  f317 := Tryz.func100.trans (congrArg some (by kernel_rfl))
  t3 := Tryz.underlying3
  a3 := Tryz.isAgg3
  z3 := Tryz.sizeOf3
  v3 := Tryz.zeroValue3
  t46 := Tryz.underlying136
  a46 := Tryz.isAgg136
  z46 := Tryz.sizeOf136
  v46 := Tryz.zeroValue136 }
open Go.Lib in
/-- internal/strconv.log10Pow2: "log10Pow2(x) returns ⌊log₁₀ 2**x⌋ = ⌊x * log₁₀ 2⌋.": '(x * 78913) >> 18', at an x up to 64 (a length in bits). The world is as it was. (LAID: no walk: one application.) -/
theorem Tryz.internal_strconv_log10Pow2 (x : Nat) (h : x ≤ 64) (w : World) :
    Calls Tryz.prog 100 #[.int .i64 x] w fun e w' => e = .returned (.int .i64 (Lib.l10 x)) ∧ w' = w := Any.internal_strconv_log10Pow2 Tryz.lays317 x h w
def Tryz.lays318_ren : Go.Shelf.Ren := ⟨fun | 318 => 124 | n => n, fun | 3 => 3 | 4 => 4 | n => n, fun | n => n⟩
theorem Tryz.lays318 : Go.Proofs.Lays.n318 Tryz.prog Tryz.lays318_ren := {
  mixed := by kernel_rfl
  f318 := Tryz.func124.trans (congrArg some (by kernel_rfl))
  t3 := Tryz.underlying3
  a3 := Tryz.isAgg3
  z3 := Tryz.sizeOf3
  v3 := Tryz.zeroValue3
  t4 := Tryz.underlying4
  a4 := Tryz.isAgg4
  z4 := Tryz.sizeOf4
  v4 := Tryz.zeroValue4 }
open Go.Lib in
/-- internal/strconv.bool2: "bool2 converts b to an integer: 1 for true, 0 for false." The world is as it was. (LAID: no walk: one application.) -/
theorem Tryz.internal_strconv_bool2_int (b : Bool) (w : World) :
    Calls Tryz.prog 124 #[.bool b] w fun e w' => e = .returned (.int .i64 (if b then 1 else 0)) ∧ w' = w := Any.internal_strconv_bool2_int Tryz.lays318 b w
def Tryz.lays283_ren : Go.Shelf.Ren := ⟨fun | 283 => 147 | n => n, fun | 3 => 3 | 9 => 9 | 4 => 4 | n => n, fun | n => n⟩
theorem Tryz.lays283 : Go.Proofs.Lays.n283 Tryz.prog Tryz.lays283_ren := {
  mixed := by kernel_rfl
  f283 := Tryz.func147.trans (congrArg some (by kernel_rfl))
  t3 := Tryz.underlying3
  a3 := Tryz.isAgg3
  z3 := Tryz.sizeOf3
  v3 := Tryz.zeroValue3
  t4 := Tryz.underlying4
  a4 := Tryz.isAgg4
  z4 := Tryz.sizeOf4
  v4 := Tryz.zeroValue4
  t9 := Tryz.underlying9
  a9 := Tryz.isAgg9
  z9 := Tryz.sizeOf9
  v9 := Tryz.zeroValue9 }
open Go.Lib in
/-- internal/strconv.small: "small returns the string for an i with 0 <= i < nSmalls.": i's decimal numeral. The world is as it was. (LAID: no walk: one application.) -/
theorem Tryz.internal_strconv_small (i : Nat) (h : i < 100) (w : World) :
    Calls Tryz.prog 147 #[.int .i64 i] w fun e w' => e = .returned (.string ⟨(Lib.decDigits i).toArray⟩) ∧ w' = w := Any.internal_strconv_small Tryz.lays283 i h w
def Tryz.laysM284_ren : Go.Shelf.Ren := ⟨fun | 284 => 99 | 129 => 96 | 317 => 100 | 318 => 124 | n => n, fun | 53 => 127 | 3 => 3 | 212 => 201 | 0 => 0 | 4 => 4 | 46 => 136 | 5 => 5 | 9 => 9 | n => n, fun | 17 => 12 | n => n⟩
theorem Tryz.laysM284 : Go.Proofs.LaysM.n284 Tryz.prog Tryz.laysM284_ren := {
  mixed := by kernel_rfl
  f129 := Tryz.func96.trans (congrArg some (by kernel_rfl))
  f284 := Tryz.func99.trans (congrArg some (by kernel_rfl))
  f317 := Tryz.func100.trans (congrArg some (by kernel_rfl))
  f318 := Tryz.func124.trans (congrArg some (by kernel_rfl))
  t0 := Tryz.underlying0
  a0 := Tryz.isAgg0
  z0 := Tryz.sizeOf0
  v0 := Tryz.zeroValue0
  t3 := Tryz.underlying3
  a3 := Tryz.isAgg3
  z3 := Tryz.sizeOf3
  v3 := Tryz.zeroValue3
  t4 := Tryz.underlying4
  a4 := Tryz.isAgg4
  z4 := Tryz.sizeOf4
  v4 := Tryz.zeroValue4
  t5 := Tryz.underlying5
  a5 := Tryz.isAgg5
  z5 := Tryz.sizeOf5
  v5 := Tryz.zeroValue5
  t9 := Tryz.underlying9
  a9 := Tryz.isAgg9
  z9 := Tryz.sizeOf9
  v9 := Tryz.zeroValue9
  t46 := Tryz.underlying136
  a46 := Tryz.isAgg136
  z46 := Tryz.sizeOf136
  v46 := Tryz.zeroValue136
  t53 := Tryz.underlying127
  a53 := Tryz.isAgg127
  z53 := Tryz.sizeOf127
  v53 := Tryz.zeroValue127
  t212 := Tryz.underlying201
  a212 := Tryz.isAgg201
  z212 := Tryz.sizeOf201
  v212 := Tryz.zeroValue201
  g17 := by kernel_rfl
  i0 := by kernel_rfl
  i3 := by kernel_rfl
  i4 := by kernel_rfl
  i5 := by kernel_rfl
  i9 := by kernel_rfl
  i46 := by kernel_rfl
  i53 := by kernel_rfl
  i212 := by kernel_rfl
  m17 := by kernel_rfl }
open Go.Lib in
/-- internal/strconv.numDigits, at a d that is not 0: THE NUMBER OF d's DECIMAL DIGITS. The world is as it was. (LAID: no walk: one application.) -/
theorem Tryz.internal_strconv_numDigits (u : Nat) (h1 : 1 ≤ u) (h2 : u < 18446744073709551616) (w : World) (htab : Lib.TabIs Tryz.prog w "internal/strconv.uint64pow10" .u64 Lib.pow10Tab) :
    Calls Tryz.prog 99 #[.int .u64 u] w fun e w' => e = .returned (.int .i64 (Lib.nDigits u)) ∧ w' = w := Any.internal_strconv_numDigits Tryz.laysM284 u h1 h2 w htab
def Tryz.lays285_ren : Go.Shelf.Ren := ⟨fun | 285 => 123 | n => n, fun | 37 => 66 | 53 => 127 | 3 => 3 | 4 => 4 | 51 => 158 | 9 => 9 | 5 => 5 | 0 => 0 | n => n, fun | n => n⟩
theorem Tryz.lays285 : Go.Proofs.Lays.n285 Tryz.prog Tryz.lays285_ren := {
  mixed := by kernel_rfl
  f285 := Tryz.func123.trans (congrArg some (by kernel_rfl))
  t0 := Tryz.underlying0
  a0 := Tryz.isAgg0
  z0 := Tryz.sizeOf0
  v0 := Tryz.zeroValue0
  t3 := Tryz.underlying3
  a3 := Tryz.isAgg3
  z3 := Tryz.sizeOf3
  v3 := Tryz.zeroValue3
  t4 := Tryz.underlying4
  a4 := Tryz.isAgg4
  z4 := Tryz.sizeOf4
  v4 := Tryz.zeroValue4
  t5 := Tryz.underlying5
  a5 := Tryz.isAgg5
  z5 := Tryz.sizeOf5
  v5 := Tryz.zeroValue5
  t9 := Tryz.underlying9
  a9 := Tryz.isAgg9
  z9 := Tryz.sizeOf9
  v9 := Tryz.zeroValue9
  t37 := Tryz.underlying66
  a37 := Tryz.isAgg66
  z37 := Tryz.sizeOf66
  v37 := Tryz.zeroValue66
  t51 := Tryz.underlying158
  a51 := Tryz.isAgg158
  z51 := Tryz.sizeOf158
  v51 := Tryz.zeroValue158
  t53 := Tryz.underlying127
  a53 := Tryz.isAgg127
  z53 := Tryz.sizeOf127
  v53 := Tryz.zeroValue127 }
open Go.RowKit Go.Sort Go.Lib in
/-- internal/strconv.formatBase10: "formatBase10 formats the decimal representation of u into a. The caller is responsible for ensuring that a is big enough to hold u. If a is too big, leading zeros will be filled in as needed.": THE ROW HOLDS u's DIGITS ('FmtInv .. 0 ..': every place t holds 'dg u (len - 1 - t)'); all else is as it was but for the count of draws. (LAID: no walk: one application.) -/
theorem Tryz.internal_strconv_formatBase10 (blk off cap : Nat) (u : Nat) (d : Array UInt8) (w : World) (hH : Holds (fun (b : UInt8) => Value.int .u8 (b.toNat : Int)) w blk off d) (hu : u < 10 ^ d.size) (hu64 : u < 18446744073709551616) (hsz : d.size < 4611686018427387904) :
    Calls Tryz.prog 123 #[.slice (some ⟨blk, off, none⟩) d.size cap, .int .u64 u] w fun e w' =>
      e = .returned (.tuple #[]) ∧ ∃ (n v' : Nat) (dk : Array UInt8), w' = (putRow (fun (b : UInt8) => Value.int .u8 (b.toNat : Int)) w blk off dk).drewN n ∧ FmtInv d.size u 0 v' dk := Any.internal_strconv_formatBase10 Tryz.lays285 blk off cap u d w hH hu hu64 hsz
def Tryz.laysM246_ren : Go.Shelf.Ren := ⟨fun | 246 => 159 | 283 => 147 | 284 => 99 | 285 => 123 | 286 => 148 | 129 => 96 | 317 => 100 | 318 => 124 | 319 => 160 | 320 => 161 | 337 => 162 | 338 => 163 | n => n, fun | 2 => 2 | 3 => 3 | 9 => 9 | 4 => 4 | 171 => 174 | 0 => 0 | 53 => 127 | 37 => 66 | 5 => 5 | 173 => 231 | 212 => 201 | 51 => 158 | 20 => 20 | 213 => 250 | 46 => 136 | 232 => 168 | 233 => 254 | n => n, fun | 17 => 12 | 18 => 20 | 19 => 21 | n => n⟩
theorem Tryz.laysM246 : Go.Proofs.LaysM.n246 Tryz.prog Tryz.laysM246_ren := {
  mixed := by kernel_rfl
  f129 := Tryz.func96.trans (congrArg some (by kernel_rfl))
  f246 := Tryz.func159.trans (congrArg some (by kernel_rfl))
  f283 := Tryz.func147.trans (congrArg some (by kernel_rfl))
  f284 := Tryz.func99.trans (congrArg some (by kernel_rfl))
  f285 := Tryz.func123.trans (congrArg some (by kernel_rfl))
  f286 := Tryz.func148.trans (congrArg some (by kernel_rfl))
  f317 := Tryz.func100.trans (congrArg some (by kernel_rfl))
  f318 := Tryz.func124.trans (congrArg some (by kernel_rfl))
  f319 := Tryz.func160.trans (congrArg some (by kernel_rfl))
  f320 := Tryz.func161.trans (congrArg some (by kernel_rfl))
  f337 := Tryz.func162.trans (congrArg some (by kernel_rfl))
  f338 := Tryz.func163.trans (congrArg some (by kernel_rfl))
  t0 := Tryz.underlying0
  a0 := Tryz.isAgg0
  z0 := Tryz.sizeOf0
  v0 := Tryz.zeroValue0
  t2 := Tryz.underlying2
  a2 := Tryz.isAgg2
  z2 := Tryz.sizeOf2
  v2 := Tryz.zeroValue2
  t3 := Tryz.underlying3
  a3 := Tryz.isAgg3
  z3 := Tryz.sizeOf3
  v3 := Tryz.zeroValue3
  t4 := Tryz.underlying4
  a4 := Tryz.isAgg4
  z4 := Tryz.sizeOf4
  v4 := Tryz.zeroValue4
  t5 := Tryz.underlying5
  a5 := Tryz.isAgg5
  z5 := Tryz.sizeOf5
  v5 := Tryz.zeroValue5
  t9 := Tryz.underlying9
  a9 := Tryz.isAgg9
  z9 := Tryz.sizeOf9
  v9 := Tryz.zeroValue9
  t20 := Tryz.underlying20
  a20 := Tryz.isAgg20
  z20 := Tryz.sizeOf20
  v20 := Tryz.zeroValue20
  t37 := Tryz.underlying66
  a37 := Tryz.isAgg66
  z37 := Tryz.sizeOf66
  v37 := Tryz.zeroValue66
  t46 := Tryz.underlying136
  a46 := Tryz.isAgg136
  z46 := Tryz.sizeOf136
  v46 := Tryz.zeroValue136
  t51 := Tryz.underlying158
  a51 := Tryz.isAgg158
  z51 := Tryz.sizeOf158
  v51 := Tryz.zeroValue158
  t53 := Tryz.underlying127
  a53 := Tryz.isAgg127
  z53 := Tryz.sizeOf127
  v53 := Tryz.zeroValue127
  t171 := Tryz.underlying174
  a171 := Tryz.isAgg174
  z171 := Tryz.sizeOf174
  v171 := Tryz.zeroValue174
  t173 := Tryz.underlying231
  a173 := Tryz.isAgg231
  z173 := Tryz.sizeOf231
  v173 := Tryz.zeroValue231
  t212 := Tryz.underlying201
  a212 := Tryz.isAgg201
  z212 := Tryz.sizeOf201
  v212 := Tryz.zeroValue201
  t213 := Tryz.underlying250
  a213 := Tryz.isAgg250
  z213 := Tryz.sizeOf250
  t232 := Tryz.underlying168
  a232 := Tryz.isAgg168
  z232 := Tryz.sizeOf168
  v232 := Tryz.zeroValue168
  t233 := Tryz.underlying254
  a233 := Tryz.isAgg254
  z233 := Tryz.sizeOf254
  v233 := Tryz.zeroValue254
  g17 := by kernel_rfl
  g18 := by kernel_rfl
  g19 := by kernel_rfl
  i0 := by kernel_rfl
  i2 := by kernel_rfl
  i3 := by kernel_rfl
  i4 := by kernel_rfl
  i5 := by kernel_rfl
  i9 := by kernel_rfl
  i20 := by kernel_rfl
  i37 := by kernel_rfl
  i46 := by kernel_rfl
  i51 := by kernel_rfl
  i53 := by kernel_rfl
  i171 := by kernel_rfl
  i173 := by kernel_rfl
  i212 := by kernel_rfl
  i232 := by kernel_rfl
  i233 := by kernel_rfl
  m17 := by kernel_rfl
  m18 := by kernel_rfl
  m19 := by kernel_rfl }
open Go.RowKit Go.Sort Go.Lib in
/-- internal/strconv.FormatInt: "FormatInt returns the string representation of i in the given base": AT BASE 10: i's decimal numeral, for every int64. The world behind the call: the world before it, new blocks behind the heap, draws. (LAID: no walk: one application.) -/
theorem Tryz.internal_strconv_FormatInt_10 (n : Int) (h0 : -9223372036854775808 ≤ n) (h1 : n ≤ 9223372036854775807) (w : World) (htab : Lib.TabIs Tryz.prog w "internal/strconv.uint64pow10" .u64 Lib.pow10Tab) :
    Calls Tryz.prog 159 #[.int .i64 n, .int .i64 10] w fun e w' => e = .returned (.string ⟨(Lib.itoa n).toArray⟩) ∧ ∃ k os, w' = grow (w.drewN k) os := Any.internal_strconv_FormatInt_10 Tryz.laysM246 n h0 h1 w htab
def Tryz.lays246_ren : Go.Shelf.Ren := ⟨fun | 246 => 159 | 283 => 147 | 284 => 99 | 285 => 123 | 286 => 148 | 129 => 96 | 317 => 100 | 318 => 124 | 319 => 160 | 320 => 161 | 337 => 162 | 338 => 163 | n => n, fun | 2 => 2 | 3 => 3 | 9 => 9 | 4 => 4 | 171 => 174 | 0 => 0 | 53 => 127 | 37 => 66 | 5 => 5 | 173 => 231 | 212 => 201 | 51 => 158 | 20 => 20 | 213 => 250 | 46 => 136 | 232 => 168 | 233 => 254 | n => n, fun | 17 => 12 | 18 => 20 | 19 => 21 | n => n⟩
theorem Tryz.lays246 : Go.Proofs.Lays.n246 Tryz.prog Tryz.lays246_ren := {
  mixed := by kernel_rfl
  f129 := Tryz.func96.trans (congrArg some (by kernel_rfl))
  f246 := Tryz.func159.trans (congrArg some (by kernel_rfl))
  f283 := Tryz.func147.trans (congrArg some (by kernel_rfl))
  f284 := Tryz.func99.trans (congrArg some (by kernel_rfl))
  f285 := Tryz.func123.trans (congrArg some (by kernel_rfl))
  f286 := Tryz.func148.trans (congrArg some (by kernel_rfl))
  f317 := Tryz.func100.trans (congrArg some (by kernel_rfl))
  f318 := Tryz.func124.trans (congrArg some (by kernel_rfl))
  f319 := Tryz.func160.trans (congrArg some (by kernel_rfl))
  f320 := Tryz.func161.trans (congrArg some (by kernel_rfl))
  f337 := Tryz.func162.trans (congrArg some (by kernel_rfl))
  f338 := Tryz.func163.trans (congrArg some (by kernel_rfl))
  t0 := Tryz.underlying0
  a0 := Tryz.isAgg0
  z0 := Tryz.sizeOf0
  v0 := Tryz.zeroValue0
  t2 := Tryz.underlying2
  a2 := Tryz.isAgg2
  z2 := Tryz.sizeOf2
  v2 := Tryz.zeroValue2
  t3 := Tryz.underlying3
  a3 := Tryz.isAgg3
  z3 := Tryz.sizeOf3
  v3 := Tryz.zeroValue3
  t4 := Tryz.underlying4
  a4 := Tryz.isAgg4
  z4 := Tryz.sizeOf4
  v4 := Tryz.zeroValue4
  t5 := Tryz.underlying5
  a5 := Tryz.isAgg5
  z5 := Tryz.sizeOf5
  v5 := Tryz.zeroValue5
  t9 := Tryz.underlying9
  a9 := Tryz.isAgg9
  z9 := Tryz.sizeOf9
  v9 := Tryz.zeroValue9
  t20 := Tryz.underlying20
  a20 := Tryz.isAgg20
  z20 := Tryz.sizeOf20
  v20 := Tryz.zeroValue20
  t37 := Tryz.underlying66
  a37 := Tryz.isAgg66
  z37 := Tryz.sizeOf66
  v37 := Tryz.zeroValue66
  t46 := Tryz.underlying136
  a46 := Tryz.isAgg136
  z46 := Tryz.sizeOf136
  v46 := Tryz.zeroValue136
  t51 := Tryz.underlying158
  a51 := Tryz.isAgg158
  z51 := Tryz.sizeOf158
  v51 := Tryz.zeroValue158
  t53 := Tryz.underlying127
  a53 := Tryz.isAgg127
  z53 := Tryz.sizeOf127
  v53 := Tryz.zeroValue127
  t171 := Tryz.underlying174
  a171 := Tryz.isAgg174
  z171 := Tryz.sizeOf174
  v171 := Tryz.zeroValue174
  t173 := Tryz.underlying231
  a173 := Tryz.isAgg231
  z173 := Tryz.sizeOf231
  v173 := Tryz.zeroValue231
  t212 := Tryz.underlying201
  a212 := Tryz.isAgg201
  z212 := Tryz.sizeOf201
  v212 := Tryz.zeroValue201
  t213 := Tryz.underlying250
  a213 := Tryz.isAgg250
  z213 := Tryz.sizeOf250
  t232 := Tryz.underlying168
  a232 := Tryz.isAgg168
  z232 := Tryz.sizeOf168
  v232 := Tryz.zeroValue168
  t233 := Tryz.underlying254
  a233 := Tryz.isAgg254
  z233 := Tryz.sizeOf254
  v233 := Tryz.zeroValue254
  g17 := by kernel_rfl
  g18 := by kernel_rfl
  g19 := by kernel_rfl }
open Go.RowKit Go.Sort Go.Lib in
/-- THE ROAD WITHOUT THE TABLE: 0 <= i < 100: two constants are read, nothing is laid: no premise on the world, and the world is as it was. (LAID: no walk: one application.) -/
theorem Tryz.internal_strconv_FormatInt_10_small (i : Nat) (hi : i < 100) (w : World) :
    Calls Tryz.prog 159 #[.int .i64 i, .int .i64 10] w fun e w' => e = .returned (.string ⟨(Lib.decDigits i).toArray⟩) ∧ w' = w := Any.internal_strconv_FormatInt_10_small Tryz.lays246 i hi w
def Tryz.laysM243_ren : Go.Shelf.Ren := ⟨fun | 243 => 146 | 246 => 159 | 283 => 147 | 284 => 99 | 285 => 123 | 286 => 148 | 129 => 96 | 317 => 100 | 318 => 124 | 319 => 160 | 320 => 161 | 337 => 162 | 338 => 163 | n => n, fun | 3 => 3 | 9 => 9 | 2 => 2 | 4 => 4 | 171 => 174 | 0 => 0 | 53 => 127 | 37 => 66 | 5 => 5 | 173 => 231 | 212 => 201 | 51 => 158 | 20 => 20 | 213 => 250 | 46 => 136 | 232 => 168 | 233 => 254 | n => n, fun | 17 => 12 | 18 => 20 | 19 => 21 | n => n⟩
theorem Tryz.laysM243 : Go.Proofs.LaysM.n243 Tryz.prog Tryz.laysM243_ren := {
  mixed := by kernel_rfl
  f129 := Tryz.func96.trans (congrArg some (by kernel_rfl))
  f243 := Tryz.func146.trans (congrArg some (by kernel_rfl))
  f246 := Tryz.func159.trans (congrArg some (by kernel_rfl))
  f283 := Tryz.func147.trans (congrArg some (by kernel_rfl))
  f284 := Tryz.func99.trans (congrArg some (by kernel_rfl))
  f285 := Tryz.func123.trans (congrArg some (by kernel_rfl))
  f286 := Tryz.func148.trans (congrArg some (by kernel_rfl))
  f317 := Tryz.func100.trans (congrArg some (by kernel_rfl))
  f318 := Tryz.func124.trans (congrArg some (by kernel_rfl))
  f319 := Tryz.func160.trans (congrArg some (by kernel_rfl))
  f320 := Tryz.func161.trans (congrArg some (by kernel_rfl))
  f337 := Tryz.func162.trans (congrArg some (by kernel_rfl))
  f338 := Tryz.func163.trans (congrArg some (by kernel_rfl))
  t0 := Tryz.underlying0
  a0 := Tryz.isAgg0
  z0 := Tryz.sizeOf0
  v0 := Tryz.zeroValue0
  t2 := Tryz.underlying2
  a2 := Tryz.isAgg2
  z2 := Tryz.sizeOf2
  v2 := Tryz.zeroValue2
  t3 := Tryz.underlying3
  a3 := Tryz.isAgg3
  z3 := Tryz.sizeOf3
  v3 := Tryz.zeroValue3
  t4 := Tryz.underlying4
  a4 := Tryz.isAgg4
  z4 := Tryz.sizeOf4
  v4 := Tryz.zeroValue4
  t5 := Tryz.underlying5
  a5 := Tryz.isAgg5
  z5 := Tryz.sizeOf5
  v5 := Tryz.zeroValue5
  t9 := Tryz.underlying9
  a9 := Tryz.isAgg9
  z9 := Tryz.sizeOf9
  v9 := Tryz.zeroValue9
  t20 := Tryz.underlying20
  a20 := Tryz.isAgg20
  z20 := Tryz.sizeOf20
  v20 := Tryz.zeroValue20
  t37 := Tryz.underlying66
  a37 := Tryz.isAgg66
  z37 := Tryz.sizeOf66
  v37 := Tryz.zeroValue66
  t46 := Tryz.underlying136
  a46 := Tryz.isAgg136
  z46 := Tryz.sizeOf136
  v46 := Tryz.zeroValue136
  t51 := Tryz.underlying158
  a51 := Tryz.isAgg158
  z51 := Tryz.sizeOf158
  v51 := Tryz.zeroValue158
  t53 := Tryz.underlying127
  a53 := Tryz.isAgg127
  z53 := Tryz.sizeOf127
  v53 := Tryz.zeroValue127
  t171 := Tryz.underlying174
  a171 := Tryz.isAgg174
  z171 := Tryz.sizeOf174
  v171 := Tryz.zeroValue174
  t173 := Tryz.underlying231
  a173 := Tryz.isAgg231
  z173 := Tryz.sizeOf231
  v173 := Tryz.zeroValue231
  t212 := Tryz.underlying201
  a212 := Tryz.isAgg201
  z212 := Tryz.sizeOf201
  v212 := Tryz.zeroValue201
  t213 := Tryz.underlying250
  a213 := Tryz.isAgg250
  z213 := Tryz.sizeOf250
  t232 := Tryz.underlying168
  a232 := Tryz.isAgg168
  z232 := Tryz.sizeOf168
  v232 := Tryz.zeroValue168
  t233 := Tryz.underlying254
  a233 := Tryz.isAgg254
  z233 := Tryz.sizeOf254
  v233 := Tryz.zeroValue254
  g17 := by kernel_rfl
  g18 := by kernel_rfl
  g19 := by kernel_rfl
  i0 := by kernel_rfl
  i2 := by kernel_rfl
  i3 := by kernel_rfl
  i4 := by kernel_rfl
  i5 := by kernel_rfl
  i9 := by kernel_rfl
  i20 := by kernel_rfl
  i37 := by kernel_rfl
  i46 := by kernel_rfl
  i51 := by kernel_rfl
  i53 := by kernel_rfl
  i171 := by kernel_rfl
  i173 := by kernel_rfl
  i212 := by kernel_rfl
  i232 := by kernel_rfl
  i233 := by kernel_rfl
  m17 := by kernel_rfl
  m18 := by kernel_rfl
  m19 := by kernel_rfl }
open Go.RowKit Go.Sort Go.Lib in
/-- internal/strconv.Itoa: "Itoa is equivalent to FormatInt(int64(i), 10).": i's decimal numeral, for every int. (LAID: no walk: one application.) -/
theorem Tryz.internal_strconv_Itoa (n : Int) (h0 : -9223372036854775808 ≤ n) (h1 : n ≤ 9223372036854775807) (w : World) (htab : Lib.TabIs Tryz.prog w "internal/strconv.uint64pow10" .u64 Lib.pow10Tab) :
    Calls Tryz.prog 146 #[.int .i64 n] w fun e w' => e = .returned (.string ⟨(Lib.itoa n).toArray⟩) ∧ ∃ k os, w' = grow (w.drewN k) os := Any.internal_strconv_Itoa Tryz.laysM243 n h0 h1 w htab
def Tryz.lays243_ren : Go.Shelf.Ren := ⟨fun | 243 => 146 | 246 => 159 | 283 => 147 | 284 => 99 | 285 => 123 | 286 => 148 | 129 => 96 | 317 => 100 | 318 => 124 | 319 => 160 | 320 => 161 | 337 => 162 | 338 => 163 | n => n, fun | 3 => 3 | 9 => 9 | 2 => 2 | 4 => 4 | 171 => 174 | 0 => 0 | 53 => 127 | 37 => 66 | 5 => 5 | 173 => 231 | 212 => 201 | 51 => 158 | 20 => 20 | 213 => 250 | 46 => 136 | 232 => 168 | 233 => 254 | n => n, fun | 17 => 12 | 18 => 20 | 19 => 21 | n => n⟩
theorem Tryz.lays243 : Go.Proofs.Lays.n243 Tryz.prog Tryz.lays243_ren := {
  mixed := by kernel_rfl
  f129 := Tryz.func96.trans (congrArg some (by kernel_rfl))
  f243 := Tryz.func146.trans (congrArg some (by kernel_rfl))
  f246 := Tryz.func159.trans (congrArg some (by kernel_rfl))
  f283 := Tryz.func147.trans (congrArg some (by kernel_rfl))
  f284 := Tryz.func99.trans (congrArg some (by kernel_rfl))
  f285 := Tryz.func123.trans (congrArg some (by kernel_rfl))
  f286 := Tryz.func148.trans (congrArg some (by kernel_rfl))
  f317 := Tryz.func100.trans (congrArg some (by kernel_rfl))
  f318 := Tryz.func124.trans (congrArg some (by kernel_rfl))
  f319 := Tryz.func160.trans (congrArg some (by kernel_rfl))
  f320 := Tryz.func161.trans (congrArg some (by kernel_rfl))
  f337 := Tryz.func162.trans (congrArg some (by kernel_rfl))
  f338 := Tryz.func163.trans (congrArg some (by kernel_rfl))
  t0 := Tryz.underlying0
  a0 := Tryz.isAgg0
  z0 := Tryz.sizeOf0
  v0 := Tryz.zeroValue0
  t2 := Tryz.underlying2
  a2 := Tryz.isAgg2
  z2 := Tryz.sizeOf2
  v2 := Tryz.zeroValue2
  t3 := Tryz.underlying3
  a3 := Tryz.isAgg3
  z3 := Tryz.sizeOf3
  v3 := Tryz.zeroValue3
  t4 := Tryz.underlying4
  a4 := Tryz.isAgg4
  z4 := Tryz.sizeOf4
  v4 := Tryz.zeroValue4
  t5 := Tryz.underlying5
  a5 := Tryz.isAgg5
  z5 := Tryz.sizeOf5
  v5 := Tryz.zeroValue5
  t9 := Tryz.underlying9
  a9 := Tryz.isAgg9
  z9 := Tryz.sizeOf9
  v9 := Tryz.zeroValue9
  t20 := Tryz.underlying20
  a20 := Tryz.isAgg20
  z20 := Tryz.sizeOf20
  v20 := Tryz.zeroValue20
  t37 := Tryz.underlying66
  a37 := Tryz.isAgg66
  z37 := Tryz.sizeOf66
  v37 := Tryz.zeroValue66
  t46 := Tryz.underlying136
  a46 := Tryz.isAgg136
  z46 := Tryz.sizeOf136
  v46 := Tryz.zeroValue136
  t51 := Tryz.underlying158
  a51 := Tryz.isAgg158
  z51 := Tryz.sizeOf158
  v51 := Tryz.zeroValue158
  t53 := Tryz.underlying127
  a53 := Tryz.isAgg127
  z53 := Tryz.sizeOf127
  v53 := Tryz.zeroValue127
  t171 := Tryz.underlying174
  a171 := Tryz.isAgg174
  z171 := Tryz.sizeOf174
  v171 := Tryz.zeroValue174
  t173 := Tryz.underlying231
  a173 := Tryz.isAgg231
  z173 := Tryz.sizeOf231
  v173 := Tryz.zeroValue231
  t212 := Tryz.underlying201
  a212 := Tryz.isAgg201
  z212 := Tryz.sizeOf201
  v212 := Tryz.zeroValue201
  t213 := Tryz.underlying250
  a213 := Tryz.isAgg250
  z213 := Tryz.sizeOf250
  t232 := Tryz.underlying168
  a232 := Tryz.isAgg168
  z232 := Tryz.sizeOf168
  v232 := Tryz.zeroValue168
  t233 := Tryz.underlying254
  a233 := Tryz.isAgg254
  z233 := Tryz.sizeOf254
  v233 := Tryz.zeroValue254
  g17 := by kernel_rfl
  g18 := by kernel_rfl
  g19 := by kernel_rfl }
open Go.RowKit Go.Sort Go.Lib in
/-- THE ROAD WITHOUT THE TABLE: 0 <= i < 100. (LAID: no walk: one application.) -/
theorem Tryz.internal_strconv_Itoa_small (i : Nat) (hi : i < 100) (w : World) :
    Calls Tryz.prog 146 #[.int .i64 i] w fun e w' => e = .returned (.string ⟨(Lib.decDigits i).toArray⟩) ∧ w' = w := Any.internal_strconv_Itoa_small Tryz.lays243 i hi w
def Tryz.laysM171_ren : Go.Shelf.Ren := ⟨fun | 171 => 110 | 243 => 146 | 246 => 159 | 283 => 147 | 284 => 99 | 285 => 123 | 286 => 148 | 129 => 96 | 317 => 100 | 318 => 124 | 319 => 160 | 320 => 161 | 337 => 162 | 338 => 163 | n => n, fun | 3 => 3 | 9 => 9 | 2 => 2 | 4 => 4 | 171 => 174 | 0 => 0 | 53 => 127 | 37 => 66 | 5 => 5 | 173 => 231 | 212 => 201 | 51 => 158 | 20 => 20 | 213 => 250 | 46 => 136 | 232 => 168 | 233 => 254 | n => n, fun | 17 => 12 | 18 => 20 | 19 => 21 | n => n⟩
theorem Tryz.laysM171 : Go.Proofs.LaysM.n171 Tryz.prog Tryz.laysM171_ren := {
  mixed := by kernel_rfl
  f129 := Tryz.func96.trans (congrArg some (by kernel_rfl))
  f171 := Tryz.func110.trans (congrArg some (by kernel_rfl))
  f243 := Tryz.func146.trans (congrArg some (by kernel_rfl))
  f246 := Tryz.func159.trans (congrArg some (by kernel_rfl))
  f283 := Tryz.func147.trans (congrArg some (by kernel_rfl))
  f284 := Tryz.func99.trans (congrArg some (by kernel_rfl))
  f285 := Tryz.func123.trans (congrArg some (by kernel_rfl))
  f286 := Tryz.func148.trans (congrArg some (by kernel_rfl))
  f317 := Tryz.func100.trans (congrArg some (by kernel_rfl))
  f318 := Tryz.func124.trans (congrArg some (by kernel_rfl))
  f319 := Tryz.func160.trans (congrArg some (by kernel_rfl))
  f320 := Tryz.func161.trans (congrArg some (by kernel_rfl))
  f337 := Tryz.func162.trans (congrArg some (by kernel_rfl))
  f338 := Tryz.func163.trans (congrArg some (by kernel_rfl))
  t0 := Tryz.underlying0
  a0 := Tryz.isAgg0
  z0 := Tryz.sizeOf0
  v0 := Tryz.zeroValue0
  t2 := Tryz.underlying2
  a2 := Tryz.isAgg2
  z2 := Tryz.sizeOf2
  v2 := Tryz.zeroValue2
  t3 := Tryz.underlying3
  a3 := Tryz.isAgg3
  z3 := Tryz.sizeOf3
  v3 := Tryz.zeroValue3
  t4 := Tryz.underlying4
  a4 := Tryz.isAgg4
  z4 := Tryz.sizeOf4
  v4 := Tryz.zeroValue4
  t5 := Tryz.underlying5
  a5 := Tryz.isAgg5
  z5 := Tryz.sizeOf5
  v5 := Tryz.zeroValue5
  t9 := Tryz.underlying9
  a9 := Tryz.isAgg9
  z9 := Tryz.sizeOf9
  v9 := Tryz.zeroValue9
  t20 := Tryz.underlying20
  a20 := Tryz.isAgg20
  z20 := Tryz.sizeOf20
  v20 := Tryz.zeroValue20
  t37 := Tryz.underlying66
  a37 := Tryz.isAgg66
  z37 := Tryz.sizeOf66
  v37 := Tryz.zeroValue66
  t46 := Tryz.underlying136
  a46 := Tryz.isAgg136
  z46 := Tryz.sizeOf136
  v46 := Tryz.zeroValue136
  t51 := Tryz.underlying158
  a51 := Tryz.isAgg158
  z51 := Tryz.sizeOf158
  v51 := Tryz.zeroValue158
  t53 := Tryz.underlying127
  a53 := Tryz.isAgg127
  z53 := Tryz.sizeOf127
  v53 := Tryz.zeroValue127
  t171 := Tryz.underlying174
  a171 := Tryz.isAgg174
  z171 := Tryz.sizeOf174
  v171 := Tryz.zeroValue174
  t173 := Tryz.underlying231
  a173 := Tryz.isAgg231
  z173 := Tryz.sizeOf231
  v173 := Tryz.zeroValue231
  t212 := Tryz.underlying201
  a212 := Tryz.isAgg201
  z212 := Tryz.sizeOf201
  v212 := Tryz.zeroValue201
  t213 := Tryz.underlying250
  a213 := Tryz.isAgg250
  z213 := Tryz.sizeOf250
  t232 := Tryz.underlying168
  a232 := Tryz.isAgg168
  z232 := Tryz.sizeOf168
  v232 := Tryz.zeroValue168
  t233 := Tryz.underlying254
  a233 := Tryz.isAgg254
  z233 := Tryz.sizeOf254
  v233 := Tryz.zeroValue254
  g17 := by kernel_rfl
  g18 := by kernel_rfl
  g19 := by kernel_rfl
  i0 := by kernel_rfl
  i2 := by kernel_rfl
  i3 := by kernel_rfl
  i4 := by kernel_rfl
  i5 := by kernel_rfl
  i9 := by kernel_rfl
  i20 := by kernel_rfl
  i37 := by kernel_rfl
  i46 := by kernel_rfl
  i51 := by kernel_rfl
  i53 := by kernel_rfl
  i171 := by kernel_rfl
  i173 := by kernel_rfl
  i212 := by kernel_rfl
  i232 := by kernel_rfl
  i233 := by kernel_rfl
  m17 := by kernel_rfl
  m18 := by kernel_rfl
  m19 := by kernel_rfl }
open Go.RowKit Go.Sort Go.Lib in
/-- strconv.Itoa: "Itoa is equivalent to FormatInt(int64(i), 10).": i's DECIMAL NUMERAL ('Lib.itoa': a '-' where i is negative, then the digits), FOR EVERY int. The world behind the call: the world before it, new blocks behind the heap (the library's 'var a [24]byte'), draws. (LAID: no walk: one application.) -/
theorem Tryz.strconv_Itoa (n : Int) (h0 : -9223372036854775808 ≤ n) (h1 : n ≤ 9223372036854775807) (w : World) (htab : Lib.TabIs Tryz.prog w "internal/strconv.uint64pow10" .u64 Lib.pow10Tab) :
    Calls Tryz.prog 110 #[.int .i64 n] w fun e w' => e = .returned (.string ⟨(Lib.itoa n).toArray⟩) ∧ ∃ k os, w' = grow (w.drewN k) os := Any.strconv_Itoa Tryz.laysM171 n h0 h1 w htab
def Tryz.lays171_ren : Go.Shelf.Ren := ⟨fun | 171 => 110 | 243 => 146 | 246 => 159 | 283 => 147 | 284 => 99 | 285 => 123 | 286 => 148 | 129 => 96 | 317 => 100 | 318 => 124 | 319 => 160 | 320 => 161 | 337 => 162 | 338 => 163 | n => n, fun | 3 => 3 | 9 => 9 | 2 => 2 | 4 => 4 | 171 => 174 | 0 => 0 | 53 => 127 | 37 => 66 | 5 => 5 | 173 => 231 | 212 => 201 | 51 => 158 | 20 => 20 | 213 => 250 | 46 => 136 | 232 => 168 | 233 => 254 | n => n, fun | 17 => 12 | 18 => 20 | 19 => 21 | n => n⟩
theorem Tryz.lays171 : Go.Proofs.Lays.n171 Tryz.prog Tryz.lays171_ren := {
  mixed := by kernel_rfl
  f129 := Tryz.func96.trans (congrArg some (by kernel_rfl))
  f171 := Tryz.func110.trans (congrArg some (by kernel_rfl))
  f243 := Tryz.func146.trans (congrArg some (by kernel_rfl))
  f246 := Tryz.func159.trans (congrArg some (by kernel_rfl))
  f283 := Tryz.func147.trans (congrArg some (by kernel_rfl))
  f284 := Tryz.func99.trans (congrArg some (by kernel_rfl))
  f285 := Tryz.func123.trans (congrArg some (by kernel_rfl))
  f286 := Tryz.func148.trans (congrArg some (by kernel_rfl))
  f317 := Tryz.func100.trans (congrArg some (by kernel_rfl))
  f318 := Tryz.func124.trans (congrArg some (by kernel_rfl))
  f319 := Tryz.func160.trans (congrArg some (by kernel_rfl))
  f320 := Tryz.func161.trans (congrArg some (by kernel_rfl))
  f337 := Tryz.func162.trans (congrArg some (by kernel_rfl))
  f338 := Tryz.func163.trans (congrArg some (by kernel_rfl))
  t0 := Tryz.underlying0
  a0 := Tryz.isAgg0
  z0 := Tryz.sizeOf0
  v0 := Tryz.zeroValue0
  t2 := Tryz.underlying2
  a2 := Tryz.isAgg2
  z2 := Tryz.sizeOf2
  v2 := Tryz.zeroValue2
  t3 := Tryz.underlying3
  a3 := Tryz.isAgg3
  z3 := Tryz.sizeOf3
  v3 := Tryz.zeroValue3
  t4 := Tryz.underlying4
  a4 := Tryz.isAgg4
  z4 := Tryz.sizeOf4
  v4 := Tryz.zeroValue4
  t5 := Tryz.underlying5
  a5 := Tryz.isAgg5
  z5 := Tryz.sizeOf5
  v5 := Tryz.zeroValue5
  t9 := Tryz.underlying9
  a9 := Tryz.isAgg9
  z9 := Tryz.sizeOf9
  v9 := Tryz.zeroValue9
  t20 := Tryz.underlying20
  a20 := Tryz.isAgg20
  z20 := Tryz.sizeOf20
  v20 := Tryz.zeroValue20
  t37 := Tryz.underlying66
  a37 := Tryz.isAgg66
  z37 := Tryz.sizeOf66
  v37 := Tryz.zeroValue66
  t46 := Tryz.underlying136
  a46 := Tryz.isAgg136
  z46 := Tryz.sizeOf136
  v46 := Tryz.zeroValue136
  t51 := Tryz.underlying158
  a51 := Tryz.isAgg158
  z51 := Tryz.sizeOf158
  v51 := Tryz.zeroValue158
  t53 := Tryz.underlying127
  a53 := Tryz.isAgg127
  z53 := Tryz.sizeOf127
  v53 := Tryz.zeroValue127
  t171 := Tryz.underlying174
  a171 := Tryz.isAgg174
  z171 := Tryz.sizeOf174
  v171 := Tryz.zeroValue174
  t173 := Tryz.underlying231
  a173 := Tryz.isAgg231
  z173 := Tryz.sizeOf231
  v173 := Tryz.zeroValue231
  t212 := Tryz.underlying201
  a212 := Tryz.isAgg201
  z212 := Tryz.sizeOf201
  v212 := Tryz.zeroValue201
  t213 := Tryz.underlying250
  a213 := Tryz.isAgg250
  z213 := Tryz.sizeOf250
  t232 := Tryz.underlying168
  a232 := Tryz.isAgg168
  z232 := Tryz.sizeOf168
  v232 := Tryz.zeroValue168
  t233 := Tryz.underlying254
  a233 := Tryz.isAgg254
  z233 := Tryz.sizeOf254
  v233 := Tryz.zeroValue254
  g17 := by kernel_rfl
  g18 := by kernel_rfl
  g19 := by kernel_rfl }
open Go.RowKit Go.Sort Go.Lib in
/-- THE ROAD WITHOUT THE TABLE: 0 <= i < 100: NO PREMISE ON THE WORLD, AND THE WORLD IS AS IT WAS: a row that keeps its argument in that range need list no table ('laid = []'). (LAID: no walk: one application.) -/
theorem Tryz.strconv_Itoa_small (i : Nat) (hi : i < 100) (w : World) :
    Calls Tryz.prog 110 #[.int .i64 i] w fun e w' => e = .returned (.string ⟨(Lib.decDigits i).toArray⟩) ∧ w' = w := Any.strconv_Itoa_small Tryz.lays171 i hi w
def Tryz.laysM181_ren : Go.Shelf.Ren := ⟨fun | 181 => 71 | n => n, fun | 130 => 61 | 3 => 3 | 0 => 0 | 93 => 90 | 37 => 66 | 91 => 88 | 5 => 5 | n => n, fun | n => n⟩
theorem Tryz.laysM181 : Go.Proofs.LaysM.n181 Tryz.prog Tryz.laysM181_ren := {
  mixed := by kernel_rfl
  f181 := Tryz.func71.trans (congrArg some (by kernel_rfl))
  t0 := Tryz.underlying0
  a0 := Tryz.isAgg0
  z0 := Tryz.sizeOf0
  v0 := Tryz.zeroValue0
  t3 := Tryz.underlying3
  a3 := Tryz.isAgg3
  z3 := Tryz.sizeOf3
  v3 := Tryz.zeroValue3
  t37 := Tryz.underlying66
  a37 := Tryz.isAgg66
  z37 := Tryz.sizeOf66
  v37 := Tryz.zeroValue66
  t93 := Tryz.underlying90
  a93 := Tryz.isAgg90
  z93 := Tryz.sizeOf90
  v93 := Tryz.zeroValue90
  t130 := Tryz.underlying61
  a130 := Tryz.isAgg61
  z130 := Tryz.sizeOf61
  v130 := Tryz.zeroValue61
  t5 := Tryz.underlying5
  a5 := Tryz.isAgg5
  z5 := Tryz.sizeOf5
  v5 := Tryz.zeroValue5
  t91 := Tryz.underlying88
  a91 := Tryz.isAgg88
  z91 := Tryz.sizeOf88
  v91 := Tryz.zeroValue88
  i0 := by kernel_rfl
  i3 := by kernel_rfl
  i5 := by kernel_rfl
  i37 := by kernel_rfl
  i91 := by kernel_rfl
  i93 := by kernel_rfl
  i130 := by kernel_rfl }
open Go.RowKit in
/-- (*bytes.Buffer).Len: "Len returns the number of bytes of the unread portion of the buffer; b.Len() == len(b.Bytes()).": the world is as it was but for the count of draws (the statement has two reads: its order is drawn). (LAID: no walk: one application.) -/
theorem Tryz.Buffer_Len (B b : Nat) (bs : List Value) (w : World) (h : Lib.IsBuffer 90 5 B b bs w) :
    Calls Tryz.prog 71 #[.pointer (some ⟨b, 0, none⟩)] w fun e w' => e = .returned (.int .i64 bs.length) ∧ ∃ n, w' = w.drewN n := Any.Buffer_Len Tryz.laysM181 B b bs w h
def Tryz.laysM251_ren : Go.Shelf.Ren := ⟨fun | 251 => 61 | n => n, fun | 130 => 61 | 3 => 3 | 4 => 4 | 0 => 0 | 93 => 90 | 37 => 66 | 91 => 88 | 5 => 5 | n => n, fun | n => n⟩
theorem Tryz.laysM251 : Go.Proofs.LaysM.n251 Tryz.prog Tryz.laysM251_ren := {
  mixed := by kernel_rfl
  f251 := Tryz.func61.trans (congrArg some (by kernel_rfl))
  t0 := Tryz.underlying0
  a0 := Tryz.isAgg0
  z0 := Tryz.sizeOf0
  v0 := Tryz.zeroValue0
  t3 := Tryz.underlying3
  a3 := Tryz.isAgg3
  z3 := Tryz.sizeOf3
  v3 := Tryz.zeroValue3
  t4 := Tryz.underlying4
  a4 := Tryz.isAgg4
  z4 := Tryz.sizeOf4
  v4 := Tryz.zeroValue4
  t37 := Tryz.underlying66
  a37 := Tryz.isAgg66
  z37 := Tryz.sizeOf66
  v37 := Tryz.zeroValue66
  t93 := Tryz.underlying90
  a93 := Tryz.isAgg90
  z93 := Tryz.sizeOf90
  v93 := Tryz.zeroValue90
  t130 := Tryz.underlying61
  a130 := Tryz.isAgg61
  z130 := Tryz.sizeOf61
  v130 := Tryz.zeroValue61
  t5 := Tryz.underlying5
  a5 := Tryz.isAgg5
  z5 := Tryz.sizeOf5
  v5 := Tryz.zeroValue5
  t91 := Tryz.underlying88
  a91 := Tryz.isAgg88
  z91 := Tryz.sizeOf88
  v91 := Tryz.zeroValue88
  i0 := by kernel_rfl
  i3 := by kernel_rfl
  i4 := by kernel_rfl
  i5 := by kernel_rfl
  i37 := by kernel_rfl
  i91 := by kernel_rfl
  i93 := by kernel_rfl
  i130 := by kernel_rfl }
open Go.RowKit in
/-- (*bytes.Buffer).tryGrowByReslice: "tryGrowByReslice is an inlineable version of grow for the fast-case where the internal buffer only needs to be resliced. It returns the index where bytes should be written and whether it succeeded.": THERE IS ROOM: 'buf' is resliced to l + n. (LAID: no walk: one application.) -/
theorem Tryz.Buffer_tryGrow_room (b : Nat) (ao : Option Addr) (l cap n : Nat) (w : World) (c0 : w.cell? ⟨b, 0, none⟩ = some (.slice ao l cap)) (f0 : w.frozen? ⟨b, 0, none⟩ = false) (hlc : l ≤ cap) (hcap : cap ≤ maxLen) (hn : n ≤ cap - l) :
    Calls Tryz.prog 61 #[.pointer (some ⟨b, 0, none⟩), .int .i64 n] w fun e w' => e = .returned (.tuple #[.int .i64 l, .bool true]) ∧ w' = w.setCell ⟨b, 0, none⟩ (.slice ao (l + n) cap) := Any.Buffer_tryGrow_room Tryz.laysM251 b ao l cap n w c0 f0 hlc hcap hn
open Go.RowKit in
/-- .. THERE IS NONE: nothing turns. (LAID: no walk: one application.) -/
theorem Tryz.Buffer_tryGrow_none (b : Nat) (ao : Option Addr) (l cap n : Nat) (w : World) (c0 : w.cell? ⟨b, 0, none⟩ = some (.slice ao l cap)) (hlc : l ≤ cap) (hcap : cap ≤ maxLen) (hn : cap - l < n) :
    Calls Tryz.prog 61 #[.pointer (some ⟨b, 0, none⟩), .int .i64 n] w fun e w' => e = .returned (.tuple #[.int .i64 0, .bool false]) ∧ w' = w := Any.Buffer_tryGrow_none Tryz.laysM251 b ao l cap n w c0 hlc hcap hn
def Tryz.laysM324_ren : Go.Shelf.Ren := ⟨fun | 324 => 82 | n => n, fun | 20 => 20 | 4 => 4 | 75 => 41 | 0 => 0 | 80 => 64 | 9 => 9 | n => n, fun | 14 => 2 | n => n⟩
theorem Tryz.laysM324 : Go.Proofs.LaysM.n324 Tryz.prog Tryz.laysM324_ren := {
  mixed := by kernel_rfl
  f324 := Tryz.func82.trans (congrArg some (by kernel_rfl))
  t0 := Tryz.underlying0
  a0 := Tryz.isAgg0
  z0 := Tryz.sizeOf0
  v0 := Tryz.zeroValue0
  t4 := Tryz.underlying4
  a4 := Tryz.isAgg4
  z4 := Tryz.sizeOf4
  v4 := Tryz.zeroValue4
  t20 := Tryz.underlying20
  a20 := Tryz.isAgg20
  z20 := Tryz.sizeOf20
  v20 := Tryz.zeroValue20
  t75 := Tryz.underlying41
  a75 := Tryz.isAgg41
  z75 := Tryz.sizeOf41
  v75 := Tryz.zeroValue41
  g14 := by kernel_rfl
  t9 := Tryz.underlying9
  a9 := Tryz.isAgg9
  z9 := Tryz.sizeOf9
  v9 := Tryz.zeroValue9
  t80 := Tryz.underlying64
  a80 := Tryz.isAgg64
  z80 := Tryz.sizeOf64
  v80 := Tryz.zeroValue64
  i0 := by kernel_rfl
  i4 := by kernel_rfl
  i9 := by kernel_rfl
  i20 := by kernel_rfl
  i75 := by kernel_rfl
  i80 := by kernel_rfl
  m14 := by kernel_rfl }
theorem Tryz.growSlice_catch_idle (w : World) :
    CallsD Tryz.prog 82 #[] .returning w fun e u' w' => e = .returned (.tuple #[]) ∧ u' = .returning ∧ w' = w := Any.growSlice_catch_idle Tryz.laysM324 w
def Tryz.laysM290_ren : Go.Shelf.Ren := ⟨fun | 290 => 73 | 324 => 82 | n => n, fun | 37 => 66 | 3 => 3 | 0 => 0 | 4 => 4 | 20 => 20 | 75 => 41 | 5 => 5 | 80 => 64 | 9 => 9 | n => n, fun | 14 => 2 | n => n⟩
theorem Tryz.laysM290 : Go.Proofs.LaysM.n290 Tryz.prog Tryz.laysM290_ren := {
  mixed := by kernel_rfl
  f290 := Tryz.func73.trans (congrArg some (by kernel_rfl))
  f324 := Tryz.func82.trans (congrArg some (by kernel_rfl))
  t0 := Tryz.underlying0
  a0 := Tryz.isAgg0
  z0 := Tryz.sizeOf0
  v0 := Tryz.zeroValue0
  t3 := Tryz.underlying3
  a3 := Tryz.isAgg3
  z3 := Tryz.sizeOf3
  v3 := Tryz.zeroValue3
  t4 := Tryz.underlying4
  a4 := Tryz.isAgg4
  z4 := Tryz.sizeOf4
  v4 := Tryz.zeroValue4
  t20 := Tryz.underlying20
  a20 := Tryz.isAgg20
  z20 := Tryz.sizeOf20
  v20 := Tryz.zeroValue20
  t37 := Tryz.underlying66
  a37 := Tryz.isAgg66
  z37 := Tryz.sizeOf66
  v37 := Tryz.zeroValue66
  t75 := Tryz.underlying41
  a75 := Tryz.isAgg41
  z75 := Tryz.sizeOf41
  v75 := Tryz.zeroValue41
  g14 := by kernel_rfl
  t5 := Tryz.underlying5
  a5 := Tryz.isAgg5
  z5 := Tryz.sizeOf5
  v5 := Tryz.zeroValue5
  t9 := Tryz.underlying9
  a9 := Tryz.isAgg9
  z9 := Tryz.sizeOf9
  v9 := Tryz.zeroValue9
  t80 := Tryz.underlying64
  a80 := Tryz.isAgg64
  z80 := Tryz.sizeOf64
  v80 := Tryz.zeroValue64
  i0 := by kernel_rfl
  i3 := by kernel_rfl
  i4 := by kernel_rfl
  i5 := by kernel_rfl
  i9 := by kernel_rfl
  i20 := by kernel_rfl
  i37 := by kernel_rfl
  i75 := by kernel_rfl
  i80 := by kernel_rfl
  m14 := by kernel_rfl }
open Go.RowKit in
/-- bytes.growSlice: "growSlice grows b by n, preserving the original content of b.": OF A SLICE THAT LIES AT THE HEAD OF A ROW: a new row, number 'w.heap.size': it begins with b's l cells; its capacity has room for n more; whatever lay below is as it was. (LAID: no walk: one application.) -/
theorem Tryz.bytes_growSlice_row (g l c n : Nat) (cur : Array Value) (w : World) (hg : w.heap[g]? = some (.cells cur 5 (0, 0))) (hcs : cur.size = c) (hlc : l ≤ c) (hn : 1 ≤ n) (hlim : l + n ≤ 140737488355328) (hc2 : c ≤ 140737488355328) (h1 : ∀ v ∈ cur.toList.take l, v.oneCell' = true) :
    Calls Tryz.prog 73 #[.slice (some ⟨g, 0, none⟩) l c, .int .i64 n] w fun e w' => ∃ cap2 cells, e = .returned (.slice (some ⟨w.heap.size, 0, none⟩) l cap2) ∧ w'.heap[w.heap.size]? = some (.cells cells 5 (0, 0)) ∧
      cells.size = cap2 ∧ cells.toList.take l = cur.toList.take l ∧ l + n ≤ cap2 ∧ cap2 ≤ maxLen ∧ Below w.heap.size w w' := Any.bytes_growSlice_row Tryz.laysM290 g l c n cur w hg hcs hlc hn hlim hc2 h1
open Go.RowKit in
/-- .. OF THE NIL SLICE: a new row with room for n. (LAID: no walk: one application.) -/
theorem Tryz.bytes_growSlice_nil (n : Nat) (w : World) (hn : 1 ≤ n) (hlim : n ≤ 140737488355328) :
    Calls Tryz.prog 73 #[.slice none 0 0, .int .i64 n] w fun e w' => ∃ cap2 cells, e = .returned (.slice (some ⟨w.heap.size, 0, none⟩) 0 cap2) ∧ w'.heap[w.heap.size]? = some (.cells cells 5 (0, 0)) ∧
      cells.size = cap2 ∧ n ≤ cap2 ∧ cap2 ≤ maxLen ∧ Below w.heap.size w w' := Any.bytes_growSlice_nil Tryz.laysM290 n w hn hlim
def Tryz.laysM182_ren : Go.Shelf.Ren := ⟨fun | 182 => 19 | n => n, fun | 130 => 61 | 9 => 9 | 4 => 4 | 0 => 0 | 93 => 90 | 37 => 66 | 3 => 3 | 91 => 88 | 5 => 5 | n => n, fun | n => n⟩
theorem Tryz.laysM182 : Go.Proofs.LaysM.n182 Tryz.prog Tryz.laysM182_ren := {
  mixed := by kernel_rfl
  f182 := Tryz.func19.trans (congrArg some (by kernel_rfl))
  t0 := Tryz.underlying0
  a0 := Tryz.isAgg0
  z0 := Tryz.sizeOf0
  v0 := Tryz.zeroValue0
  t3 := Tryz.underlying3
  a3 := Tryz.isAgg3
  z3 := Tryz.sizeOf3
  v3 := Tryz.zeroValue3
  t4 := Tryz.underlying4
  a4 := Tryz.isAgg4
  z4 := Tryz.sizeOf4
  v4 := Tryz.zeroValue4
  t9 := Tryz.underlying9
  a9 := Tryz.isAgg9
  z9 := Tryz.sizeOf9
  v9 := Tryz.zeroValue9
  t37 := Tryz.underlying66
  a37 := Tryz.isAgg66
  z37 := Tryz.sizeOf66
  v37 := Tryz.zeroValue66
  t93 := Tryz.underlying90
  a93 := Tryz.isAgg90
  z93 := Tryz.sizeOf90
  v93 := Tryz.zeroValue90
  t130 := Tryz.underlying61
  a130 := Tryz.isAgg61
  z130 := Tryz.sizeOf61
  v130 := Tryz.zeroValue61
  t5 := Tryz.underlying5
  a5 := Tryz.isAgg5
  z5 := Tryz.sizeOf5
  v5 := Tryz.zeroValue5
  t91 := Tryz.underlying88
  a91 := Tryz.isAgg88
  z91 := Tryz.sizeOf88
  v91 := Tryz.zeroValue88
  i0 := by kernel_rfl
  i3 := by kernel_rfl
  i4 := by kernel_rfl
  i5 := by kernel_rfl
  i9 := by kernel_rfl
  i37 := by kernel_rfl
  i91 := by kernel_rfl
  i93 := by kernel_rfl
  i130 := by kernel_rfl }
open Go.RowKit in
/-- (*bytes.Buffer).String: "String returns the contents of the unread portion of the buffer as a string.": THE BYTES THAT WERE WRITTEN. The world is as it was but for the count of draws (the statement has two reads: its order is drawn). (LAID: no walk: one application.) -/
theorem Tryz.Buffer_String (B b : Nat) (l : List UInt8) (w : World) (h : Lib.IsBuffer 90 5 B b (Lib.byteCells l) w) :
    Calls Tryz.prog 19 #[.pointer (some ⟨b, 0, none⟩)] w fun e w' => e = .returned (.string ⟨l.toArray⟩) ∧ ∃ n, w' = w.drewN n := Any.Buffer_String Tryz.laysM182 B b l w h
def Tryz.laysM316_ren : Go.Shelf.Ren := ⟨fun | 316 => 108 | n => n, fun | 9 => 9 | 3 => 3 | 4 => 4 | 37 => 66 | 0 => 0 | 127 => 227 | 5 => 5 | n => n, fun | n => n⟩
theorem Tryz.laysM316 : Go.Proofs.LaysM.n316 Tryz.prog Tryz.laysM316_ren := {
  mixed := by kernel_rfl
  f316 := Tryz.func108.trans (congrArg some (by kernel_rfl))
  t0 := Tryz.underlying0
  a0 := Tryz.isAgg0
  z0 := Tryz.sizeOf0
  v0 := Tryz.zeroValue0
  t3 := Tryz.underlying3
  a3 := Tryz.isAgg3
  z3 := Tryz.sizeOf3
  v3 := Tryz.zeroValue3
  t4 := Tryz.underlying4
  a4 := Tryz.isAgg4
  z4 := Tryz.sizeOf4
  v4 := Tryz.zeroValue4
  t9 := Tryz.underlying9
  a9 := Tryz.isAgg9
  z9 := Tryz.sizeOf9
  v9 := Tryz.zeroValue9
  t37 := Tryz.underlying66
  a37 := Tryz.isAgg66
  z37 := Tryz.sizeOf66
  v37 := Tryz.zeroValue66
  t127 := Tryz.underlying227
  a127 := Tryz.isAgg227
  z127 := Tryz.sizeOf227
  v127 := Tryz.zeroValue227
  t5 := Tryz.underlying5
  a5 := Tryz.isAgg5
  z5 := Tryz.sizeOf5
  v5 := Tryz.zeroValue5
  i0 := by kernel_rfl
  i3 := by kernel_rfl
  i4 := by kernel_rfl
  i5 := by kernel_rfl
  i9 := by kernel_rfl
  i37 := by kernel_rfl
  i127 := by kernel_rfl }
open Go.RowKit in
/-- internal/stringslite.Clone (what strings.Clone calls): "Clone returns a fresh copy of s.": THE SAME BYTES. Of what was there nothing has turned (a new row is laid, and frozen, where s is not empty). (LAID: no walk: one application.) -/
theorem Tryz.stringslite_Clone (s : ByteArray) (w : World) (hlim : s.size ≤ 281474976710656) :
    Calls Tryz.prog 108 #[.string s] w fun e w' => e = .returned (.string s) ∧ Below w.heap.size w w' := Any.stringslite_Clone Tryz.laysM316 s w hlim
def Tryz.laysM279_ren : Go.Shelf.Ren := ⟨fun | 279 => 86 | 316 => 108 | n => n, fun | 9 => 9 | 168 => 151 | 75 => 41 | 210 => 185 | 3 => 3 | 4 => 4 | 37 => 66 | 0 => 0 | 127 => 227 | 80 => 64 | 5 => 5 | n => n, fun | 15 => 10 | n => n⟩
theorem Tryz.laysM279 : Go.Proofs.LaysM.n279 Tryz.prog Tryz.laysM279_ren := {
  mixed := by kernel_rfl
  f279 := Tryz.func86.trans (congrArg some (by kernel_rfl))
  f316 := Tryz.func108.trans (congrArg some (by kernel_rfl))
  t0 := Tryz.underlying0
  a0 := Tryz.isAgg0
  z0 := Tryz.sizeOf0
  v0 := Tryz.zeroValue0
  t3 := Tryz.underlying3
  a3 := Tryz.isAgg3
  z3 := Tryz.sizeOf3
  v3 := Tryz.zeroValue3
  t4 := Tryz.underlying4
  a4 := Tryz.isAgg4
  z4 := Tryz.sizeOf4
  v4 := Tryz.zeroValue4
  t9 := Tryz.underlying9
  a9 := Tryz.isAgg9
  z9 := Tryz.sizeOf9
  v9 := Tryz.zeroValue9
  t37 := Tryz.underlying66
  a37 := Tryz.isAgg66
  z37 := Tryz.sizeOf66
  v37 := Tryz.zeroValue66
  t75 := Tryz.underlying41
  a75 := Tryz.isAgg41
  z75 := Tryz.sizeOf41
  v75 := Tryz.zeroValue41
  t127 := Tryz.underlying227
  a127 := Tryz.isAgg227
  z127 := Tryz.sizeOf227
  v127 := Tryz.zeroValue227
  t168 := Tryz.underlying151
  a168 := Tryz.isAgg151
  z168 := Tryz.sizeOf151
  v168 := Tryz.zeroValue151
  t210 := Tryz.underlying185
  a210 := Tryz.isAgg185
  z210 := Tryz.sizeOf185
  v210 := Tryz.zeroValue185
  g15 := by kernel_rfl
  t5 := Tryz.underlying5
  a5 := Tryz.isAgg5
  z5 := Tryz.sizeOf5
  v5 := Tryz.zeroValue5
  t80 := Tryz.underlying64
  a80 := Tryz.isAgg64
  z80 := Tryz.sizeOf64
  v80 := Tryz.zeroValue64
  i0 := by kernel_rfl
  i3 := by kernel_rfl
  i4 := by kernel_rfl
  i5 := by kernel_rfl
  i9 := by kernel_rfl
  i37 := by kernel_rfl
  i75 := by kernel_rfl
  i80 := by kernel_rfl
  i127 := by kernel_rfl
  i168 := by kernel_rfl
  i210 := by kernel_rfl
  m15 := by kernel_rfl }
open Go.RowKit in
/-- strconv.syntaxError: '&NumError{fn, stringslite.Clone(str), ErrSyntax}': A POINTER TO A NEW BLOCK that holds fn, str's bytes, and what the variable ErrSyntax holds. Of what was there nothing has turned. (LAID: no walk: one application.) -/
theorem Tryz.strconv_syntaxError (fn s : ByteArray) (ev : Value) (w : World) (hlim : s.size ≤ 281474976710656) (hv : w.cell? ⟨10, 0, none⟩ = some ev) (hev : ev = .nilIface ∨ ∃ te pe, ev = .iface te pe) :
    Calls Tryz.prog 86 #[.string fn, .string s] w fun e w' => ∃ N, e = .returned (.pointer (some ⟨N, 0, none⟩)) ∧ w.heap.size ≤ N ∧ w'.heap[N]? = some (.cells #[.string fn, .string s, ev] 185 (0, 0)) ∧ Below w.heap.size w w' := Any.strconv_syntaxError Tryz.laysM279 fn s ev w hlim hv hev
def Tryz.laysC245_ren : Go.Shelf.Ren := ⟨fun | 245 => 77 | 279 => 86 | 280 => 87 | 281 => 88 | 282 => 89 | 316 => 108 | 171 => 110 | 205 => 109 | 243 => 146 | 246 => 159 | 283 => 147 | 284 => 99 | 285 => 123 | 286 => 148 | 129 => 96 | 317 => 100 | 318 => 124 | 319 => 160 | 320 => 161 | 337 => 162 | 338 => 163 | n => n, fun | 9 => 9 | 3 => 3 | 75 => 41 | 167 => 150 | 4 => 4 | 168 => 151 | 210 => 185 | 37 => 66 | 0 => 0 | 127 => 227 | 145 => 230 | 143 => 228 | 2 => 2 | 171 => 174 | 53 => 127 | 5 => 5 | 173 => 231 | 212 => 201 | 51 => 158 | 20 => 20 | 213 => 250 | 46 => 136 | 232 => 168 | 233 => 254 | 80 => 64 | n => n, fun | 15 => 10 | 16 => 11 | 17 => 12 | 18 => 20 | 19 => 21 | n => n⟩
theorem Tryz.laysC245 : Go.Proofs.LaysC.n245 Tryz.prog Tryz.laysC245_ren := {
  mixed := by kernel_rfl
  f129 := Tryz.func96.trans (congrArg some (by kernel_rfl))
  f171 := Tryz.func110.trans (congrArg some (by kernel_rfl))
  f205 := Tryz.func109.trans (congrArg some (by kernel_rfl))
  f243 := Tryz.func146.trans (congrArg some (by kernel_rfl))
  f245 := Tryz.func77.trans (congrArg some (by kernel_rfl))
  f246 := Tryz.func159.trans (congrArg some (by kernel_rfl))
  f279 := Tryz.func86.trans (congrArg some (by kernel_rfl))
  f280 := Tryz.func87.trans (congrArg some (by kernel_rfl))
  f281 := Tryz.func88.trans (congrArg some (by kernel_rfl))
  f282 := Tryz.func89.trans (congrArg some (by kernel_rfl))
  f283 := Tryz.func147.trans (congrArg some (by kernel_rfl))
  f284 := Tryz.func99.trans (congrArg some (by kernel_rfl))
  f285 := Tryz.func123.trans (congrArg some (by kernel_rfl))
  f286 := Tryz.func148.trans (congrArg some (by kernel_rfl))
  f316 := Tryz.func108.trans (congrArg some (by kernel_rfl))
  f317 := Tryz.func100.trans (congrArg some (by kernel_rfl))
  f318 := Tryz.func124.trans (congrArg some (by kernel_rfl))
  f319 := Tryz.func160.trans (congrArg some (by kernel_rfl))
  f320 := Tryz.func161.trans (congrArg some (by kernel_rfl))
  f337 := Tryz.func162.trans (congrArg some (by kernel_rfl))
  f338 := Tryz.func163.trans (congrArg some (by kernel_rfl))
  t0 := Tryz.underlying0
  a0 := Tryz.isAgg0
  z0 := Tryz.sizeOf0
  v0 := Tryz.zeroValue0
  t2 := Tryz.underlying2
  a2 := Tryz.isAgg2
  z2 := Tryz.sizeOf2
  v2 := Tryz.zeroValue2
  t3 := Tryz.underlying3
  a3 := Tryz.isAgg3
  z3 := Tryz.sizeOf3
  v3 := Tryz.zeroValue3
  t4 := Tryz.underlying4
  a4 := Tryz.isAgg4
  z4 := Tryz.sizeOf4
  v4 := Tryz.zeroValue4
  t5 := Tryz.underlying5
  a5 := Tryz.isAgg5
  z5 := Tryz.sizeOf5
  v5 := Tryz.zeroValue5
  t9 := Tryz.underlying9
  a9 := Tryz.isAgg9
  z9 := Tryz.sizeOf9
  v9 := Tryz.zeroValue9
  t20 := Tryz.underlying20
  a20 := Tryz.isAgg20
  z20 := Tryz.sizeOf20
  v20 := Tryz.zeroValue20
  t37 := Tryz.underlying66
  a37 := Tryz.isAgg66
  z37 := Tryz.sizeOf66
  v37 := Tryz.zeroValue66
  t46 := Tryz.underlying136
  a46 := Tryz.isAgg136
  z46 := Tryz.sizeOf136
  v46 := Tryz.zeroValue136
  t51 := Tryz.underlying158
  a51 := Tryz.isAgg158
  z51 := Tryz.sizeOf158
  v51 := Tryz.zeroValue158
  t53 := Tryz.underlying127
  a53 := Tryz.isAgg127
  z53 := Tryz.sizeOf127
  v53 := Tryz.zeroValue127
  t75 := Tryz.underlying41
  a75 := Tryz.isAgg41
  z75 := Tryz.sizeOf41
  v75 := Tryz.zeroValue41
  t127 := Tryz.underlying227
  a127 := Tryz.isAgg227
  z127 := Tryz.sizeOf227
  v127 := Tryz.zeroValue227
  t143 := Tryz.underlying228
  a143 := Tryz.isAgg228
  z143 := Tryz.sizeOf228
  v143 := Tryz.zeroValue228
  t145 := Tryz.underlying230
  a145 := Tryz.isAgg230
  z145 := Tryz.sizeOf230
  v145 := Tryz.zeroValue230
  t167 := Tryz.underlying150
  a167 := Tryz.isAgg150
  z167 := Tryz.sizeOf150
  v167 := Tryz.zeroValue150
  t168 := Tryz.underlying151
  a168 := Tryz.isAgg151
  z168 := Tryz.sizeOf151
  v168 := Tryz.zeroValue151
  t171 := Tryz.underlying174
  a171 := Tryz.isAgg174
  z171 := Tryz.sizeOf174
  v171 := Tryz.zeroValue174
  t173 := Tryz.underlying231
  a173 := Tryz.isAgg231
  z173 := Tryz.sizeOf231
  v173 := Tryz.zeroValue231
  t210 := Tryz.underlying185
  a210 := Tryz.isAgg185
  z210 := Tryz.sizeOf185
  v210 := Tryz.zeroValue185
  t212 := Tryz.underlying201
  a212 := Tryz.isAgg201
  z212 := Tryz.sizeOf201
  v212 := Tryz.zeroValue201
  t213 := Tryz.underlying250
  a213 := Tryz.isAgg250
  z213 := Tryz.sizeOf250
  t232 := Tryz.underlying168
  a232 := Tryz.isAgg168
  z232 := Tryz.sizeOf168
  v232 := Tryz.zeroValue168
  t233 := Tryz.underlying254
  a233 := Tryz.isAgg254
  z233 := Tryz.sizeOf254
  v233 := Tryz.zeroValue254
  g15 := by kernel_rfl
  g16 := by kernel_rfl
  g17 := by kernel_rfl
  g18 := by kernel_rfl
  g19 := by kernel_rfl
  t80 := Tryz.underlying64
  a80 := Tryz.isAgg64
  z80 := Tryz.sizeOf64
  v80 := Tryz.zeroValue64
  i0 := by kernel_rfl
  i2 := by kernel_rfl
  i3 := by kernel_rfl
  i4 := by kernel_rfl
  i5 := by kernel_rfl
  i9 := by kernel_rfl
  i20 := by kernel_rfl
  i37 := by kernel_rfl
  i46 := by kernel_rfl
  i51 := by kernel_rfl
  i53 := by kernel_rfl
  i75 := by kernel_rfl
  i80 := by kernel_rfl
  i127 := by kernel_rfl
  i143 := by kernel_rfl
  i145 := by kernel_rfl
  i167 := by kernel_rfl
  i168 := by kernel_rfl
  i171 := by kernel_rfl
  i173 := by kernel_rfl
  i210 := by kernel_rfl
  i212 := by kernel_rfl
  i232 := by kernel_rfl
  i233 := by kernel_rfl
  m15 := by kernel_rfl
  m16 := by kernel_rfl
  m17 := by kernel_rfl
  m18 := by kernel_rfl
  m19 := by kernel_rfl
  c0 := by kernel_rfl
  c2 := by kernel_rfl
  c3 := by kernel_rfl
  c4 := by kernel_rfl
  c5 := by kernel_rfl
  c9 := by kernel_rfl
  c20 := by kernel_rfl
  c37 := by kernel_rfl
  c46 := by kernel_rfl
  c51 := by kernel_rfl
  c53 := by kernel_rfl
  c75 := by kernel_rfl
  c80 := by kernel_rfl
  c127 := by kernel_rfl
  c143 := by kernel_rfl
  c145 := by kernel_rfl
  c167 := by kernel_rfl
  c168 := by kernel_rfl
  c171 := by kernel_rfl
  c173 := by kernel_rfl
  c210 := by kernel_rfl
  c212 := by kernel_rfl
  c213 := by kernel_rfl
  c232 := by kernel_rfl
  c233 := by kernel_rfl }
open Go.RowKit in
/-- strconv.toError, at the inner package's ErrSyntax: 'syntaxError(fn, s)' as an error: A *NumError IN A NEW BLOCK. (LAID: no walk: one application.) -/
theorem Tryz.strconv_toError_syntax (fn s : ByteArray) (base bits : Int) (ev : Value) (w : World) (hlim : s.size ≤ 281474976710656) (hv : w.cell? ⟨10, 0, none⟩ = some ev) (hev : ev = .nilIface ∨ ∃ te pe, ev = .iface te pe) :
    Calls Tryz.prog 77 #[.string fn, .string s, .int .i64 base, .int .i64 bits, .iface 150 (.int .i64 2)] w fun e w' => ∃ N, e = .returned (.iface 151 (.pointer (some ⟨N, 0, none⟩))) ∧ w.heap.size ≤ N ∧ w'.heap[N]? = some (.cells #[.string fn, .string s, ev] 185 (0, 0)) ∧ Below w.heap.size w w' := Any.strconv_toError_syntax Tryz.laysC245 fn s base bits ev w hlim hv hev
def Tryz.lays321_ren : Go.Shelf.Ren := ⟨fun | 321 => 114 | n => n, fun | 5 => 5 | n => n, fun | n => n⟩
theorem Tryz.lays321 : Go.Proofs.Lays.n321 Tryz.prog Tryz.lays321_ren := {
  mixed := by kernel_rfl
  f321 := Tryz.func114.trans (congrArg some (by kernel_rfl))
  t5 := Tryz.underlying5
  a5 := Tryz.isAgg5
  z5 := Tryz.sizeOf5
  v5 := Tryz.zeroValue5 }
open Go.RowKit in
/-- internal/strconv.lower: 'c | ('x' - 'X')': the bit 32 set. The world is as it was. (LAID: no walk: one application.) -/
theorem Tryz.internal_strconv_lower (c : Int) (w : World) :
    Calls Tryz.prog 114 #[.int .u8 c] w fun e w' => e = .returned (.int .u8 (bits .or .u8 c 32)) ∧ w' = w := Any.internal_strconv_lower Tryz.lays321 c w
def Tryz.laysM280_ren : Go.Shelf.Ren := ⟨fun | 280 => 87 | 316 => 108 | n => n, fun | 9 => 9 | 168 => 151 | 75 => 41 | 210 => 185 | 3 => 3 | 4 => 4 | 37 => 66 | 0 => 0 | 127 => 227 | 80 => 64 | 5 => 5 | n => n, fun | 16 => 11 | n => n⟩
theorem Tryz.laysM280 : Go.Proofs.LaysM.n280 Tryz.prog Tryz.laysM280_ren := {
  mixed := by kernel_rfl
  f280 := Tryz.func87.trans (congrArg some (by kernel_rfl))
  f316 := Tryz.func108.trans (congrArg some (by kernel_rfl))
  t0 := Tryz.underlying0
  a0 := Tryz.isAgg0
  z0 := Tryz.sizeOf0
  v0 := Tryz.zeroValue0
  t3 := Tryz.underlying3
  a3 := Tryz.isAgg3
  z3 := Tryz.sizeOf3
  v3 := Tryz.zeroValue3
  t4 := Tryz.underlying4
  a4 := Tryz.isAgg4
  z4 := Tryz.sizeOf4
  v4 := Tryz.zeroValue4
  t9 := Tryz.underlying9
  a9 := Tryz.isAgg9
  z9 := Tryz.sizeOf9
  v9 := Tryz.zeroValue9
  t37 := Tryz.underlying66
  a37 := Tryz.isAgg66
  z37 := Tryz.sizeOf66
  v37 := Tryz.zeroValue66
  t75 := Tryz.underlying41
  a75 := Tryz.isAgg41
  z75 := Tryz.sizeOf41
  v75 := Tryz.zeroValue41
  t127 := Tryz.underlying227
  a127 := Tryz.isAgg227
  z127 := Tryz.sizeOf227
  v127 := Tryz.zeroValue227
  t168 := Tryz.underlying151
  a168 := Tryz.isAgg151
  z168 := Tryz.sizeOf151
  v168 := Tryz.zeroValue151
  t210 := Tryz.underlying185
  a210 := Tryz.isAgg185
  z210 := Tryz.sizeOf185
  v210 := Tryz.zeroValue185
  g16 := by kernel_rfl
  t5 := Tryz.underlying5
  a5 := Tryz.isAgg5
  z5 := Tryz.sizeOf5
  v5 := Tryz.zeroValue5
  t80 := Tryz.underlying64
  a80 := Tryz.isAgg64
  z80 := Tryz.sizeOf64
  v80 := Tryz.zeroValue64
  i0 := by kernel_rfl
  i3 := by kernel_rfl
  i4 := by kernel_rfl
  i5 := by kernel_rfl
  i9 := by kernel_rfl
  i37 := by kernel_rfl
  i75 := by kernel_rfl
  i80 := by kernel_rfl
  i127 := by kernel_rfl
  i168 := by kernel_rfl
  i210 := by kernel_rfl
  m16 := by kernel_rfl }
open Go.RowKit in
/-- strconv.rangeError: '&NumError{fn, stringslite.Clone(str), ErrRange}': A POINTER TO A NEW BLOCK that holds fn, str's bytes, and what the variable ErrRange holds. Of what was there nothing has turned. (LAID: no walk: one application.) -/
theorem Tryz.strconv_rangeError (fn s : ByteArray) (ev : Value) (w : World) (hlim : s.size ≤ 281474976710656) (hv : w.cell? ⟨11, 0, none⟩ = some ev) (hev : ev = .nilIface ∨ ∃ te pe, ev = .iface te pe) :
    Calls Tryz.prog 87 #[.string fn, .string s] w fun e w' => ∃ N, e = .returned (.pointer (some ⟨N, 0, none⟩)) ∧ w.heap.size ≤ N ∧ w'.heap[N]? = some (.cells #[.string fn, .string s, ev] 185 (0, 0)) ∧ Below w.heap.size w w' := Any.strconv_rangeError Tryz.laysM280 fn s ev w hlim hv hev
open Go.RowKit in
/-- strconv.toError, at the inner package's ErrRange: 'rangeError(fn, s)' as an error: A *NumError IN A NEW BLOCK. (LAID: no walk: one application.) -/
theorem Tryz.strconv_toError_range (fn s : ByteArray) (base bits : Int) (ev : Value) (w : World) (hlim : s.size ≤ 281474976710656) (hv : w.cell? ⟨11, 0, none⟩ = some ev) (hev : ev = .nilIface ∨ ∃ te pe, ev = .iface te pe) :
    Calls Tryz.prog 77 #[.string fn, .string s, .int .i64 base, .int .i64 bits, .iface 150 (.int .i64 1)] w fun e w' => ∃ N, e = .returned (.iface 151 (.pointer (some ⟨N, 0, none⟩))) ∧ w.heap.size ≤ N ∧ w'.heap[N]? = some (.cells #[.string fn, .string s, ev] 185 (0, 0)) ∧ Below w.heap.size w w' := Any.strconv_toError_range Tryz.laysC245 fn s base bits ev w hlim hv hev
def Tryz.laysM252_ren : Go.Shelf.Ren := ⟨fun | 252 => 62 | 181 => 71 | 184 => 72 | 251 => 61 | 290 => 73 | 324 => 82 | n => n, fun | 130 => 61 | 3 => 3 | 4 => 4 | 0 => 0 | 93 => 90 | 131 => 112 | 37 => 66 | 75 => 41 | 91 => 88 | 20 => 20 | 5 => 5 | 80 => 64 | 9 => 9 | n => n, fun | 14 => 2 | n => n⟩
theorem Tryz.laysM252 : Go.Proofs.LaysM.n252 Tryz.prog Tryz.laysM252_ren := {
  mixed := by kernel_rfl
  f181 := Tryz.func71.trans (congrArg some (by kernel_rfl))
  f184 := Tryz.func72.trans (congrArg some (by kernel_rfl))
  f251 := Tryz.func61.trans (congrArg some (by kernel_rfl))
  f252 := Tryz.func62.trans (congrArg some (by kernel_rfl))
  f290 := Tryz.func73.trans (congrArg some (by kernel_rfl))
  f324 := Tryz.func82.trans (congrArg some (by kernel_rfl))
  t0 := Tryz.underlying0
  a0 := Tryz.isAgg0
  z0 := Tryz.sizeOf0
  v0 := Tryz.zeroValue0
  t3 := Tryz.underlying3
  a3 := Tryz.isAgg3
  z3 := Tryz.sizeOf3
  v3 := Tryz.zeroValue3
  t4 := Tryz.underlying4
  a4 := Tryz.isAgg4
  z4 := Tryz.sizeOf4
  v4 := Tryz.zeroValue4
  t20 := Tryz.underlying20
  a20 := Tryz.isAgg20
  z20 := Tryz.sizeOf20
  v20 := Tryz.zeroValue20
  t37 := Tryz.underlying66
  a37 := Tryz.isAgg66
  z37 := Tryz.sizeOf66
  v37 := Tryz.zeroValue66
  t75 := Tryz.underlying41
  a75 := Tryz.isAgg41
  z75 := Tryz.sizeOf41
  v75 := Tryz.zeroValue41
  t91 := Tryz.underlying88
  a91 := Tryz.isAgg88
  z91 := Tryz.sizeOf88
  v91 := Tryz.zeroValue88
  t93 := Tryz.underlying90
  a93 := Tryz.isAgg90
  z93 := Tryz.sizeOf90
  v93 := Tryz.zeroValue90
  t130 := Tryz.underlying61
  a130 := Tryz.isAgg61
  z130 := Tryz.sizeOf61
  v130 := Tryz.zeroValue61
  t131 := Tryz.underlying112
  a131 := Tryz.isAgg112
  z131 := Tryz.sizeOf112
  v131 := Tryz.zeroValue112
  g14 := by kernel_rfl
  t5 := Tryz.underlying5
  a5 := Tryz.isAgg5
  z5 := Tryz.sizeOf5
  v5 := Tryz.zeroValue5
  t9 := Tryz.underlying9
  a9 := Tryz.isAgg9
  z9 := Tryz.sizeOf9
  v9 := Tryz.zeroValue9
  t80 := Tryz.underlying64
  a80 := Tryz.isAgg64
  z80 := Tryz.sizeOf64
  v80 := Tryz.zeroValue64
  i0 := by kernel_rfl
  i3 := by kernel_rfl
  i4 := by kernel_rfl
  i5 := by kernel_rfl
  i9 := by kernel_rfl
  i20 := by kernel_rfl
  i37 := by kernel_rfl
  i75 := by kernel_rfl
  i80 := by kernel_rfl
  i91 := by kernel_rfl
  i93 := by kernel_rfl
  i130 := by kernel_rfl
  i131 := by kernel_rfl
  m14 := by kernel_rfl }
open Go.RowKit in
/-- grow, WHERE THE BUFFER HOLDS A ROW, NO BYTE IN IT (behind a Reset), AND THE ROW HAS NO ROOM: growSlice. (THE TEXT OF 'Buffer_grow_row' WITH 0 FOR l, BY PROGRAM: the walk parts on 'm == 0' and writes 0 for l throughout the goal: facts that still say l then do not strike: so l is laid in ahead of the walk.) (LAID: no walk: one application.) -/
theorem Tryz.Buffer_grow_row0_kept (B b g cap n : Nat) (lr : Int) (cur : Array Value) (bs : List Value) (w : World) (hB : B ≤ b) (hBw : B ≤ w.heap.size) (hbk : w.heap[b]? = some (.cells #[.slice (some ⟨g, 0, none⟩) 0 cap, .int .i64 0, .int .i8 lr] 90 (0, 0))) (hl : bs.length = 0) (hBg : B ≤ g) (hg : w.heap[g]? = some (.cells cur 5 (0, 0))) (hlc : 0 ≤ cap) (hcm : cap ≤ maxLen) (hcs : cur.size = cap) (htake : cur.toList.take 0 = bs) (hgb : g ≠ b) (h1 : ∀ v ∈ bs, v.oneCell' = true) (hn : 1 ≤ n) (hroom : cap - 0 < n) (hlim : 0 + n ≤ 140737488355328) :
    Calls Tryz.prog 62 #[.pointer (some ⟨b, 0, none⟩), .int .i64 n] w fun e w' => e = .returned (.int .i64 0) ∧ ∃ xs, xs.length = n ∧ Lib.IsBuffer 90 5 B b (bs ++ xs) w' ∧ Below B w w' ∧ Lib.OthersKept 5 (some b) w w' := Any.Buffer_grow_row0_kept Tryz.laysM252 B b g cap n lr cur bs w hB hBw hbk hl hBg hg hlc hcm hcs htake hgb h1 hn hroom hlim
open Go.RowKit in
/-- grow, WHERE THE BUFFER HOLDS A ROW THAT HAS NO ROOM: growSlice. (LAID: no walk: one application.) -/
theorem Tryz.Buffer_grow_row_kept (B b g l cap n : Nat) (lr : Int) (cur : Array Value) (bs : List Value) (w : World) (hB : B ≤ b) (hBw : B ≤ w.heap.size) (hbk : w.heap[b]? = some (.cells #[.slice (some ⟨g, 0, none⟩) l cap, .int .i64 0, .int .i8 lr] 90 (0, 0))) (hl : bs.length = l) (hBg : B ≤ g) (hg : w.heap[g]? = some (.cells cur 5 (0, 0))) (hlc : l ≤ cap) (hcm : cap ≤ maxLen) (hcs : cur.size = cap) (htake : cur.toList.take l = bs) (hgb : g ≠ b) (h1 : ∀ v ∈ bs, v.oneCell' = true) (hn : 1 ≤ n) (hroom : cap - l < n) (hlim : l + n ≤ 140737488355328) :
    Calls Tryz.prog 62 #[.pointer (some ⟨b, 0, none⟩), .int .i64 n] w fun e w' => e = .returned (.int .i64 l) ∧ ∃ xs, xs.length = n ∧ Lib.IsBuffer 90 5 B b (bs ++ xs) w' ∧ Below B w w' ∧ Lib.OthersKept 5 (some b) w w' := Any.Buffer_grow_row_kept Tryz.laysM252 B b g l cap n lr cur bs w hB hBw hbk hl hBg hg hlc hcm hcs htake hgb h1 hn hroom hlim
open Go.RowKit in
/-- grow, 'buf' nil, n AT MOST 64: 'b.buf = make([]byte, n, smallBufferSize)'. (LAID: no walk: one application.) -/
theorem Tryz.Buffer_grow_nil_small_kept (B b n : Nat) (lr : Int) (w : World) (hB : B ≤ b) (hBw : B ≤ w.heap.size) (hbk : w.heap[b]? = some (.cells #[.slice none 0 0, .int .i64 0, .int .i8 lr] 90 (0, 0))) (hn : 1 ≤ n) (h64 : n ≤ 64) :
    Calls Tryz.prog 62 #[.pointer (some ⟨b, 0, none⟩), .int .i64 n] w fun e w' => e = .returned (.int .i64 0) ∧ ∃ xs, xs.length = n ∧ Lib.IsBuffer 90 5 B b xs w' ∧ Below B w w' ∧ Lib.OthersKept 5 (some b) w w' := Any.Buffer_grow_nil_small_kept Tryz.laysM252 B b n lr w hB hBw hbk hn h64
open Go.RowKit in
/-- grow, 'buf' nil, n ABOVE 64: growSlice of the nil slice. (LAID: no walk: one application.) -/
theorem Tryz.Buffer_grow_nil_big_kept (B b n : Nat) (lr : Int) (w : World) (hB : B ≤ b) (hBw : B ≤ w.heap.size) (hbk : w.heap[b]? = some (.cells #[.slice none 0 0, .int .i64 0, .int .i8 lr] 90 (0, 0))) (h64 : 64 < n) (hlim : n ≤ 140737488355328) :
    Calls Tryz.prog 62 #[.pointer (some ⟨b, 0, none⟩), .int .i64 n] w fun e w' => e = .returned (.int .i64 0) ∧ ∃ xs, xs.length = n ∧ Lib.IsBuffer 90 5 B b xs w' ∧ Below B w w' ∧ Lib.OthersKept 5 (some b) w w' := Any.Buffer_grow_nil_big_kept Tryz.laysM252 B b n lr w hB hBw hbk h64 hlim
open Go.RowKit in
/-- tryGrowByReslice: EITHER there is room: the place to write at is the old length, and the buffer holds the old bytes and n more of whatever lay there; OR there is none: nothing turns, and 'Lib.NoRoom' is what grow asks. (LAID: no walk: one application.) -/
theorem Tryz.Buffer_tryGrow_kept (B b n : Nat) (bs : List Value) (w : World) (h : Lib.IsBuffer 90 5 B b bs w) :
    Calls Tryz.prog 61 #[.pointer (some ⟨b, 0, none⟩), .int .i64 n] w fun e w' =>
      (e = .returned (.tuple #[.int .i64 bs.length, .bool true]) ∧ ∃ xs, xs.length = n ∧ Lib.IsBuffer 90 5 B b (bs ++ xs) w' ∧ Below B w w' ∧ Lib.OthersKept 5 (some b) w w') ∨
      (e = .returned (.tuple #[.int .i64 0, .bool false]) ∧ w' = w ∧ Lib.NoRoom b n w) := Any.Buffer_tryGrow_kept Tryz.laysM251 B b n bs w h
open Go.RowKit in
/-- (*bytes.Buffer).grow: "grow grows the buffer to guarantee space for n more bytes. It returns the index where bytes should be written.": WHERE THERE IS NO ROOM; UNDER Go's OWN LIMIT (the new length takes at most 2^47 bytes): the old length; the buffer holds the old bytes and n more of whatever. (LAID: no walk: one application.) -/
theorem Tryz.Buffer_grow_kept (B b n : Nat) (bs : List Value) (w : World) (h : Lib.IsBuffer 90 5 B b bs w) (hnr : Lib.NoRoom b n w) (hBw : B ≤ w.heap.size) (h1 : ∀ v ∈ bs, v.oneCell' = true) (hlim : bs.length + n ≤ 140737488355328) :
    Calls Tryz.prog 62 #[.pointer (some ⟨b, 0, none⟩), .int .i64 n] w fun e w' => e = .returned (.int .i64 bs.length) ∧ ∃ xs, xs.length = n ∧ Lib.IsBuffer 90 5 B b (bs ++ xs) w' ∧ Below B w w' ∧ Lib.OthersKept 5 (some b) w w' := Any.Buffer_grow_kept Tryz.laysM252 B b n bs w h hnr hBw h1 hlim
def Tryz.laysM179_ren : Go.Shelf.Ren := ⟨fun | 179 => 36 | 251 => 61 | 252 => 62 | 181 => 71 | 184 => 72 | 290 => 73 | 324 => 82 | n => n, fun | 130 => 61 | 5 => 5 | 75 => 41 | 0 => 0 | 93 => 90 | 91 => 88 | 3 => 3 | 131 => 112 | 4 => 4 | 37 => 66 | 20 => 20 | 80 => 64 | 9 => 9 | n => n, fun | 14 => 2 | n => n⟩
theorem Tryz.laysM179 : Go.Proofs.LaysM.n179 Tryz.prog Tryz.laysM179_ren := {
  mixed := by kernel_rfl
  f179 := Tryz.func36.trans (congrArg some (by kernel_rfl))
  f181 := Tryz.func71.trans (congrArg some (by kernel_rfl))
  f184 := Tryz.func72.trans (congrArg some (by kernel_rfl))
  f251 := Tryz.func61.trans (congrArg some (by kernel_rfl))
  f252 := Tryz.func62.trans (congrArg some (by kernel_rfl))
  f290 := Tryz.func73.trans (congrArg some (by kernel_rfl))
  f324 := Tryz.func82.trans (congrArg some (by kernel_rfl))
  t0 := Tryz.underlying0
  a0 := Tryz.isAgg0
  z0 := Tryz.sizeOf0
  v0 := Tryz.zeroValue0
  t3 := Tryz.underlying3
  a3 := Tryz.isAgg3
  z3 := Tryz.sizeOf3
  v3 := Tryz.zeroValue3
  t4 := Tryz.underlying4
  a4 := Tryz.isAgg4
  z4 := Tryz.sizeOf4
  v4 := Tryz.zeroValue4
  t5 := Tryz.underlying5
  a5 := Tryz.isAgg5
  z5 := Tryz.sizeOf5
  v5 := Tryz.zeroValue5
  t20 := Tryz.underlying20
  a20 := Tryz.isAgg20
  z20 := Tryz.sizeOf20
  v20 := Tryz.zeroValue20
  t37 := Tryz.underlying66
  a37 := Tryz.isAgg66
  z37 := Tryz.sizeOf66
  v37 := Tryz.zeroValue66
  t75 := Tryz.underlying41
  a75 := Tryz.isAgg41
  z75 := Tryz.sizeOf41
  v75 := Tryz.zeroValue41
  t91 := Tryz.underlying88
  a91 := Tryz.isAgg88
  z91 := Tryz.sizeOf88
  v91 := Tryz.zeroValue88
  t93 := Tryz.underlying90
  a93 := Tryz.isAgg90
  z93 := Tryz.sizeOf90
  v93 := Tryz.zeroValue90
  t130 := Tryz.underlying61
  a130 := Tryz.isAgg61
  z130 := Tryz.sizeOf61
  v130 := Tryz.zeroValue61
  t131 := Tryz.underlying112
  a131 := Tryz.isAgg112
  z131 := Tryz.sizeOf112
  v131 := Tryz.zeroValue112
  g14 := by kernel_rfl
  t9 := Tryz.underlying9
  a9 := Tryz.isAgg9
  z9 := Tryz.sizeOf9
  v9 := Tryz.zeroValue9
  t80 := Tryz.underlying64
  a80 := Tryz.isAgg64
  z80 := Tryz.sizeOf64
  v80 := Tryz.zeroValue64
  i0 := by kernel_rfl
  i3 := by kernel_rfl
  i4 := by kernel_rfl
  i5 := by kernel_rfl
  i9 := by kernel_rfl
  i20 := by kernel_rfl
  i37 := by kernel_rfl
  i75 := by kernel_rfl
  i80 := by kernel_rfl
  i91 := by kernel_rfl
  i93 := by kernel_rfl
  i130 := by kernel_rfl
  i131 := by kernel_rfl
  m14 := by kernel_rfl }
open Go.RowKit in
/-- (*bytes.Buffer).WriteByte: "WriteByte appends the byte c to the buffer, growing the buffer as needed. The returned error is always nil". (LAID: no walk: one application.) -/
theorem Tryz.Buffer_WriteByte_kept (B b : Nat) (bs : List Value) (c : Int) (w : World) (h : Lib.IsBuffer 90 5 B b bs w) (hBw : B ≤ w.heap.size) (h1 : ∀ v ∈ bs, v.oneCell' = true) (hlim : bs.length + 1 ≤ 140737488355328) :
    Calls Tryz.prog 36 #[.pointer (some ⟨b, 0, none⟩), .int .u8 c] w fun e w' => e = .returned .nilIface ∧ Lib.IsBuffer 90 5 B b (bs ++ [.int .u8 c]) w' ∧ Below B w w' ∧ Lib.OthersKept 5 (some b) w w' := Any.Buffer_WriteByte_kept Tryz.laysM179 B b bs c w h hBw h1 hlim
def Tryz.laysM178_ren : Go.Shelf.Ren := ⟨fun | 178 => 33 | 251 => 61 | 252 => 62 | 181 => 71 | 184 => 72 | 290 => 73 | 324 => 82 | n => n, fun | 130 => 61 | 9 => 9 | 3 => 3 | 75 => 41 | 0 => 0 | 93 => 90 | 91 => 88 | 131 => 112 | 4 => 4 | 37 => 66 | 20 => 20 | 80 => 64 | 5 => 5 | n => n, fun | 14 => 2 | n => n⟩
theorem Tryz.laysM178 : Go.Proofs.LaysM.n178 Tryz.prog Tryz.laysM178_ren := {
  mixed := by kernel_rfl
  f178 := Tryz.func33.trans (congrArg some (by kernel_rfl))
  f181 := Tryz.func71.trans (congrArg some (by kernel_rfl))
  f184 := Tryz.func72.trans (congrArg some (by kernel_rfl))
  f251 := Tryz.func61.trans (congrArg some (by kernel_rfl))
  f252 := Tryz.func62.trans (congrArg some (by kernel_rfl))
  f290 := Tryz.func73.trans (congrArg some (by kernel_rfl))
  f324 := Tryz.func82.trans (congrArg some (by kernel_rfl))
  t0 := Tryz.underlying0
  a0 := Tryz.isAgg0
  z0 := Tryz.sizeOf0
  v0 := Tryz.zeroValue0
  t3 := Tryz.underlying3
  a3 := Tryz.isAgg3
  z3 := Tryz.sizeOf3
  v3 := Tryz.zeroValue3
  t4 := Tryz.underlying4
  a4 := Tryz.isAgg4
  z4 := Tryz.sizeOf4
  v4 := Tryz.zeroValue4
  t9 := Tryz.underlying9
  a9 := Tryz.isAgg9
  z9 := Tryz.sizeOf9
  v9 := Tryz.zeroValue9
  t20 := Tryz.underlying20
  a20 := Tryz.isAgg20
  z20 := Tryz.sizeOf20
  v20 := Tryz.zeroValue20
  t37 := Tryz.underlying66
  a37 := Tryz.isAgg66
  z37 := Tryz.sizeOf66
  v37 := Tryz.zeroValue66
  t75 := Tryz.underlying41
  a75 := Tryz.isAgg41
  z75 := Tryz.sizeOf41
  v75 := Tryz.zeroValue41
  t91 := Tryz.underlying88
  a91 := Tryz.isAgg88
  z91 := Tryz.sizeOf88
  v91 := Tryz.zeroValue88
  t93 := Tryz.underlying90
  a93 := Tryz.isAgg90
  z93 := Tryz.sizeOf90
  v93 := Tryz.zeroValue90
  t130 := Tryz.underlying61
  a130 := Tryz.isAgg61
  z130 := Tryz.sizeOf61
  v130 := Tryz.zeroValue61
  t131 := Tryz.underlying112
  a131 := Tryz.isAgg112
  z131 := Tryz.sizeOf112
  v131 := Tryz.zeroValue112
  g14 := by kernel_rfl
  t5 := Tryz.underlying5
  a5 := Tryz.isAgg5
  z5 := Tryz.sizeOf5
  v5 := Tryz.zeroValue5
  t80 := Tryz.underlying64
  a80 := Tryz.isAgg64
  z80 := Tryz.sizeOf64
  v80 := Tryz.zeroValue64
  i0 := by kernel_rfl
  i3 := by kernel_rfl
  i4 := by kernel_rfl
  i5 := by kernel_rfl
  i9 := by kernel_rfl
  i20 := by kernel_rfl
  i37 := by kernel_rfl
  i75 := by kernel_rfl
  i80 := by kernel_rfl
  i91 := by kernel_rfl
  i93 := by kernel_rfl
  i130 := by kernel_rfl
  i131 := by kernel_rfl
  m14 := by kernel_rfl }
open Go.RowKit in
/-- (*bytes.Buffer).WriteString: "WriteString appends the contents of s to the buffer, growing the buffer as needed. The return value n is the length of s; err is always nil." (LAID: no walk: one application.) -/
theorem Tryz.Buffer_WriteString_kept (B b : Nat) (bs : List Value) (s : ByteArray) (w : World) (h : Lib.IsBuffer 90 5 B b bs w) (hBw : B ≤ w.heap.size) (h1 : ∀ v ∈ bs, v.oneCell' = true) (hlim : bs.length + s.size ≤ 140737488355328) :
    Calls Tryz.prog 33 #[.pointer (some ⟨b, 0, none⟩), .string s] w fun e w' => e = .returned (.tuple #[.int .i64 s.size, .nilIface]) ∧ Lib.IsBuffer 90 5 B b (bs ++ Lib.byteCells s.data.toList) w' ∧ Below B w w' ∧ Lib.OthersKept 5 (some b) w w' := Any.Buffer_WriteString_kept Tryz.laysM178 B b bs s w h hBw h1 hlim
def Tryz.laysM184_ren : Go.Shelf.Ren := ⟨fun | 184 => 72 | n => n, fun | 130 => 61 | 0 => 0 | 93 => 90 | 37 => 66 | 3 => 3 | 91 => 88 | 5 => 5 | n => n, fun | n => n⟩
theorem Tryz.laysM184 : Go.Proofs.LaysM.n184 Tryz.prog Tryz.laysM184_ren := {
  mixed := by kernel_rfl
  f184 := Tryz.func72.trans (congrArg some (by kernel_rfl))
  t0 := Tryz.underlying0
  a0 := Tryz.isAgg0
  z0 := Tryz.sizeOf0
  v0 := Tryz.zeroValue0
  t3 := Tryz.underlying3
  a3 := Tryz.isAgg3
  z3 := Tryz.sizeOf3
  v3 := Tryz.zeroValue3
  t37 := Tryz.underlying66
  a37 := Tryz.isAgg66
  z37 := Tryz.sizeOf66
  v37 := Tryz.zeroValue66
  t91 := Tryz.underlying88
  a91 := Tryz.isAgg88
  z91 := Tryz.sizeOf88
  v91 := Tryz.zeroValue88
  t93 := Tryz.underlying90
  a93 := Tryz.isAgg90
  z93 := Tryz.sizeOf90
  v93 := Tryz.zeroValue90
  t130 := Tryz.underlying61
  a130 := Tryz.isAgg61
  z130 := Tryz.sizeOf61
  v130 := Tryz.zeroValue61
  t5 := Tryz.underlying5
  a5 := Tryz.isAgg5
  z5 := Tryz.sizeOf5
  v5 := Tryz.zeroValue5
  i0 := by kernel_rfl
  i3 := by kernel_rfl
  i5 := by kernel_rfl
  i37 := by kernel_rfl
  i91 := by kernel_rfl
  i93 := by kernel_rfl
  i130 := by kernel_rfl }
open Go.RowKit in
/-- (*bytes.Buffer).Reset: "Reset resets the buffer to be empty, but it retains the underlying storage for use by future writes." (LAID: no walk: one application.) -/
theorem Tryz.Buffer_Reset_kept (B b : Nat) (bs : List Value) (w : World) (h : Lib.IsBuffer 90 5 B b bs w) :
    Calls Tryz.prog 72 #[.pointer (some ⟨b, 0, none⟩)] w fun e w' => e = .returned (.tuple #[]) ∧ Lib.IsBuffer 90 5 B b [] w' ∧ Below B w w' ∧ Lib.OthersKept 5 (some b) w w' := Any.Buffer_Reset_kept Tryz.laysM184 B b bs w h
def Tryz.laysM180_ren : Go.Shelf.Ren := ⟨fun | 180 => 35 | 251 => 61 | 252 => 62 | 181 => 71 | 184 => 72 | 290 => 73 | 324 => 82 | n => n, fun | 130 => 61 | 37 => 66 | 3 => 3 | 75 => 41 | 0 => 0 | 93 => 90 | 91 => 88 | 131 => 112 | 4 => 4 | 20 => 20 | 5 => 5 | 80 => 64 | 9 => 9 | n => n, fun | 14 => 2 | n => n⟩
theorem Tryz.laysM180 : Go.Proofs.LaysM.n180 Tryz.prog Tryz.laysM180_ren := {
  mixed := by kernel_rfl
  f180 := Tryz.func35.trans (congrArg some (by kernel_rfl))
  f181 := Tryz.func71.trans (congrArg some (by kernel_rfl))
  f184 := Tryz.func72.trans (congrArg some (by kernel_rfl))
  f251 := Tryz.func61.trans (congrArg some (by kernel_rfl))
  f252 := Tryz.func62.trans (congrArg some (by kernel_rfl))
  f290 := Tryz.func73.trans (congrArg some (by kernel_rfl))
  f324 := Tryz.func82.trans (congrArg some (by kernel_rfl))
  t0 := Tryz.underlying0
  a0 := Tryz.isAgg0
  z0 := Tryz.sizeOf0
  v0 := Tryz.zeroValue0
  t3 := Tryz.underlying3
  a3 := Tryz.isAgg3
  z3 := Tryz.sizeOf3
  v3 := Tryz.zeroValue3
  t4 := Tryz.underlying4
  a4 := Tryz.isAgg4
  z4 := Tryz.sizeOf4
  v4 := Tryz.zeroValue4
  t20 := Tryz.underlying20
  a20 := Tryz.isAgg20
  z20 := Tryz.sizeOf20
  v20 := Tryz.zeroValue20
  t37 := Tryz.underlying66
  a37 := Tryz.isAgg66
  z37 := Tryz.sizeOf66
  v37 := Tryz.zeroValue66
  t75 := Tryz.underlying41
  a75 := Tryz.isAgg41
  z75 := Tryz.sizeOf41
  v75 := Tryz.zeroValue41
  t91 := Tryz.underlying88
  a91 := Tryz.isAgg88
  z91 := Tryz.sizeOf88
  v91 := Tryz.zeroValue88
  t93 := Tryz.underlying90
  a93 := Tryz.isAgg90
  z93 := Tryz.sizeOf90
  v93 := Tryz.zeroValue90
  t130 := Tryz.underlying61
  a130 := Tryz.isAgg61
  z130 := Tryz.sizeOf61
  v130 := Tryz.zeroValue61
  t131 := Tryz.underlying112
  a131 := Tryz.isAgg112
  z131 := Tryz.sizeOf112
  v131 := Tryz.zeroValue112
  g14 := by kernel_rfl
  t5 := Tryz.underlying5
  a5 := Tryz.isAgg5
  z5 := Tryz.sizeOf5
  v5 := Tryz.zeroValue5
  t9 := Tryz.underlying9
  a9 := Tryz.isAgg9
  z9 := Tryz.sizeOf9
  v9 := Tryz.zeroValue9
  t80 := Tryz.underlying64
  a80 := Tryz.isAgg64
  z80 := Tryz.sizeOf64
  v80 := Tryz.zeroValue64
  i0 := by kernel_rfl
  i3 := by kernel_rfl
  i4 := by kernel_rfl
  i5 := by kernel_rfl
  i9 := by kernel_rfl
  i20 := by kernel_rfl
  i37 := by kernel_rfl
  i75 := by kernel_rfl
  i80 := by kernel_rfl
  i91 := by kernel_rfl
  i93 := by kernel_rfl
  i130 := by kernel_rfl
  i131 := by kernel_rfl
  m14 := by kernel_rfl }
open Go.RowKit in
/-- (*bytes.Buffer).Write: "Write appends the contents of p to the buffer, growing the buffer as needed. The return value n is the length of p; err is always nil." (LAID: no walk: one application.) -/
theorem Tryz.Buffer_Write_kept (B b : Nat) (bs cs : List Value) (a : Addr) (n c : Nat) (w : World) (h : Lib.IsBuffer 90 5 B b bs w) (hBw : B ≤ w.heap.size) (h1 : ∀ v ∈ bs, v.oneCell' = true) (hn : cs.length = n) (haB : a.block < B) (hsrc : ∀ j v, cs[j]? = some v → w.cell? (a.add j) = some v) (h1c : ∀ v ∈ cs, v.oneCell' = true) (hlim : bs.length + n ≤ 140737488355328) :
    Calls Tryz.prog 35 #[.pointer (some ⟨b, 0, none⟩), .slice (some a) n c] w fun e w' => e = .returned (.tuple #[.int .i64 n, .nilIface]) ∧ Lib.IsBuffer 90 5 B b (bs ++ cs) w' ∧ Below B w w' ∧ Lib.OthersKept 5 (some b) w w' := Any.Buffer_Write_kept Tryz.laysM180 B b bs cs a n c w h hBw h1 hn haB hsrc h1c hlim
open Go.RowKit in
theorem Tryz.Buffer_WriteByte_k (B b : Nat) (bs : List Value) (c : Int) (w : World) (h : Lib.IsBuffer 90 5 B b bs w) (hBw : B ≤ w.heap.size) (h1 : ∀ v ∈ bs, v.oneCell' = true) (hlim : bs.length + 1 ≤ 140737488355328) :
    Calls Tryz.prog 36 #[.pointer (some ⟨b, 0, none⟩), .int .u8 c] w fun e w' => e = .returned .nilIface ∧ Lib.IsBuffer 90 5 B b (bs ++ [.int .u8 c]) w' ∧ Below B w w' ∧ Lib.OthersKept 5 (some b) w w' := Any.Buffer_WriteByte_k Tryz.laysM179 B b bs c w h hBw h1 hlim
open Go.RowKit in
theorem Tryz.Buffer_WriteString_k (B b : Nat) (bs : List Value) (s : ByteArray) (w : World) (h : Lib.IsBuffer 90 5 B b bs w) (hBw : B ≤ w.heap.size) (h1 : ∀ v ∈ bs, v.oneCell' = true) (hlim : bs.length + s.size ≤ 140737488355328) :
    Calls Tryz.prog 33 #[.pointer (some ⟨b, 0, none⟩), .string s] w fun e w' => e = .returned (.tuple #[.int .i64 s.size, .nilIface]) ∧ Lib.IsBuffer 90 5 B b (bs ++ Lib.byteCells s.data.toList) w' ∧ Below B w w' ∧ Lib.OthersKept 5 (some b) w w' := Any.Buffer_WriteString_k Tryz.laysM178 B b bs s w h hBw h1 hlim
open Go.RowKit in
theorem Tryz.Buffer_Write_k (B b : Nat) (bs cs : List Value) (a : Addr) (n c : Nat) (w : World) (h : Lib.IsBuffer 90 5 B b bs w) (hBw : B ≤ w.heap.size) (h1 : ∀ v ∈ bs, v.oneCell' = true) (hn : cs.length = n) (haB : a.block < B) (hsrc : ∀ j v, cs[j]? = some v → w.cell? (a.add j) = some v) (h1c : ∀ v ∈ cs, v.oneCell' = true) (hlim : bs.length + n ≤ 140737488355328) :
    Calls Tryz.prog 35 #[.pointer (some ⟨b, 0, none⟩), .slice (some a) n c] w fun e w' => e = .returned (.tuple #[.int .i64 n, .nilIface]) ∧ Lib.IsBuffer 90 5 B b (bs ++ cs) w' ∧ Below B w w' ∧ Lib.OthersKept 5 (some b) w w' := Any.Buffer_Write_k Tryz.laysM180 B b bs cs a n c w h hBw h1 hn haB hsrc h1c hlim
open Go.RowKit in
theorem Tryz.Buffer_Reset_k (B b : Nat) (bs : List Value) (w : World) (h : Lib.IsBuffer 90 5 B b bs w) :
    Calls Tryz.prog 72 #[.pointer (some ⟨b, 0, none⟩)] w fun e w' => e = .returned (.tuple #[]) ∧ Lib.IsBuffer 90 5 B b [] w' ∧ Below B w w' ∧ Lib.OthersKept 5 (some b) w w' := Any.Buffer_Reset_k Tryz.laysM184 B b bs w h
open Go.RowKit in
/-- grow, WHERE THE BUFFER HOLDS A ROW, NO BYTE IN IT (behind a Reset), AND THE ROW HAS NO ROOM: growSlice. (THE TEXT OF 'Buffer_grow_row' WITH 0 FOR l, BY PROGRAM: the walk parts on 'm == 0' and writes 0 for l throughout the goal: facts that still say l then do not strike: so l is laid in ahead of the walk.) (LAID: no walk: one application.) -/
theorem Tryz.Buffer_grow_row0_own (B b g cap n : Nat) (lr : Int) (cur : Array Value) (bs : List Value) (w : World) (hB : B ≤ b) (hBw : B ≤ w.heap.size) (hbk : w.heap[b]? = some (.cells #[.slice (some ⟨g, 0, none⟩) 0 cap, .int .i64 0, .int .i8 lr] 90 (0, 0))) (hl : bs.length = 0) (hBg : B ≤ g) (hg : w.heap[g]? = some (.cells cur 5 (0, 0))) (hlc : 0 ≤ cap) (hcm : cap ≤ maxLen) (hcs : cur.size = cap) (htake : cur.toList.take 0 = bs) (hgb : g ≠ b) (h1 : ∀ v ∈ bs, v.oneCell' = true) (hn : 1 ≤ n) (hroom : cap - 0 < n) (hlim : 0 + n ≤ 140737488355328) :
    Calls Tryz.prog 62 #[.pointer (some ⟨b, 0, none⟩), .int .i64 n] w fun e w' => e = .returned (.int .i64 0) ∧ ∃ xs, xs.length = n ∧ Lib.IsBuffer 90 5 B b (bs ++ xs) w' ∧ Below B w w' ∧ Lib.OthersKept 5 (some b) w w' ∧ w.grownBy w' (some b) := Any.Buffer_grow_row0_own Tryz.laysM252 B b g cap n lr cur bs w hB hBw hbk hl hBg hg hlc hcm hcs htake hgb h1 hn hroom hlim
open Go.RowKit in
/-- grow, WHERE THE BUFFER HOLDS A ROW THAT HAS NO ROOM: growSlice. (LAID: no walk: one application.) -/
theorem Tryz.Buffer_grow_row_own (B b g l cap n : Nat) (lr : Int) (cur : Array Value) (bs : List Value) (w : World) (hB : B ≤ b) (hBw : B ≤ w.heap.size) (hbk : w.heap[b]? = some (.cells #[.slice (some ⟨g, 0, none⟩) l cap, .int .i64 0, .int .i8 lr] 90 (0, 0))) (hl : bs.length = l) (hBg : B ≤ g) (hg : w.heap[g]? = some (.cells cur 5 (0, 0))) (hlc : l ≤ cap) (hcm : cap ≤ maxLen) (hcs : cur.size = cap) (htake : cur.toList.take l = bs) (hgb : g ≠ b) (h1 : ∀ v ∈ bs, v.oneCell' = true) (hn : 1 ≤ n) (hroom : cap - l < n) (hlim : l + n ≤ 140737488355328) :
    Calls Tryz.prog 62 #[.pointer (some ⟨b, 0, none⟩), .int .i64 n] w fun e w' => e = .returned (.int .i64 l) ∧ ∃ xs, xs.length = n ∧ Lib.IsBuffer 90 5 B b (bs ++ xs) w' ∧ Below B w w' ∧ Lib.OthersKept 5 (some b) w w' ∧ w.grownBy w' (some b) := Any.Buffer_grow_row_own Tryz.laysM252 B b g l cap n lr cur bs w hB hBw hbk hl hBg hg hlc hcm hcs htake hgb h1 hn hroom hlim
open Go.RowKit in
/-- grow, 'buf' nil, n AT MOST 64: 'b.buf = make([]byte, n, smallBufferSize)'. (LAID: no walk: one application.) -/
theorem Tryz.Buffer_grow_nil_small_own (B b n : Nat) (lr : Int) (w : World) (hB : B ≤ b) (hBw : B ≤ w.heap.size) (hbk : w.heap[b]? = some (.cells #[.slice none 0 0, .int .i64 0, .int .i8 lr] 90 (0, 0))) (hn : 1 ≤ n) (h64 : n ≤ 64) :
    Calls Tryz.prog 62 #[.pointer (some ⟨b, 0, none⟩), .int .i64 n] w fun e w' => e = .returned (.int .i64 0) ∧ ∃ xs, xs.length = n ∧ Lib.IsBuffer 90 5 B b xs w' ∧ Below B w w' ∧ Lib.OthersKept 5 (some b) w w' ∧ w.grownBy w' (some b) := Any.Buffer_grow_nil_small_own Tryz.laysM252 B b n lr w hB hBw hbk hn h64
open Go.RowKit in
/-- grow, 'buf' nil, n ABOVE 64: growSlice of the nil slice. (LAID: no walk: one application.) -/
theorem Tryz.Buffer_grow_nil_big_own (B b n : Nat) (lr : Int) (w : World) (hB : B ≤ b) (hBw : B ≤ w.heap.size) (hbk : w.heap[b]? = some (.cells #[.slice none 0 0, .int .i64 0, .int .i8 lr] 90 (0, 0))) (h64 : 64 < n) (hlim : n ≤ 140737488355328) :
    Calls Tryz.prog 62 #[.pointer (some ⟨b, 0, none⟩), .int .i64 n] w fun e w' => e = .returned (.int .i64 0) ∧ ∃ xs, xs.length = n ∧ Lib.IsBuffer 90 5 B b xs w' ∧ Below B w w' ∧ Lib.OthersKept 5 (some b) w w' ∧ w.grownBy w' (some b) := Any.Buffer_grow_nil_big_own Tryz.laysM252 B b n lr w hB hBw hbk h64 hlim
open Go.RowKit in
/-- tryGrowByReslice: EITHER there is room: the place to write at is the old length, and the buffer holds the old bytes and n more of whatever lay there; OR there is none: nothing turns, and 'Lib.NoRoom' is what grow asks. (LAID: no walk: one application.) -/
theorem Tryz.Buffer_tryGrow_own (B b n : Nat) (bs : List Value) (w : World) (h : Lib.IsBuffer 90 5 B b bs w) :
    Calls Tryz.prog 61 #[.pointer (some ⟨b, 0, none⟩), .int .i64 n] w fun e w' =>
      (e = .returned (.tuple #[.int .i64 bs.length, .bool true]) ∧ ∃ xs, xs.length = n ∧ Lib.IsBuffer 90 5 B b (bs ++ xs) w' ∧ Below B w w' ∧ Lib.OthersKept 5 (some b) w w' ∧ w.grownBy w' (some b)) ∨
      (e = .returned (.tuple #[.int .i64 0, .bool false]) ∧ w' = w ∧ Lib.NoRoom b n w) := Any.Buffer_tryGrow_own Tryz.laysM251 B b n bs w h
open Go.RowKit in
/-- (*bytes.Buffer).grow: "grow grows the buffer to guarantee space for n more bytes. It returns the index where bytes should be written.": WHERE THERE IS NO ROOM; UNDER Go's OWN LIMIT (the new length takes at most 2^47 bytes): the old length; the buffer holds the old bytes and n more of whatever. (LAID: no walk: one application.) -/
theorem Tryz.Buffer_grow_own (B b n : Nat) (bs : List Value) (w : World) (h : Lib.IsBuffer 90 5 B b bs w) (hnr : Lib.NoRoom b n w) (hBw : B ≤ w.heap.size) (h1 : ∀ v ∈ bs, v.oneCell' = true) (hlim : bs.length + n ≤ 140737488355328) :
    Calls Tryz.prog 62 #[.pointer (some ⟨b, 0, none⟩), .int .i64 n] w fun e w' => e = .returned (.int .i64 bs.length) ∧ ∃ xs, xs.length = n ∧ Lib.IsBuffer 90 5 B b (bs ++ xs) w' ∧ Below B w w' ∧ Lib.OthersKept 5 (some b) w w' ∧ w.grownBy w' (some b) := Any.Buffer_grow_own Tryz.laysM252 B b n bs w h hnr hBw h1 hlim
open Go.RowKit in
/-- (*bytes.Buffer).Write: "Write appends the contents of p to the buffer, growing the buffer as needed. The return value n is the length of p; err is always nil." (LAID: no walk: one application.) -/
theorem Tryz.Buffer_Write_any (B b : Nat) (bs cs : List Value) (a : Addr) (n c : Nat) (w : World) (h : Lib.IsBuffer 90 5 B b bs w) (hBw : B ≤ w.heap.size) (h1 : ∀ v ∈ bs, v.oneCell' = true) (hn : cs.length = n) (hab : a.block ≠ b) (hsrc : ∀ j v, cs[j]? = some v → w.cell? (a.add j) = some v) (h1c : ∀ v ∈ cs, v.oneCell' = true) (hlim : bs.length + n ≤ 140737488355328) :
    Calls Tryz.prog 35 #[.pointer (some ⟨b, 0, none⟩), .slice (some a) n c] w fun e w' => e = .returned (.tuple #[.int .i64 n, .nilIface]) ∧ Lib.IsBuffer 90 5 B b (bs ++ cs) w' ∧ Below B w w' ∧ Lib.OthersKept 5 (some b) w w' := Any.Buffer_Write_any Tryz.laysM180 B b bs cs a n c w h hBw h1 hn hab hsrc h1c hlim
def Tryz.lays164_ren : Go.Shelf.Ren := ⟨fun | 164 => 42 | 197 => 67 | 239 => 68 | 260 => 78 | 274 => 79 | 275 => 80 | n => n, fun | 9 => 9 | 4 => 4 | 3 => 3 | 5 => 5 | 0 => 0 | 21 => 21 | 105 => 121 | 156 => 134 | 49 => 133 | 157 => 135 | 46 => 136 | 159 => 138 | 162 => 141 | 160 => 139 | 119 => 154 | 139 => 157 | 138 => 156 | 208 => 162 | 51 => 158 | 206 => 160 | n => n, fun | 11 => 3 | 12 => 4 | 13 => 5 | 3 => 7 | 4 => 8 | n => n⟩
theorem Tryz.lays164 : Go.Proofs.Lays.n164 Tryz.prog Tryz.lays164_ren := {
  mixed := by kernel_rfl
  f164 := Tryz.func42.trans (congrArg some (by kernel_rfl))
  f197 := Tryz.func67.trans (congrArg some (by kernel_rfl))
  f239 := Tryz.func68.trans (congrArg some (by kernel_rfl))
  f260 := Tryz.func78.trans (congrArg some (by kernel_rfl))
  f274 := Tryz.func79.trans (congrArg some (by kernel_rfl))
  f275 := Tryz.func80.trans (congrArg some (by kernel_rfl))
  t0 := Tryz.underlying0
  a0 := Tryz.isAgg0
  z0 := Tryz.sizeOf0
  v0 := Tryz.zeroValue0
  t3 := Tryz.underlying3
  a3 := Tryz.isAgg3
  z3 := Tryz.sizeOf3
  v3 := Tryz.zeroValue3
  t4 := Tryz.underlying4
  a4 := Tryz.isAgg4
  z4 := Tryz.sizeOf4
  v4 := Tryz.zeroValue4
  t5 := Tryz.underlying5
  a5 := Tryz.isAgg5
  z5 := Tryz.sizeOf5
  v5 := Tryz.zeroValue5
  t9 := Tryz.underlying9
  a9 := Tryz.isAgg9
  z9 := Tryz.sizeOf9
  v9 := Tryz.zeroValue9
  t21 := Tryz.underlying21
  a21 := Tryz.isAgg21
  z21 := Tryz.sizeOf21
  v21 := Tryz.zeroValue21
  t46 := Tryz.underlying136
  a46 := Tryz.isAgg136
  z46 := Tryz.sizeOf136
  v46 := Tryz.zeroValue136
  t49 := Tryz.underlying133
  a49 := Tryz.isAgg133
  z49 := Tryz.sizeOf133
  v49 := Tryz.zeroValue133
  t51 := Tryz.underlying158
  a51 := Tryz.isAgg158
  z51 := Tryz.sizeOf158
  v51 := Tryz.zeroValue158
  t105 := Tryz.underlying121
  a105 := Tryz.isAgg121
  z105 := Tryz.sizeOf121
  v105 := Tryz.zeroValue121
  t119 := Tryz.underlying154
  a119 := Tryz.isAgg154
  z119 := Tryz.sizeOf154
  t138 := Tryz.underlying156
  a138 := Tryz.isAgg156
  z138 := Tryz.sizeOf156
  v138 := Tryz.zeroValue156
  t139 := Tryz.underlying157
  a139 := Tryz.isAgg157
  z139 := Tryz.sizeOf157
  v139 := Tryz.zeroValue157
  t156 := Tryz.underlying134
  a156 := Tryz.isAgg134
  z156 := Tryz.sizeOf134
  t157 := Tryz.underlying135
  a157 := Tryz.isAgg135
  z157 := Tryz.sizeOf135
  v157 := Tryz.zeroValue135
  t159 := Tryz.underlying138
  a159 := Tryz.isAgg138
  z159 := Tryz.sizeOf138
  v159 := Tryz.zeroValue138
  t160 := Tryz.underlying139
  a160 := Tryz.isAgg139
  z160 := Tryz.sizeOf139
  v160 := Tryz.zeroValue139
  t162 := Tryz.underlying141
  a162 := Tryz.isAgg141
  z162 := Tryz.sizeOf141
  v162 := Tryz.zeroValue141
  t206 := Tryz.underlying160
  a206 := Tryz.isAgg160
  z206 := Tryz.sizeOf160
  v206 := Tryz.zeroValue160
  t208 := Tryz.underlying162
  a208 := Tryz.isAgg162
  z208 := Tryz.sizeOf162
  v208 := Tryz.zeroValue162
  g3 := by kernel_rfl
  g4 := by kernel_rfl
  g11 := by kernel_rfl
  g12 := by kernel_rfl
  g13 := by kernel_rfl }
open Go.RowKit Go.Lib in
theorem Tryz.strings_EqualFold (s t : ByteArray) (w : World) (hs : s.size < 4294967281) (has : ∀ (j : Nat) b, s.data.toList[j]? = some b → b.toNat < 128) (hat : ∀ (j : Nat) b, t.data.toList[j]? = some b → b.toNat < 128) :
    Calls Tryz.prog 42 #[.string s, .string t] w fun e w' => e = .returned (.bool (Lib.equalFold s.data.toList t.data.toList)) ∧ w' = w := Any.strings_EqualFold Tryz.lays164 s t w hs has hat
def Tryz.lays197_ren : Go.Shelf.Ren := ⟨fun | 197 => 67 | 260 => 78 | n => n, fun | 9 => 9 | 21 => 21 | 3 => 3 | 4 => 4 | 5 => 5 | 105 => 121 | 119 => 154 | 0 => 0 | 46 => 136 | 139 => 157 | 138 => 156 | n => n, fun | 3 => 7 | 4 => 8 | n => n⟩
theorem Tryz.lays197 : Go.Proofs.Lays.n197 Tryz.prog Tryz.lays197_ren := {
  mixed := by kernel_rfl
  f197 := Tryz.func67.trans (congrArg some (by kernel_rfl))
  f260 := Tryz.func78.trans (congrArg some (by kernel_rfl))
  t0 := Tryz.underlying0
  a0 := Tryz.isAgg0
  z0 := Tryz.sizeOf0
  v0 := Tryz.zeroValue0
  t3 := Tryz.underlying3
  a3 := Tryz.isAgg3
  z3 := Tryz.sizeOf3
  v3 := Tryz.zeroValue3
  t4 := Tryz.underlying4
  a4 := Tryz.isAgg4
  z4 := Tryz.sizeOf4
  v4 := Tryz.zeroValue4
  t5 := Tryz.underlying5
  a5 := Tryz.isAgg5
  z5 := Tryz.sizeOf5
  v5 := Tryz.zeroValue5
  t9 := Tryz.underlying9
  a9 := Tryz.isAgg9
  z9 := Tryz.sizeOf9
  v9 := Tryz.zeroValue9
  t21 := Tryz.underlying21
  a21 := Tryz.isAgg21
  z21 := Tryz.sizeOf21
  v21 := Tryz.zeroValue21
  t46 := Tryz.underlying136
  a46 := Tryz.isAgg136
  z46 := Tryz.sizeOf136
  v46 := Tryz.zeroValue136
  t105 := Tryz.underlying121
  a105 := Tryz.isAgg121
  z105 := Tryz.sizeOf121
  v105 := Tryz.zeroValue121
  t119 := Tryz.underlying154
  a119 := Tryz.isAgg154
  z119 := Tryz.sizeOf154
  t138 := Tryz.underlying156
  a138 := Tryz.isAgg156
  z138 := Tryz.sizeOf156
  v138 := Tryz.zeroValue156
  t139 := Tryz.underlying157
  a139 := Tryz.isAgg157
  z139 := Tryz.sizeOf157
  v139 := Tryz.zeroValue157
  g3 := by kernel_rfl
  g4 := by kernel_rfl }
open Go.RowKit Go.Lib in
/-- unicode/utf8.DecodeRuneInString: "DecodeRuneInString is like DecodeRune but its input is a string.": ("DecodeRune unpacks the first UTF-8 encoding in p and returns the rune and its width in bytes."): WHERE s BEGINS WITH AN ASCII BYTE x: (x, 1). (LAID: no walk: one application.) -/
theorem Tryz.utf8_DecodeRuneInString_ascii (s : ByteArray) (x : UInt8) (w : World) (h0 : s.data.toList[0]? = some x) (hx : x.toNat < 128) :
    Calls Tryz.prog 67 #[.string s] w fun e w' => e = .returned (.tuple #[.int .i32 x.toNat, .int .i64 1]) ∧ w' = w := Any.utf8_DecodeRuneInString_ascii Tryz.lays197 s x w h0 hx
def Tryz.lays264_ren : Go.Shelf.Ren := ⟨fun | 264 => 149 | n => n, fun | 53 => 127 | 46 => 136 | n => n, fun | n => n⟩
theorem Tryz.lays264 : Go.Proofs.Lays.n264 Tryz.prog Tryz.lays264_ren := {
  mixed := by kernel_rfl
  f264 := Tryz.func149.trans (congrArg some (by kernel_rfl))
  t46 := Tryz.underlying136
  a46 := Tryz.isAgg136
  z46 := Tryz.sizeOf136
  v46 := Tryz.zeroValue136
  t53 := Tryz.underlying127
  a53 := Tryz.isAgg127
  z53 := Tryz.sizeOf127
  v53 := Tryz.zeroValue127 }
open Go.RowKit Go.Lib in
theorem Tryz.bits_Mul64 (x y : Nat) (hx : x < 18446744073709551616) (hy : y < 18446744073709551616) (w : World) :
    Calls Tryz.prog 149 #[.int .u64 x, .int .u64 y] w fun e w' => e = .returned (.tuple #[.int .u64 ((x * y / 18446744073709551616 : Nat) : Int), .int .u64 ((x * y % 18446744073709551616 : Nat) : Int)]) ∧ w' = w := Any.bits_Mul64 Tryz.lays264 x y hx hy w
def Tryz.lays260_ren : Go.Shelf.Ren := ⟨fun | 260 => 78 | n => n, fun | 9 => 9 | 21 => 21 | 3 => 3 | 4 => 4 | 5 => 5 | 119 => 154 | 0 => 0 | 46 => 136 | 139 => 157 | 138 => 156 | n => n, fun | 3 => 7 | 4 => 8 | n => n⟩
theorem Tryz.lays260 : Go.Proofs.Lays.n260 Tryz.prog Tryz.lays260_ren := {
  mixed := by kernel_rfl
  f260 := Tryz.func78.trans (congrArg some (by kernel_rfl))
  t0 := Tryz.underlying0
  a0 := Tryz.isAgg0
  z0 := Tryz.sizeOf0
  v0 := Tryz.zeroValue0
  t3 := Tryz.underlying3
  a3 := Tryz.isAgg3
  z3 := Tryz.sizeOf3
  v3 := Tryz.zeroValue3
  t4 := Tryz.underlying4
  a4 := Tryz.isAgg4
  z4 := Tryz.sizeOf4
  v4 := Tryz.zeroValue4
  t5 := Tryz.underlying5
  a5 := Tryz.isAgg5
  z5 := Tryz.sizeOf5
  v5 := Tryz.zeroValue5
  t9 := Tryz.underlying9
  a9 := Tryz.isAgg9
  z9 := Tryz.sizeOf9
  v9 := Tryz.zeroValue9
  t21 := Tryz.underlying21
  a21 := Tryz.isAgg21
  z21 := Tryz.sizeOf21
  v21 := Tryz.zeroValue21
  t46 := Tryz.underlying136
  a46 := Tryz.isAgg136
  z46 := Tryz.sizeOf136
  v46 := Tryz.zeroValue136
  t119 := Tryz.underlying154
  a119 := Tryz.isAgg154
  z119 := Tryz.sizeOf154
  t138 := Tryz.underlying156
  a138 := Tryz.isAgg156
  z138 := Tryz.sizeOf156
  v138 := Tryz.zeroValue156
  t139 := Tryz.underlying157
  a139 := Tryz.isAgg157
  z139 := Tryz.sizeOf157
  v139 := Tryz.zeroValue157
  g3 := by kernel_rfl
  g4 := by kernel_rfl }
open Go.RowKit Go.Lib in
theorem Tryz.utf8_decodeRuneInStringSlow (s : ByteArray) (w : World) (hT : Lib.Utf8Tabs 7 8 w) :
    Calls Tryz.prog 78 #[.string s] w fun e w' => e = .returned (.tuple #[.int .i32 (Lib.decodeGo s).1, .int .i64 (Lib.decodeGo s).2]) ∧ Below w.heap.size w w' := Any.utf8_decodeRuneInStringSlow Tryz.lays260 s w hT
open Go.RowKit Go.Lib in
/-- **unicode/utf8.DecodeRuneInString AT EVERY STRING.** (LAID: no walk: one application.) -/
theorem Tryz.utf8_DecodeRuneInString (s : ByteArray) (w : World) (hT : Lib.Utf8Tabs 7 8 w) :
    Calls Tryz.prog 67 #[.string s] w fun e w' => e = .returned (.tuple #[.int .i32 (Lib.decodeGo s).1, .int .i64 (Lib.decodeGo s).2]) ∧ Below w.heap.size w w' := Any.utf8_DecodeRuneInString Tryz.lays197 s w hT
def Tryz.lays274_ren : Go.Shelf.Ren := ⟨fun | 274 => 79 | n => n, fun | 21 => 21 | 162 => 141 | 160 => 139 | 3 => 3 | 4 => 4 | 46 => 136 | 0 => 0 | 208 => 162 | 51 => 158 | 206 => 160 | n => n, fun | n => n⟩
theorem Tryz.lays274 : Go.Proofs.Lays.n274 Tryz.prog Tryz.lays274_ren := {
  mixed := by kernel_rfl
  f274 := Tryz.func79.trans (congrArg some (by kernel_rfl))
  t0 := Tryz.underlying0
  a0 := Tryz.isAgg0
  z0 := Tryz.sizeOf0
  v0 := Tryz.zeroValue0
  t3 := Tryz.underlying3
  a3 := Tryz.isAgg3
  z3 := Tryz.sizeOf3
  v3 := Tryz.zeroValue3
  t4 := Tryz.underlying4
  a4 := Tryz.isAgg4
  z4 := Tryz.sizeOf4
  v4 := Tryz.zeroValue4
  t21 := Tryz.underlying21
  a21 := Tryz.isAgg21
  z21 := Tryz.sizeOf21
  v21 := Tryz.zeroValue21
  t46 := Tryz.underlying136
  a46 := Tryz.isAgg136
  z46 := Tryz.sizeOf136
  v46 := Tryz.zeroValue136
  t51 := Tryz.underlying158
  a51 := Tryz.isAgg158
  z51 := Tryz.sizeOf158
  v51 := Tryz.zeroValue158
  t160 := Tryz.underlying139
  a160 := Tryz.isAgg139
  z160 := Tryz.sizeOf139
  v160 := Tryz.zeroValue139
  t162 := Tryz.underlying141
  a162 := Tryz.isAgg141
  z162 := Tryz.sizeOf141
  v162 := Tryz.zeroValue141
  t208 := Tryz.underlying162
  a208 := Tryz.isAgg162
  z208 := Tryz.sizeOf162
  v208 := Tryz.zeroValue162 }
open Go.RowKit Go.Lib in
theorem Tryz.unicode_lookupCaseRange (T : Array CaseRow) (R oR cap : Nat) (r : Int) (w : World) (hT : CaseTab R oR T w) (hok : CaseOk T) (hn : T.size ≤ 1000000000) :
    Calls Tryz.prog 79 #[.int .i32 r, .slice (some ⟨R, oR, none⟩) T.size cap] w fun e w' =>
      e = .returned (match lookupIdx T r (T.size + 1) 0 T.size with | some i => .pointer (some ⟨R, oR + i * 5, none⟩) | none => .pointer none) ∧ w' = w := Any.unicode_lookupCaseRange Tryz.lays274 T R oR cap r w hT hok hn
def Tryz.lays275_ren : Go.Shelf.Ren := ⟨fun | 275 => 80 | n => n, fun | 3 => 3 | 21 => 21 | 160 => 139 | 0 => 0 | 208 => 162 | 206 => 160 | 4 => 4 | 51 => 158 | n => n, fun | n => n⟩
theorem Tryz.lays275 : Go.Proofs.Lays.n275 Tryz.prog Tryz.lays275_ren := {
  mixed := by kernel_rfl
  f275 := Tryz.func80.trans (congrArg some (by kernel_rfl))
  t0 := Tryz.underlying0
  a0 := Tryz.isAgg0
  z0 := Tryz.sizeOf0
  v0 := Tryz.zeroValue0
  t3 := Tryz.underlying3
  a3 := Tryz.isAgg3
  z3 := Tryz.sizeOf3
  v3 := Tryz.zeroValue3
  t4 := Tryz.underlying4
  a4 := Tryz.isAgg4
  z4 := Tryz.sizeOf4
  v4 := Tryz.zeroValue4
  t21 := Tryz.underlying21
  a21 := Tryz.isAgg21
  z21 := Tryz.sizeOf21
  v21 := Tryz.zeroValue21
  t51 := Tryz.underlying158
  a51 := Tryz.isAgg158
  z51 := Tryz.sizeOf158
  v51 := Tryz.zeroValue158
  t160 := Tryz.underlying139
  a160 := Tryz.isAgg139
  z160 := Tryz.sizeOf139
  v160 := Tryz.zeroValue139
  t206 := Tryz.underlying160
  a206 := Tryz.isAgg160
  z206 := Tryz.sizeOf160
  v206 := Tryz.zeroValue160
  t208 := Tryz.underlying162
  a208 := Tryz.isAgg162
  z208 := Tryz.sizeOf162
  v208 := Tryz.zeroValue162 }
open Go.RowKit Go.Lib in
theorem Tryz.unicode_convertCase (c : Nat) (hc : c < 3) (r : Int) (A o : Nat) (x : CaseRow) (w : World) (hlo : (x.1 : Int) ≤ r) (hhi : r ≤ (x.2.1 : Int)) (hH : x.2.1 < 2147483647) (c0 : w.cell? ⟨A, o, none⟩ = some (.int .u32 x.1)) (cD : w.cell? ⟨A, o + 2 + c, none⟩ = some (.int .i32 (x.delta c))) :
    Calls Tryz.prog 80 #[.int .i64 c, .int .i32 r, .pointer (some ⟨A, o, none⟩)] w fun e w' => e = .returned (.int .i32 (wrap32 (convertR c r x))) ∧ ∃ q, w' = w.drewN q := Any.unicode_convertCase Tryz.lays275 c hc r A o x w hlo hhi hH c0 cD
def Tryz.laysnb116_ren : Go.Shelf.Ren := ⟨fun | 116 => 22 | 115 => 39 | n => n, fun | 37 => 66 | 4 => 4 | 3 => 3 | 9 => 9 | 5 => 5 | n => n, fun | n => n⟩
theorem Tryz.laysnb116 : Go.Proofs.Lays.nb116 Tryz.prog Tryz.laysnb116_ren := {
  mixed := by kernel_rfl
  f115 := Tryz.func39.trans (congrArg some (by kernel_rfl))
  f116 := Tryz.func22.trans (congrArg some (by kernel_rfl))
  t3 := Tryz.underlying3
  a3 := Tryz.isAgg3
  z3 := Tryz.sizeOf3
  v3 := Tryz.zeroValue3
  t4 := Tryz.underlying4
  a4 := Tryz.isAgg4
  z4 := Tryz.sizeOf4
  v4 := Tryz.zeroValue4
  t9 := Tryz.underlying9
  a9 := Tryz.isAgg9
  z9 := Tryz.sizeOf9
  v9 := Tryz.zeroValue9
  t37 := Tryz.underlying66
  a37 := Tryz.isAgg66
  z37 := Tryz.sizeOf66
  v37 := Tryz.zeroValue66
  t5 := Tryz.underlying5
  a5 := Tryz.isAgg5
  z5 := Tryz.sizeOf5
  v5 := Tryz.zeroValue5 }
theorem Tryz.bytes_HasPrefix_e2 (p1 p2 : Option Addr) (n c d : Nat) (w : World) :
    Calls Tryz.prog 22 #[.slice p1 n c, .slice p2 0 d] w fun e w' => e = .returned (.bool true) ∧ w' = w := Any.bytes_HasPrefix_e2 Tryz.laysnb116 p1 p2 n c d w
theorem Tryz.bytes_HasPrefix_e1 (p1 p2 : Option Addr) (c m d : Nat) (hm : 0 < m) (w : World) :
    Calls Tryz.prog 22 #[.slice p1 0 c, .slice p2 m d] w fun e w' => e = .returned (.bool false) ∧ w' = w := Any.bytes_HasPrefix_e1 Tryz.laysnb116 p1 p2 c m d hm w
/-- bytes.HasPrefix: WHOLE: each argument nil, or of no byte at whatever address, or at an address with its cells. (LAID: no walk: one application.) -/
theorem Tryz.bytes_HasPrefix_all (p1 p2 : Option Addr) (n c m d : Nat) (xs ys : List Int) (w : World) (hx : xs.length = n) (hy : ys.length = m) (hnc : n ≤ c) (h1 : Lib.BytesIn w p1 n xs) (h2 : Lib.BytesIn w p2 m ys) :
    Calls Tryz.prog 22 #[.slice p1 n c, .slice p2 m d] w fun e w' => e = .returned (.bool (Lib.hasPrefix (Lib.bytesOf xs) (Lib.bytesOf ys))) ∧ w' = w := Any.bytes_HasPrefix_all Tryz.laysnb116 p1 p2 n c m d xs ys w hx hy hnc h1 h2
def Tryz.laysnb115_ren : Go.Shelf.Ren := ⟨fun | 115 => 39 | n => n, fun | 37 => 66 | 4 => 4 | 9 => 9 | 5 => 5 | n => n, fun | n => n⟩
theorem Tryz.laysnb115 : Go.Proofs.Lays.nb115 Tryz.prog Tryz.laysnb115_ren := {
  mixed := by kernel_rfl
  f115 := Tryz.func39.trans (congrArg some (by kernel_rfl))
  t4 := Tryz.underlying4
  a4 := Tryz.isAgg4
  z4 := Tryz.sizeOf4
  v4 := Tryz.zeroValue4
  t9 := Tryz.underlying9
  a9 := Tryz.isAgg9
  z9 := Tryz.sizeOf9
  v9 := Tryz.zeroValue9
  t37 := Tryz.underlying66
  a37 := Tryz.isAgg66
  z37 := Tryz.sizeOf66
  v37 := Tryz.zeroValue66
  t5 := Tryz.underlying5
  a5 := Tryz.isAgg5
  z5 := Tryz.sizeOf5
  v5 := Tryz.zeroValue5 }
/-- bytes.Equal: WHOLE. (LAID: no walk: one application.) -/
theorem Tryz.bytes_Equal_all (p1 p2 : Option Addr) (n c m d : Nat) (xs ys : List Int) (w : World) (hx : xs.length = n) (hy : ys.length = m) (h1 : Lib.BytesIn w p1 n xs) (h2 : Lib.BytesIn w p2 m ys) :
    Calls Tryz.prog 39 #[.slice p1 n c, .slice p2 m d] w fun e w' => e = .returned (.bool (Lib.bytesOf xs == Lib.bytesOf ys)) ∧ w' = w := Any.bytes_Equal_all Tryz.laysnb115 p1 p2 n c m d xs ys w hx hy h1 h2
def Tryz.lays115_ren : Go.Shelf.Ren := ⟨fun | 115 => 39 | n => n, fun | 37 => 66 | 4 => 4 | 9 => 9 | 5 => 5 | n => n, fun | n => n⟩
theorem Tryz.lays115 : Go.Proofs.Lays.n115 Tryz.prog Tryz.lays115_ren := {
  mixed := by kernel_rfl
  f115 := Tryz.func39.trans (congrArg some (by kernel_rfl))
  t4 := Tryz.underlying4
  a4 := Tryz.isAgg4
  z4 := Tryz.sizeOf4
  v4 := Tryz.zeroValue4
  t9 := Tryz.underlying9
  a9 := Tryz.isAgg9
  z9 := Tryz.sizeOf9
  v9 := Tryz.zeroValue9
  t37 := Tryz.underlying66
  a37 := Tryz.isAgg66
  z37 := Tryz.sizeOf66
  v37 := Tryz.zeroValue66 }
/-- bytes.Equal: "Equal reports whether a and b are the same length and contain the same bytes. A nil argument is equivalent to an empty slice.": IT RETURNS 'the bytes of the one == the bytes of the other'; the world is as it was. THE TWO ARGUMENTS COME AS WHATEVER VALUES, each with the one fact that the walk wants of it: what 'string(..)' of it gives: for a slice whose cells you know: 'run_convert_bytes_arg' (Derived/Laws/BytesArg.lean) hands that fact; for a nil one: 'run_convert_bytes_nil' (with xs := []). (LAID: no walk: one application.) -/
theorem Tryz.bytes_Equal (v1 v2 : Value) (xs ys : List Int) (w : World) (h1 : (convert 66 9 v1).run Tryz.prog w = .ok (.string (strOfNums xs)) w) (h2 : (convert 66 9 v2).run Tryz.prog w = .ok (.string (strOfNums ys)) w) :
    Calls Tryz.prog 39 #[v1, v2] w fun e w' => e = .returned (.bool (Lib.bytesOf xs == Lib.bytesOf ys)) ∧ w' = w := Any.bytes_Equal Tryz.lays115 v1 v2 xs ys w h1 h2
/-- bytes.HasPrefix: "HasPrefix reports whether the byte slice s begins with prefix.": IT RETURNS 'Lib.hasPrefix (the bytes of s) (the bytes of prefix)'; the world is as it was. ITS CALLEE bytes.Equal IS MET BY ITS OWN CONTRACT OFF THE SHELF (lay that first). 'xs', 'ys': the numbers that the two slices' cells hold. (LAID: no walk: one application.) -/
theorem Tryz.bytes_HasPrefix (b1 o1 n c b2 o2 m d : Nat) (xs ys : List Int) (w : World) (hx : xs.length = n) (hy : ys.length = m) (hnc : n ≤ c) (hc1 : ∀ i, i < n → w.cell? ⟨b1, o1 + i, none⟩ = some (.int .u8 (xs.getD i 0))) (hc2 : ∀ i, i < m → w.cell? ⟨b2, o2 + i, none⟩ = some (.int .u8 (ys.getD i 0))) :
    Calls Tryz.prog 22 #[.slice (some ⟨b1, o1, none⟩) n c, .slice (some ⟨b2, o2, none⟩) m d] w fun e w' => e = .returned (.bool (Lib.hasPrefix (Lib.bytesOf xs) (Lib.bytesOf ys))) ∧ w' = w := Any.bytes_HasPrefix Tryz.laysnb116 b1 o1 n c b2 o2 m d xs ys w hx hy hnc hc1 hc2
end Go.Proofs
