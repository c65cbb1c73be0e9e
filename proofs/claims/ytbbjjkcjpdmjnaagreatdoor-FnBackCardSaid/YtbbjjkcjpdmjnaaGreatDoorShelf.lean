/-
  DERIVED: THE SHELF's CONTRACTS AT THIS DUMP, IN PLAIN WORDS (tools/lay-plain.mjs out of 'TryzShelf.lean', which tools/lay-shelf.mjs wrote): THE SAME DECLARATIONS UNDER THE SAME NAMES: 'import', 'namespace', 'open', 'def', 'theorem' AND NOTHING ELSE: no command of the shelf's: FOR A HAND-IN. Each laying: the table of numbers ('.._ren') and one theorem, a field a fact of the dump's own or the kernel's comparison; each contract: ONE APPLICATION.
-/
import Derived.Shelf.Strconv.Itoa0
import Derived.Shelf.Strconv.Itoa1
import Derived.Shelf.LaysM
import Derived.Shelf.Strconv.Itoa2
import Derived.Shelf.Strconv.Itoa3
import Derived.Shelf.Strconv.ParseIntEmpty
import Derived.Shelf.Strconv.Clone
import Derived.Shelf.Strconv.SyntaxError
import Derived.Shelf.LaysC
import Derived.Shelf.Strconv.ToError
import Derived.Shelf.Strconv.Lower
import Derived.Shelf.Strconv.ParseUint10
import Derived.Shelf.Strconv.ParseUint10Empty
import Derived.Shelf.Strconv.ParseUint10Any
import Derived.Shelf.Strconv.ParseInt10
import Derived.Shelf.Strconv.RangeError
import Derived.Shelf.Strconv.ToErrorRange
import Derived.Shelf.Strconv.ParseUintEmpty
import Derived.Shelf.Strconv.ParseUint10b64
import Derived.Shelf.Strconv.ParseUint10b32
import Derived.Shelf.Strconv.ParseUint10b16
import Derived.Shelf.Strconv.ParseUint10b8
import Derived.Shelf.Strconv.ParseUint10At
import Derived.Shelf.Strconv.ParseInt10At64
import Derived.Shelf.Strconv.ParseInt10At32
import Derived.Shelf.Strconv.ParseInt10At16
import Derived.Shelf.Strconv.ParseInt10At8
import Derived.Shelf.Strconv.ParseInt10All
import Derived.Shelf.Strconv.ParseIntPublic10
import Derived.Shelf.Strconv.AppendUint10
import Derived.Shelf.Strconv.AppendInt10
import Derived.Shelf.Strconv.AppendIntPublic10
import Derived.Shelf.Bits.Mul64
import Derived.Ground.PaProg
import Derived.Shelf.Hex.Lens
import Derived.Shelf.Hex.Encode
import Derived.Shelf.Hex.Decode
import Derived.Shelf.Hex.More
import Derived.Test.YtbbjjkcjpdmjnaaGreatDoorProg
namespace Go.Proofs
open Go.Shelf
def Tryz.lays129_ren : Go.Shelf.Ren := ⟨fun | 129 => 64 | n => n, fun | 53 => 81 | 3 => 3 | 4 => 4 | 46 => 85 | 5 => 5 | 9 => 9 | n => n, fun | n => n⟩
theorem Tryz.lays129 : Go.Proofs.Lays.n129 Tryz.prog Tryz.lays129_ren := {
  mixed := by kernel_rfl
  f129 := Tryz.func64.trans (congrArg some (by kernel_rfl))
  t3 := Tryz.underlying3
  a3 := Tryz.isAgg3
  z3 := Tryz.sizeOf3
  v3 := Tryz.zeroValue3
  t4 := Tryz.underlying4
  a4 := Tryz.isAgg4
  z4 := Tryz.sizeOf4
  v4 := Tryz.zeroValue4
  t5 := Tryz.underlying5
  a5 := Tryz.isAgg5
  z5 := Tryz.sizeOf5
  v5 := Tryz.zeroValue5
  t9 := Tryz.underlying9
  a9 := Tryz.isAgg9
  z9 := Tryz.sizeOf9
  v9 := Tryz.zeroValue9
  t46 := Tryz.underlying85
  a46 := Tryz.isAgg85
  z46 := Tryz.sizeOf85
  v46 := Tryz.zeroValue85
  t53 := Tryz.underlying81
  a53 := Tryz.isAgg81
  z53 := Tryz.sizeOf81
  v53 := Tryz.zeroValue81 }
/-- bits.Len64: "Len64 returns the minimum number of bits required to represent x; the result is 0 for x == 0.": IT RETURNS 'Lib.bitLen x'; the world is as it was. ('h0', 'h1': x is a uint64.) (LAID: no walk: one application.) -/
theorem Tryz.bits_Len64 (x : Int) (w : World) (h0 : 0 ≤ x) (h1 : x ≤ 18446744073709551615) :
    Calls Tryz.prog 64 #[.int .u64 x] w fun e w' => e = .returned (.int .i64 (Lib.bitLen x.toNat)) ∧ w' = w := Any.bits_Len64 Tryz.lays129 x w h0 h1
def Tryz.lays317_ren : Go.Shelf.Ren := ⟨fun | 317 => 67 | n => n, fun | 3 => 3 | 46 => 85 | n => n, fun | n => n⟩
theorem Tryz.lays317 : Go.Proofs.Lays.n317 Tryz.prog Tryz.lays317_ren := {
  mixed := by kernel_rfl
  f317 := Tryz.func67.trans (congrArg some (by kernel_rfl))
  t3 := Tryz.underlying3
  a3 := Tryz.isAgg3
  z3 := Tryz.sizeOf3
  v3 := Tryz.zeroValue3
  t46 := Tryz.underlying85
  a46 := Tryz.isAgg85
  z46 := Tryz.sizeOf85
  v46 := Tryz.zeroValue85 }
open Go.Lib in
/-- internal/strconv.log10Pow2: "log10Pow2(x) returns ⌊log₁₀ 2**x⌋ = ⌊x * log₁₀ 2⌋.": '(x * 78913) >> 18', at an x up to 64 (a length in bits). The world is as it was. (LAID: no walk: one application.) -/
theorem Tryz.internal_strconv_log10Pow2 (x : Nat) (h : x ≤ 64) (w : World) :
    Calls Tryz.prog 67 #[.int .i64 x] w fun e w' => e = .returned (.int .i64 (Lib.l10 x)) ∧ w' = w := Any.internal_strconv_log10Pow2 Tryz.lays317 x h w
def Tryz.lays318_ren : Go.Shelf.Ren := ⟨fun | 318 => 84 | n => n, fun | 3 => 3 | 4 => 4 | n => n, fun | n => n⟩
theorem Tryz.lays318 : Go.Proofs.Lays.n318 Tryz.prog Tryz.lays318_ren := {
  mixed := by kernel_rfl
  f318 := Tryz.func84.trans (congrArg some (by kernel_rfl))
  t3 := Tryz.underlying3
  a3 := Tryz.isAgg3
  z3 := Tryz.sizeOf3
  v3 := Tryz.zeroValue3
  t4 := Tryz.underlying4
  a4 := Tryz.isAgg4
  z4 := Tryz.sizeOf4
  v4 := Tryz.zeroValue4 }
open Go.Lib in
/-- internal/strconv.bool2: "bool2 converts b to an integer: 1 for true, 0 for false." The world is as it was. (LAID: no walk: one application.) -/
theorem Tryz.internal_strconv_bool2_int (b : Bool) (w : World) :
    Calls Tryz.prog 84 #[.bool b] w fun e w' => e = .returned (.int .i64 (if b then 1 else 0)) ∧ w' = w := Any.internal_strconv_bool2_int Tryz.lays318 b w
def Tryz.lays283_ren : Go.Shelf.Ren := ⟨fun | 283 => 55 | n => n, fun | 3 => 3 | 9 => 9 | 4 => 4 | n => n, fun | n => n⟩
theorem Tryz.lays283 : Go.Proofs.Lays.n283 Tryz.prog Tryz.lays283_ren := {
  mixed := by kernel_rfl
  f283 := Tryz.func55.trans (congrArg some (by kernel_rfl))
  t3 := Tryz.underlying3
  a3 := Tryz.isAgg3
  z3 := Tryz.sizeOf3
  v3 := Tryz.zeroValue3
  t4 := Tryz.underlying4
  a4 := Tryz.isAgg4
  z4 := Tryz.sizeOf4
  v4 := Tryz.zeroValue4
  t9 := Tryz.underlying9
  a9 := Tryz.isAgg9
  z9 := Tryz.sizeOf9
  v9 := Tryz.zeroValue9 }
open Go.Lib in
/-- internal/strconv.small: "small returns the string for an i with 0 <= i < nSmalls.": i's decimal numeral. The world is as it was. (LAID: no walk: one application.) -/
theorem Tryz.internal_strconv_small (i : Nat) (h : i < 100) (w : World) :
    Calls Tryz.prog 55 #[.int .i64 i] w fun e w' => e = .returned (.string ⟨(Lib.decDigits i).toArray⟩) ∧ w' = w := Any.internal_strconv_small Tryz.lays283 i h w
def Tryz.laysM284_ren : Go.Shelf.Ren := ⟨fun | 284 => 56 | 129 => 64 | 317 => 67 | 318 => 84 | n => n, fun | 53 => 81 | 3 => 3 | 212 => 129 | 0 => 0 | 4 => 4 | 46 => 85 | 5 => 5 | 9 => 9 | n => n, fun | 17 => 1 | n => n⟩
theorem Tryz.laysM284 : Go.Proofs.LaysM.n284 Tryz.prog Tryz.laysM284_ren := {
  mixed := by kernel_rfl
  f129 := Tryz.func64.trans (congrArg some (by kernel_rfl))
  f284 := Tryz.func56.trans (congrArg some (by kernel_rfl))
  f317 := Tryz.func67.trans (congrArg some (by kernel_rfl))
  f318 := Tryz.func84.trans (congrArg some (by kernel_rfl))
  t0 := Tryz.underlying0
  a0 := Tryz.isAgg0
  z0 := Tryz.sizeOf0
  v0 := Tryz.zeroValue0
  t3 := Tryz.underlying3
  a3 := Tryz.isAgg3
  z3 := Tryz.sizeOf3
  v3 := Tryz.zeroValue3
  t4 := Tryz.underlying4
  a4 := Tryz.isAgg4
  z4 := Tryz.sizeOf4
  v4 := Tryz.zeroValue4
  t5 := Tryz.underlying5
  a5 := Tryz.isAgg5
  z5 := Tryz.sizeOf5
  v5 := Tryz.zeroValue5
  t9 := Tryz.underlying9
  a9 := Tryz.isAgg9
  z9 := Tryz.sizeOf9
  v9 := Tryz.zeroValue9
  t46 := Tryz.underlying85
  a46 := Tryz.isAgg85
  z46 := Tryz.sizeOf85
  v46 := Tryz.zeroValue85
  t53 := Tryz.underlying81
  a53 := Tryz.isAgg81
  z53 := Tryz.sizeOf81
  v53 := Tryz.zeroValue81
  t212 := Tryz.underlying129
  a212 := Tryz.isAgg129
  z212 := Tryz.sizeOf129
  v212 := Tryz.zeroValue129
  g17 := by kernel_rfl
  i0 := by kernel_rfl
  i3 := by kernel_rfl
  i4 := by kernel_rfl
  i5 := by kernel_rfl
  i9 := by kernel_rfl
  i46 := by kernel_rfl
  i53 := by kernel_rfl
  i212 := by kernel_rfl
  m17 := by kernel_rfl }
open Go.Lib in
/-- internal/strconv.numDigits, at a d that is not 0: THE NUMBER OF d's DECIMAL DIGITS. The world is as it was. (LAID: no walk: one application.) -/
theorem Tryz.internal_strconv_numDigits (u : Nat) (h1 : 1 ≤ u) (h2 : u < 18446744073709551616) (w : World) (htab : Lib.TabIs Tryz.prog w "internal/strconv.uint64pow10" .u64 Lib.pow10Tab) :
    Calls Tryz.prog 56 #[.int .u64 u] w fun e w' => e = .returned (.int .i64 (Lib.nDigits u)) ∧ w' = w := Any.internal_strconv_numDigits Tryz.laysM284 u h1 h2 w htab
def Tryz.lays285_ren : Go.Shelf.Ren := ⟨fun | 285 => 57 | n => n, fun | 37 => 50 | 53 => 81 | 3 => 3 | 4 => 4 | 51 => 98 | 9 => 9 | 5 => 5 | 0 => 0 | n => n, fun | n => n⟩
theorem Tryz.lays285 : Go.Proofs.Lays.n285 Tryz.prog Tryz.lays285_ren := {
  mixed := by kernel_rfl
  f285 := Tryz.func57.trans (congrArg some (by kernel_rfl))
  t0 := Tryz.underlying0
  a0 := Tryz.isAgg0
  z0 := Tryz.sizeOf0
  v0 := Tryz.zeroValue0
  t3 := Tryz.underlying3
  a3 := Tryz.isAgg3
  z3 := Tryz.sizeOf3
  v3 := Tryz.zeroValue3
  t4 := Tryz.underlying4
  a4 := Tryz.isAgg4
  z4 := Tryz.sizeOf4
  v4 := Tryz.zeroValue4
  t5 := Tryz.underlying5
  a5 := Tryz.isAgg5
  z5 := Tryz.sizeOf5
  v5 := Tryz.zeroValue5
  t9 := Tryz.underlying9
  a9 := Tryz.isAgg9
  z9 := Tryz.sizeOf9
  v9 := Tryz.zeroValue9
  t37 := Tryz.underlying50
  a37 := Tryz.isAgg50
  z37 := Tryz.sizeOf50
  v37 := Tryz.zeroValue50
  t51 := Tryz.underlying98
  a51 := Tryz.isAgg98
  z51 := Tryz.sizeOf98
  v51 := Tryz.zeroValue98
  t53 := Tryz.underlying81
  a53 := Tryz.isAgg81
  z53 := Tryz.sizeOf81
  v53 := Tryz.zeroValue81 }
open Go.RowKit Go.Sort Go.Lib in
/-- internal/strconv.formatBase10: "formatBase10 formats the decimal representation of u into a. The caller is responsible for ensuring that a is big enough to hold u. If a is too big, leading zeros will be filled in as needed.": THE ROW HOLDS u's DIGITS ('FmtInv .. 0 ..': every place t holds 'dg u (len - 1 - t)'); all else is as it was but for the count of draws. (LAID: no walk: one application.) -/
theorem Tryz.internal_strconv_formatBase10 (blk off cap : Nat) (u : Nat) (d : Array UInt8) (w : World) (hH : Holds (fun (b : UInt8) => Value.int .u8 (b.toNat : Int)) w blk off d) (hu : u < 10 ^ d.size) (hu64 : u < 18446744073709551616) (hsz : d.size < 4611686018427387904) :
    Calls Tryz.prog 57 #[.slice (some ⟨blk, off, none⟩) d.size cap, .int .u64 u] w fun e w' =>
      e = .returned (.tuple #[]) ∧ ∃ (n v' : Nat) (dk : Array UInt8), w' = (putRow (fun (b : UInt8) => Value.int .u8 (b.toNat : Int)) w blk off dk).drewN n ∧ FmtInv d.size u 0 v' dk := Any.internal_strconv_formatBase10 Tryz.lays285 blk off cap u d w hH hu hu64 hsz
def Tryz.laysM246_ren : Go.Shelf.Ren := ⟨fun | 246 => 128 | 283 => 55 | 284 => 56 | 285 => 57 | 286 => 58 | 129 => 64 | 317 => 67 | 318 => 84 | 319 => 85 | 320 => 86 | 337 => 109 | 338 => 110 | n => n, fun | 2 => 2 | 3 => 3 | 9 => 9 | 4 => 4 | 171 => 93 | 0 => 0 | 53 => 81 | 37 => 50 | 5 => 5 | 173 => 96 | 212 => 129 | 51 => 98 | 20 => 20 | 213 => 130 | 46 => 85 | 232 => 104 | 233 => 187 | n => n, fun | 17 => 1 | 18 => 9 | 19 => 10 | n => n⟩
theorem Tryz.laysM246 : Go.Proofs.LaysM.n246 Tryz.prog Tryz.laysM246_ren := {
  mixed := by kernel_rfl
  f129 := Tryz.func64.trans (congrArg some (by kernel_rfl))
  f246 := Tryz.func128.trans (congrArg some (by kernel_rfl))
  f283 := Tryz.func55.trans (congrArg some (by kernel_rfl))
  f284 := Tryz.func56.trans (congrArg some (by kernel_rfl))
  f285 := Tryz.func57.trans (congrArg some (by kernel_rfl))
  f286 := Tryz.func58.trans (congrArg some (by kernel_rfl))
  f317 := Tryz.func67.trans (congrArg some (by kernel_rfl))
  f318 := Tryz.func84.trans (congrArg some (by kernel_rfl))
  f319 := Tryz.func85.trans (congrArg some (by kernel_rfl))
  f320 := Tryz.func86.trans (congrArg some (by kernel_rfl))
  f337 := Tryz.func109.trans (congrArg some (by kernel_rfl))
  f338 := Tryz.func110.trans (congrArg some (by kernel_rfl))
  t0 := Tryz.underlying0
  a0 := Tryz.isAgg0
  z0 := Tryz.sizeOf0
  v0 := Tryz.zeroValue0
  t2 := Tryz.underlying2
  a2 := Tryz.isAgg2
  z2 := Tryz.sizeOf2
  v2 := Tryz.zeroValue2
  t3 := Tryz.underlying3
  a3 := Tryz.isAgg3
  z3 := Tryz.sizeOf3
  v3 := Tryz.zeroValue3
  t4 := Tryz.underlying4
  a4 := Tryz.isAgg4
  z4 := Tryz.sizeOf4
  v4 := Tryz.zeroValue4
  t5 := Tryz.underlying5
  a5 := Tryz.isAgg5
  z5 := Tryz.sizeOf5
  v5 := Tryz.zeroValue5
  t9 := Tryz.underlying9
  a9 := Tryz.isAgg9
  z9 := Tryz.sizeOf9
  v9 := Tryz.zeroValue9
  t20 := Tryz.underlying20
  a20 := Tryz.isAgg20
  z20 := Tryz.sizeOf20
  v20 := Tryz.zeroValue20
  t37 := Tryz.underlying50
  a37 := Tryz.isAgg50
  z37 := Tryz.sizeOf50
  v37 := Tryz.zeroValue50
  t46 := Tryz.underlying85
  a46 := Tryz.isAgg85
  z46 := Tryz.sizeOf85
  v46 := Tryz.zeroValue85
  t51 := Tryz.underlying98
  a51 := Tryz.isAgg98
  z51 := Tryz.sizeOf98
  v51 := Tryz.zeroValue98
  t53 := Tryz.underlying81
  a53 := Tryz.isAgg81
  z53 := Tryz.sizeOf81
  v53 := Tryz.zeroValue81
  t171 := Tryz.underlying93
  a171 := Tryz.isAgg93
  z171 := Tryz.sizeOf93
  v171 := Tryz.zeroValue93
  t173 := Tryz.underlying96
  a173 := Tryz.isAgg96
  z173 := Tryz.sizeOf96
  v173 := Tryz.zeroValue96
  t212 := Tryz.underlying129
  a212 := Tryz.isAgg129
  z212 := Tryz.sizeOf129
  v212 := Tryz.zeroValue129
  t213 := Tryz.underlying130
  a213 := Tryz.isAgg130
  z213 := Tryz.sizeOf130
  t232 := Tryz.underlying104
  a232 := Tryz.isAgg104
  z232 := Tryz.sizeOf104
  v232 := Tryz.zeroValue104
  t233 := Tryz.underlying187
  a233 := Tryz.isAgg187
  z233 := Tryz.sizeOf187
  v233 := Tryz.zeroValue187
  g17 := by kernel_rfl
  g18 := by kernel_rfl
  g19 := by kernel_rfl
  i0 := by kernel_rfl
  i2 := by kernel_rfl
  i3 := by kernel_rfl
  i4 := by kernel_rfl
  i5 := by kernel_rfl
  i9 := by kernel_rfl
  i20 := by kernel_rfl
  i37 := by kernel_rfl
  i46 := by kernel_rfl
  i51 := by kernel_rfl
  i53 := by kernel_rfl
  i171 := by kernel_rfl
  i173 := by kernel_rfl
  i212 := by kernel_rfl
  i232 := by kernel_rfl
  i233 := by kernel_rfl
  m17 := by kernel_rfl
  m18 := by kernel_rfl
  m19 := by kernel_rfl }
open Go.RowKit Go.Sort Go.Lib in
/-- internal/strconv.FormatInt: "FormatInt returns the string representation of i in the given base": AT BASE 10: i's decimal numeral, for every int64. The world behind the call: the world before it, new blocks behind the heap, draws. (LAID: no walk: one application.) -/
theorem Tryz.internal_strconv_FormatInt_10 (n : Int) (h0 : -9223372036854775808 ≤ n) (h1 : n ≤ 9223372036854775807) (w : World) (htab : Lib.TabIs Tryz.prog w "internal/strconv.uint64pow10" .u64 Lib.pow10Tab) :
    Calls Tryz.prog 128 #[.int .i64 n, .int .i64 10] w fun e w' => e = .returned (.string ⟨(Lib.itoa n).toArray⟩) ∧ ∃ k os, w' = grow (w.drewN k) os := Any.internal_strconv_FormatInt_10 Tryz.laysM246 n h0 h1 w htab
def Tryz.lays246_ren : Go.Shelf.Ren := ⟨fun | 246 => 128 | 283 => 55 | 284 => 56 | 285 => 57 | 286 => 58 | 129 => 64 | 317 => 67 | 318 => 84 | 319 => 85 | 320 => 86 | 337 => 109 | 338 => 110 | n => n, fun | 2 => 2 | 3 => 3 | 9 => 9 | 4 => 4 | 171 => 93 | 0 => 0 | 53 => 81 | 37 => 50 | 5 => 5 | 173 => 96 | 212 => 129 | 51 => 98 | 20 => 20 | 213 => 130 | 46 => 85 | 232 => 104 | 233 => 187 | n => n, fun | 17 => 1 | 18 => 9 | 19 => 10 | n => n⟩
theorem Tryz.lays246 : Go.Proofs.Lays.n246 Tryz.prog Tryz.lays246_ren := {
  mixed := by kernel_rfl
  f129 := Tryz.func64.trans (congrArg some (by kernel_rfl))
  f246 := Tryz.func128.trans (congrArg some (by kernel_rfl))
  f283 := Tryz.func55.trans (congrArg some (by kernel_rfl))
  f284 := Tryz.func56.trans (congrArg some (by kernel_rfl))
  f285 := Tryz.func57.trans (congrArg some (by kernel_rfl))
  f286 := Tryz.func58.trans (congrArg some (by kernel_rfl))
  f317 := Tryz.func67.trans (congrArg some (by kernel_rfl))
  f318 := Tryz.func84.trans (congrArg some (by kernel_rfl))
  f319 := Tryz.func85.trans (congrArg some (by kernel_rfl))
  f320 := Tryz.func86.trans (congrArg some (by kernel_rfl))
  f337 := Tryz.func109.trans (congrArg some (by kernel_rfl))
  f338 := Tryz.func110.trans (congrArg some (by kernel_rfl))
  t0 := Tryz.underlying0
  a0 := Tryz.isAgg0
  z0 := Tryz.sizeOf0
  v0 := Tryz.zeroValue0
  t2 := Tryz.underlying2
  a2 := Tryz.isAgg2
  z2 := Tryz.sizeOf2
  v2 := Tryz.zeroValue2
  t3 := Tryz.underlying3
  a3 := Tryz.isAgg3
  z3 := Tryz.sizeOf3
  v3 := Tryz.zeroValue3
  t4 := Tryz.underlying4
  a4 := Tryz.isAgg4
  z4 := Tryz.sizeOf4
  v4 := Tryz.zeroValue4
  t5 := Tryz.underlying5
  a5 := Tryz.isAgg5
  z5 := Tryz.sizeOf5
  v5 := Tryz.zeroValue5
  t9 := Tryz.underlying9
  a9 := Tryz.isAgg9
  z9 := Tryz.sizeOf9
  v9 := Tryz.zeroValue9
  t20 := Tryz.underlying20
  a20 := Tryz.isAgg20
  z20 := Tryz.sizeOf20
  v20 := Tryz.zeroValue20
  t37 := Tryz.underlying50
  a37 := Tryz.isAgg50
  z37 := Tryz.sizeOf50
  v37 := Tryz.zeroValue50
  t46 := Tryz.underlying85
  a46 := Tryz.isAgg85
  z46 := Tryz.sizeOf85
  v46 := Tryz.zeroValue85
  t51 := Tryz.underlying98
  a51 := Tryz.isAgg98
  z51 := Tryz.sizeOf98
  v51 := Tryz.zeroValue98
  t53 := Tryz.underlying81
  a53 := Tryz.isAgg81
  z53 := Tryz.sizeOf81
  v53 := Tryz.zeroValue81
  t171 := Tryz.underlying93
  a171 := Tryz.isAgg93
  z171 := Tryz.sizeOf93
  v171 := Tryz.zeroValue93
  t173 := Tryz.underlying96
  a173 := Tryz.isAgg96
  z173 := Tryz.sizeOf96
  v173 := Tryz.zeroValue96
  t212 := Tryz.underlying129
  a212 := Tryz.isAgg129
  z212 := Tryz.sizeOf129
  v212 := Tryz.zeroValue129
  t213 := Tryz.underlying130
  a213 := Tryz.isAgg130
  z213 := Tryz.sizeOf130
  t232 := Tryz.underlying104
  a232 := Tryz.isAgg104
  z232 := Tryz.sizeOf104
  v232 := Tryz.zeroValue104
  t233 := Tryz.underlying187
  a233 := Tryz.isAgg187
  z233 := Tryz.sizeOf187
  v233 := Tryz.zeroValue187
  g17 := by kernel_rfl
  g18 := by kernel_rfl
  g19 := by kernel_rfl }
open Go.RowKit Go.Sort Go.Lib in
/-- THE ROAD WITHOUT THE TABLE: 0 <= i < 100: two constants are read, nothing is laid: no premise on the world, and the world is as it was. (LAID: no walk: one application.) -/
theorem Tryz.internal_strconv_FormatInt_10_small (i : Nat) (hi : i < 100) (w : World) :
    Calls Tryz.prog 128 #[.int .i64 i, .int .i64 10] w fun e w' => e = .returned (.string ⟨(Lib.decDigits i).toArray⟩) ∧ w' = w := Any.internal_strconv_FormatInt_10_small Tryz.lays246 i hi w
def Tryz.laysM243_ren : Go.Shelf.Ren := ⟨fun | 243 => 115 | 246 => 128 | 283 => 55 | 284 => 56 | 285 => 57 | 286 => 58 | 129 => 64 | 317 => 67 | 318 => 84 | 319 => 85 | 320 => 86 | 337 => 109 | 338 => 110 | n => n, fun | 3 => 3 | 9 => 9 | 2 => 2 | 4 => 4 | 171 => 93 | 0 => 0 | 53 => 81 | 37 => 50 | 5 => 5 | 173 => 96 | 212 => 129 | 51 => 98 | 20 => 20 | 213 => 130 | 46 => 85 | 232 => 104 | 233 => 187 | n => n, fun | 17 => 1 | 18 => 9 | 19 => 10 | n => n⟩
theorem Tryz.laysM243 : Go.Proofs.LaysM.n243 Tryz.prog Tryz.laysM243_ren := {
  mixed := by kernel_rfl
  f129 := Tryz.func64.trans (congrArg some (by kernel_rfl))
  f243 := Tryz.func115.trans (congrArg some (by kernel_rfl))
  f246 := Tryz.func128.trans (congrArg some (by kernel_rfl))
  f283 := Tryz.func55.trans (congrArg some (by kernel_rfl))
  f284 := Tryz.func56.trans (congrArg some (by kernel_rfl))
  f285 := Tryz.func57.trans (congrArg some (by kernel_rfl))
  f286 := Tryz.func58.trans (congrArg some (by kernel_rfl))
  f317 := Tryz.func67.trans (congrArg some (by kernel_rfl))
  f318 := Tryz.func84.trans (congrArg some (by kernel_rfl))
  f319 := Tryz.func85.trans (congrArg some (by kernel_rfl))
  f320 := Tryz.func86.trans (congrArg some (by kernel_rfl))
  f337 := Tryz.func109.trans (congrArg some (by kernel_rfl))
  f338 := Tryz.func110.trans (congrArg some (by kernel_rfl))
  t0 := Tryz.underlying0
  a0 := Tryz.isAgg0
  z0 := Tryz.sizeOf0
  v0 := Tryz.zeroValue0
  t2 := Tryz.underlying2
  a2 := Tryz.isAgg2
  z2 := Tryz.sizeOf2
  v2 := Tryz.zeroValue2
  t3 := Tryz.underlying3
  a3 := Tryz.isAgg3
  z3 := Tryz.sizeOf3
  v3 := Tryz.zeroValue3
  t4 := Tryz.underlying4
  a4 := Tryz.isAgg4
  z4 := Tryz.sizeOf4
  v4 := Tryz.zeroValue4
  t5 := Tryz.underlying5
  a5 := Tryz.isAgg5
  z5 := Tryz.sizeOf5
  v5 := Tryz.zeroValue5
  t9 := Tryz.underlying9
  a9 := Tryz.isAgg9
  z9 := Tryz.sizeOf9
  v9 := Tryz.zeroValue9
  t20 := Tryz.underlying20
  a20 := Tryz.isAgg20
  z20 := Tryz.sizeOf20
  v20 := Tryz.zeroValue20
  t37 := Tryz.underlying50
  a37 := Tryz.isAgg50
  z37 := Tryz.sizeOf50
  v37 := Tryz.zeroValue50
  t46 := Tryz.underlying85
  a46 := Tryz.isAgg85
  z46 := Tryz.sizeOf85
  v46 := Tryz.zeroValue85
  t51 := Tryz.underlying98
  a51 := Tryz.isAgg98
  z51 := Tryz.sizeOf98
  v51 := Tryz.zeroValue98
  t53 := Tryz.underlying81
  a53 := Tryz.isAgg81
  z53 := Tryz.sizeOf81
  v53 := Tryz.zeroValue81
  t171 := Tryz.underlying93
  a171 := Tryz.isAgg93
  z171 := Tryz.sizeOf93
  v171 := Tryz.zeroValue93
  t173 := Tryz.underlying96
  a173 := Tryz.isAgg96
  z173 := Tryz.sizeOf96
  v173 := Tryz.zeroValue96
  t212 := Tryz.underlying129
  a212 := Tryz.isAgg129
  z212 := Tryz.sizeOf129
  v212 := Tryz.zeroValue129
  t213 := Tryz.underlying130
  a213 := Tryz.isAgg130
  z213 := Tryz.sizeOf130
  t232 := Tryz.underlying104
  a232 := Tryz.isAgg104
  z232 := Tryz.sizeOf104
  v232 := Tryz.zeroValue104
  t233 := Tryz.underlying187
  a233 := Tryz.isAgg187
  z233 := Tryz.sizeOf187
  v233 := Tryz.zeroValue187
  g17 := by kernel_rfl
  g18 := by kernel_rfl
  g19 := by kernel_rfl
  i0 := by kernel_rfl
  i2 := by kernel_rfl
  i3 := by kernel_rfl
  i4 := by kernel_rfl
  i5 := by kernel_rfl
  i9 := by kernel_rfl
  i20 := by kernel_rfl
  i37 := by kernel_rfl
  i46 := by kernel_rfl
  i51 := by kernel_rfl
  i53 := by kernel_rfl
  i171 := by kernel_rfl
  i173 := by kernel_rfl
  i212 := by kernel_rfl
  i232 := by kernel_rfl
  i233 := by kernel_rfl
  m17 := by kernel_rfl
  m18 := by kernel_rfl
  m19 := by kernel_rfl }
open Go.RowKit Go.Sort Go.Lib in
/-- internal/strconv.Itoa: "Itoa is equivalent to FormatInt(int64(i), 10).": i's decimal numeral, for every int. (LAID: no walk: one application.) -/
theorem Tryz.internal_strconv_Itoa (n : Int) (h0 : -9223372036854775808 ≤ n) (h1 : n ≤ 9223372036854775807) (w : World) (htab : Lib.TabIs Tryz.prog w "internal/strconv.uint64pow10" .u64 Lib.pow10Tab) :
    Calls Tryz.prog 115 #[.int .i64 n] w fun e w' => e = .returned (.string ⟨(Lib.itoa n).toArray⟩) ∧ ∃ k os, w' = grow (w.drewN k) os := Any.internal_strconv_Itoa Tryz.laysM243 n h0 h1 w htab
def Tryz.lays243_ren : Go.Shelf.Ren := ⟨fun | 243 => 115 | 246 => 128 | 283 => 55 | 284 => 56 | 285 => 57 | 286 => 58 | 129 => 64 | 317 => 67 | 318 => 84 | 319 => 85 | 320 => 86 | 337 => 109 | 338 => 110 | n => n, fun | 3 => 3 | 9 => 9 | 2 => 2 | 4 => 4 | 171 => 93 | 0 => 0 | 53 => 81 | 37 => 50 | 5 => 5 | 173 => 96 | 212 => 129 | 51 => 98 | 20 => 20 | 213 => 130 | 46 => 85 | 232 => 104 | 233 => 187 | n => n, fun | 17 => 1 | 18 => 9 | 19 => 10 | n => n⟩
theorem Tryz.lays243 : Go.Proofs.Lays.n243 Tryz.prog Tryz.lays243_ren := {
  mixed := by kernel_rfl
  f129 := Tryz.func64.trans (congrArg some (by kernel_rfl))
  f243 := Tryz.func115.trans (congrArg some (by kernel_rfl))
  f246 := Tryz.func128.trans (congrArg some (by kernel_rfl))
  f283 := Tryz.func55.trans (congrArg some (by kernel_rfl))
  f284 := Tryz.func56.trans (congrArg some (by kernel_rfl))
  f285 := Tryz.func57.trans (congrArg some (by kernel_rfl))
  f286 := Tryz.func58.trans (congrArg some (by kernel_rfl))
  f317 := Tryz.func67.trans (congrArg some (by kernel_rfl))
  f318 := Tryz.func84.trans (congrArg some (by kernel_rfl))
  f319 := Tryz.func85.trans (congrArg some (by kernel_rfl))
  f320 := Tryz.func86.trans (congrArg some (by kernel_rfl))
  f337 := Tryz.func109.trans (congrArg some (by kernel_rfl))
  f338 := Tryz.func110.trans (congrArg some (by kernel_rfl))
  t0 := Tryz.underlying0
  a0 := Tryz.isAgg0
  z0 := Tryz.sizeOf0
  v0 := Tryz.zeroValue0
  t2 := Tryz.underlying2
  a2 := Tryz.isAgg2
  z2 := Tryz.sizeOf2
  v2 := Tryz.zeroValue2
  t3 := Tryz.underlying3
  a3 := Tryz.isAgg3
  z3 := Tryz.sizeOf3
  v3 := Tryz.zeroValue3
  t4 := Tryz.underlying4
  a4 := Tryz.isAgg4
  z4 := Tryz.sizeOf4
  v4 := Tryz.zeroValue4
  t5 := Tryz.underlying5
  a5 := Tryz.isAgg5
  z5 := Tryz.sizeOf5
  v5 := Tryz.zeroValue5
  t9 := Tryz.underlying9
  a9 := Tryz.isAgg9
  z9 := Tryz.sizeOf9
  v9 := Tryz.zeroValue9
  t20 := Tryz.underlying20
  a20 := Tryz.isAgg20
  z20 := Tryz.sizeOf20
  v20 := Tryz.zeroValue20
  t37 := Tryz.underlying50
  a37 := Tryz.isAgg50
  z37 := Tryz.sizeOf50
  v37 := Tryz.zeroValue50
  t46 := Tryz.underlying85
  a46 := Tryz.isAgg85
  z46 := Tryz.sizeOf85
  v46 := Tryz.zeroValue85
  t51 := Tryz.underlying98
  a51 := Tryz.isAgg98
  z51 := Tryz.sizeOf98
  v51 := Tryz.zeroValue98
  t53 := Tryz.underlying81
  a53 := Tryz.isAgg81
  z53 := Tryz.sizeOf81
  v53 := Tryz.zeroValue81
  t171 := Tryz.underlying93
  a171 := Tryz.isAgg93
  z171 := Tryz.sizeOf93
  v171 := Tryz.zeroValue93
  t173 := Tryz.underlying96
  a173 := Tryz.isAgg96
  z173 := Tryz.sizeOf96
  v173 := Tryz.zeroValue96
  t212 := Tryz.underlying129
  a212 := Tryz.isAgg129
  z212 := Tryz.sizeOf129
  v212 := Tryz.zeroValue129
  t213 := Tryz.underlying130
  a213 := Tryz.isAgg130
  z213 := Tryz.sizeOf130
  t232 := Tryz.underlying104
  a232 := Tryz.isAgg104
  z232 := Tryz.sizeOf104
  v232 := Tryz.zeroValue104
  t233 := Tryz.underlying187
  a233 := Tryz.isAgg187
  z233 := Tryz.sizeOf187
  v233 := Tryz.zeroValue187
  g17 := by kernel_rfl
  g18 := by kernel_rfl
  g19 := by kernel_rfl }
open Go.RowKit Go.Sort Go.Lib in
/-- THE ROAD WITHOUT THE TABLE: 0 <= i < 100. (LAID: no walk: one application.) -/
theorem Tryz.internal_strconv_Itoa_small (i : Nat) (hi : i < 100) (w : World) :
    Calls Tryz.prog 115 #[.int .i64 i] w fun e w' => e = .returned (.string ⟨(Lib.decDigits i).toArray⟩) ∧ w' = w := Any.internal_strconv_Itoa_small Tryz.lays243 i hi w
def Tryz.laysM171_ren : Go.Shelf.Ren := ⟨fun | 171 => 106 | 243 => 115 | 246 => 128 | 283 => 55 | 284 => 56 | 285 => 57 | 286 => 58 | 129 => 64 | 317 => 67 | 318 => 84 | 319 => 85 | 320 => 86 | 337 => 109 | 338 => 110 | n => n, fun | 3 => 3 | 9 => 9 | 2 => 2 | 4 => 4 | 171 => 93 | 0 => 0 | 53 => 81 | 37 => 50 | 5 => 5 | 173 => 96 | 212 => 129 | 51 => 98 | 20 => 20 | 213 => 130 | 46 => 85 | 232 => 104 | 233 => 187 | n => n, fun | 17 => 1 | 18 => 9 | 19 => 10 | n => n⟩
theorem Tryz.laysM171 : Go.Proofs.LaysM.n171 Tryz.prog Tryz.laysM171_ren := {
  mixed := by kernel_rfl
  f129 := Tryz.func64.trans (congrArg some (by kernel_rfl))
  f171 := Tryz.func106.trans (congrArg some (by kernel_rfl))
  f243 := Tryz.func115.trans (congrArg some (by kernel_rfl))
  f246 := Tryz.func128.trans (congrArg some (by kernel_rfl))
  f283 := Tryz.func55.trans (congrArg some (by kernel_rfl))
  f284 := Tryz.func56.trans (congrArg some (by kernel_rfl))
  f285 := Tryz.func57.trans (congrArg some (by kernel_rfl))
  f286 := Tryz.func58.trans (congrArg some (by kernel_rfl))
  f317 := Tryz.func67.trans (congrArg some (by kernel_rfl))
  f318 := Tryz.func84.trans (congrArg some (by kernel_rfl))
  f319 := Tryz.func85.trans (congrArg some (by kernel_rfl))
  f320 := Tryz.func86.trans (congrArg some (by kernel_rfl))
  f337 := Tryz.func109.trans (congrArg some (by kernel_rfl))
  f338 := Tryz.func110.trans (congrArg some (by kernel_rfl))
  t0 := Tryz.underlying0
  a0 := Tryz.isAgg0
  z0 := Tryz.sizeOf0
  v0 := Tryz.zeroValue0
  t2 := Tryz.underlying2
  a2 := Tryz.isAgg2
  z2 := Tryz.sizeOf2
  v2 := Tryz.zeroValue2
  t3 := Tryz.underlying3
  a3 := Tryz.isAgg3
  z3 := Tryz.sizeOf3
  v3 := Tryz.zeroValue3
  t4 := Tryz.underlying4
  a4 := Tryz.isAgg4
  z4 := Tryz.sizeOf4
  v4 := Tryz.zeroValue4
  t5 := Tryz.underlying5
  a5 := Tryz.isAgg5
  z5 := Tryz.sizeOf5
  v5 := Tryz.zeroValue5
  t9 := Tryz.underlying9
  a9 := Tryz.isAgg9
  z9 := Tryz.sizeOf9
  v9 := Tryz.zeroValue9
  t20 := Tryz.underlying20
  a20 := Tryz.isAgg20
  z20 := Tryz.sizeOf20
  v20 := Tryz.zeroValue20
  t37 := Tryz.underlying50
  a37 := Tryz.isAgg50
  z37 := Tryz.sizeOf50
  v37 := Tryz.zeroValue50
  t46 := Tryz.underlying85
  a46 := Tryz.isAgg85
  z46 := Tryz.sizeOf85
  v46 := Tryz.zeroValue85
  t51 := Tryz.underlying98
  a51 := Tryz.isAgg98
  z51 := Tryz.sizeOf98
  v51 := Tryz.zeroValue98
  t53 := Tryz.underlying81
  a53 := Tryz.isAgg81
  z53 := Tryz.sizeOf81
  v53 := Tryz.zeroValue81
  t171 := Tryz.underlying93
  a171 := Tryz.isAgg93
  z171 := Tryz.sizeOf93
  v171 := Tryz.zeroValue93
  t173 := Tryz.underlying96
  a173 := Tryz.isAgg96
  z173 := Tryz.sizeOf96
  v173 := Tryz.zeroValue96
  t212 := Tryz.underlying129
  a212 := Tryz.isAgg129
  z212 := Tryz.sizeOf129
  v212 := Tryz.zeroValue129
  t213 := Tryz.underlying130
  a213 := Tryz.isAgg130
  z213 := Tryz.sizeOf130
  t232 := Tryz.underlying104
  a232 := Tryz.isAgg104
  z232 := Tryz.sizeOf104
  v232 := Tryz.zeroValue104
  t233 := Tryz.underlying187
  a233 := Tryz.isAgg187
  z233 := Tryz.sizeOf187
  v233 := Tryz.zeroValue187
  g17 := by kernel_rfl
  g18 := by kernel_rfl
  g19 := by kernel_rfl
  i0 := by kernel_rfl
  i2 := by kernel_rfl
  i3 := by kernel_rfl
  i4 := by kernel_rfl
  i5 := by kernel_rfl
  i9 := by kernel_rfl
  i20 := by kernel_rfl
  i37 := by kernel_rfl
  i46 := by kernel_rfl
  i51 := by kernel_rfl
  i53 := by kernel_rfl
  i171 := by kernel_rfl
  i173 := by kernel_rfl
  i212 := by kernel_rfl
  i232 := by kernel_rfl
  i233 := by kernel_rfl
  m17 := by kernel_rfl
  m18 := by kernel_rfl
  m19 := by kernel_rfl }
open Go.RowKit Go.Sort Go.Lib in
/-- strconv.Itoa: "Itoa is equivalent to FormatInt(int64(i), 10).": i's DECIMAL NUMERAL ('Lib.itoa': a '-' where i is negative, then the digits), FOR EVERY int. The world behind the call: the world before it, new blocks behind the heap (the library's 'var a [24]byte'), draws. (LAID: no walk: one application.) -/
theorem Tryz.strconv_Itoa (n : Int) (h0 : -9223372036854775808 ≤ n) (h1 : n ≤ 9223372036854775807) (w : World) (htab : Lib.TabIs Tryz.prog w "internal/strconv.uint64pow10" .u64 Lib.pow10Tab) :
    Calls Tryz.prog 106 #[.int .i64 n] w fun e w' => e = .returned (.string ⟨(Lib.itoa n).toArray⟩) ∧ ∃ k os, w' = grow (w.drewN k) os := Any.strconv_Itoa Tryz.laysM171 n h0 h1 w htab
def Tryz.lays171_ren : Go.Shelf.Ren := ⟨fun | 171 => 106 | 243 => 115 | 246 => 128 | 283 => 55 | 284 => 56 | 285 => 57 | 286 => 58 | 129 => 64 | 317 => 67 | 318 => 84 | 319 => 85 | 320 => 86 | 337 => 109 | 338 => 110 | n => n, fun | 3 => 3 | 9 => 9 | 2 => 2 | 4 => 4 | 171 => 93 | 0 => 0 | 53 => 81 | 37 => 50 | 5 => 5 | 173 => 96 | 212 => 129 | 51 => 98 | 20 => 20 | 213 => 130 | 46 => 85 | 232 => 104 | 233 => 187 | n => n, fun | 17 => 1 | 18 => 9 | 19 => 10 | n => n⟩
theorem Tryz.lays171 : Go.Proofs.Lays.n171 Tryz.prog Tryz.lays171_ren := {
  mixed := by kernel_rfl
  f129 := Tryz.func64.trans (congrArg some (by kernel_rfl))
  f171 := Tryz.func106.trans (congrArg some (by kernel_rfl))
  f243 := Tryz.func115.trans (congrArg some (by kernel_rfl))
  f246 := Tryz.func128.trans (congrArg some (by kernel_rfl))
  f283 := Tryz.func55.trans (congrArg some (by kernel_rfl))
  f284 := Tryz.func56.trans (congrArg some (by kernel_rfl))
  f285 := Tryz.func57.trans (congrArg some (by kernel_rfl))
  f286 := Tryz.func58.trans (congrArg some (by kernel_rfl))
  f317 := Tryz.func67.trans (congrArg some (by kernel_rfl))
  f318 := Tryz.func84.trans (congrArg some (by kernel_rfl))
  f319 := Tryz.func85.trans (congrArg some (by kernel_rfl))
  f320 := Tryz.func86.trans (congrArg some (by kernel_rfl))
  f337 := Tryz.func109.trans (congrArg some (by kernel_rfl))
  f338 := Tryz.func110.trans (congrArg some (by kernel_rfl))
  t0 := Tryz.underlying0
  a0 := Tryz.isAgg0
  z0 := Tryz.sizeOf0
  v0 := Tryz.zeroValue0
  t2 := Tryz.underlying2
  a2 := Tryz.isAgg2
  z2 := Tryz.sizeOf2
  v2 := Tryz.zeroValue2
  t3 := Tryz.underlying3
  a3 := Tryz.isAgg3
  z3 := Tryz.sizeOf3
  v3 := Tryz.zeroValue3
  t4 := Tryz.underlying4
  a4 := Tryz.isAgg4
  z4 := Tryz.sizeOf4
  v4 := Tryz.zeroValue4
  t5 := Tryz.underlying5
  a5 := Tryz.isAgg5
  z5 := Tryz.sizeOf5
  v5 := Tryz.zeroValue5
  t9 := Tryz.underlying9
  a9 := Tryz.isAgg9
  z9 := Tryz.sizeOf9
  v9 := Tryz.zeroValue9
  t20 := Tryz.underlying20
  a20 := Tryz.isAgg20
  z20 := Tryz.sizeOf20
  v20 := Tryz.zeroValue20
  t37 := Tryz.underlying50
  a37 := Tryz.isAgg50
  z37 := Tryz.sizeOf50
  v37 := Tryz.zeroValue50
  t46 := Tryz.underlying85
  a46 := Tryz.isAgg85
  z46 := Tryz.sizeOf85
  v46 := Tryz.zeroValue85
  t51 := Tryz.underlying98
  a51 := Tryz.isAgg98
  z51 := Tryz.sizeOf98
  v51 := Tryz.zeroValue98
  t53 := Tryz.underlying81
  a53 := Tryz.isAgg81
  z53 := Tryz.sizeOf81
  v53 := Tryz.zeroValue81
  t171 := Tryz.underlying93
  a171 := Tryz.isAgg93
  z171 := Tryz.sizeOf93
  v171 := Tryz.zeroValue93
  t173 := Tryz.underlying96
  a173 := Tryz.isAgg96
  z173 := Tryz.sizeOf96
  v173 := Tryz.zeroValue96
  t212 := Tryz.underlying129
  a212 := Tryz.isAgg129
  z212 := Tryz.sizeOf129
  v212 := Tryz.zeroValue129
  t213 := Tryz.underlying130
  a213 := Tryz.isAgg130
  z213 := Tryz.sizeOf130
  t232 := Tryz.underlying104
  a232 := Tryz.isAgg104
  z232 := Tryz.sizeOf104
  v232 := Tryz.zeroValue104
  t233 := Tryz.underlying187
  a233 := Tryz.isAgg187
  z233 := Tryz.sizeOf187
  v233 := Tryz.zeroValue187
  g17 := by kernel_rfl
  g18 := by kernel_rfl
  g19 := by kernel_rfl }
open Go.RowKit Go.Sort Go.Lib in
/-- THE ROAD WITHOUT THE TABLE: 0 <= i < 100: NO PREMISE ON THE WORLD, AND THE WORLD IS AS IT WAS: a row that keeps its argument in that range need list no table ('laid = []'). (LAID: no walk: one application.) -/
theorem Tryz.strconv_Itoa_small (i : Nat) (hi : i < 100) (w : World) :
    Calls Tryz.prog 106 #[.int .i64 i] w fun e w' => e = .returned (.string ⟨(Lib.decDigits i).toArray⟩) ∧ w' = w := Any.strconv_Itoa_small Tryz.lays171 i hi w
def Tryz.lays247_ren : Go.Shelf.Ren := ⟨fun | 247 => 51 | 287 => 74 | 321 => 87 | 322 => 104 | n => n, fun | 9 => 9 | 3 => 3 | 2 => 2 | 75 => 39 | 4 => 4 | 167 => 117 | 5 => 5 | 53 => 81 | 175 => 118 | 46 => 85 | 37 => 50 | 0 => 0 | 21 => 21 | 80 => 195 | n => n, fun | n => n⟩
theorem Tryz.lays247 : Go.Proofs.Lays.n247 Tryz.prog Tryz.lays247_ren := {
  mixed := by kernel_rfl
  f247 := Tryz.func51.trans (congrArg some (by kernel_rfl))
  f287 := Tryz.func74.trans (congrArg some (by kernel_rfl))
  f321 := Tryz.func87.trans (congrArg some (by kernel_rfl))
  f322 := Tryz.func104.trans (congrArg some (by kernel_rfl))
  t0 := Tryz.underlying0
  a0 := Tryz.isAgg0
  z0 := Tryz.sizeOf0
  v0 := Tryz.zeroValue0
  t2 := Tryz.underlying2
  a2 := Tryz.isAgg2
  z2 := Tryz.sizeOf2
  v2 := Tryz.zeroValue2
  t3 := Tryz.underlying3
  a3 := Tryz.isAgg3
  z3 := Tryz.sizeOf3
  v3 := Tryz.zeroValue3
  t4 := Tryz.underlying4
  a4 := Tryz.isAgg4
  z4 := Tryz.sizeOf4
  v4 := Tryz.zeroValue4
  t5 := Tryz.underlying5
  a5 := Tryz.isAgg5
  z5 := Tryz.sizeOf5
  v5 := Tryz.zeroValue5
  t9 := Tryz.underlying9
  a9 := Tryz.isAgg9
  z9 := Tryz.sizeOf9
  v9 := Tryz.zeroValue9
  t21 := Tryz.underlying21
  a21 := Tryz.isAgg21
  z21 := Tryz.sizeOf21
  v21 := Tryz.zeroValue21
  t37 := Tryz.underlying50
  a37 := Tryz.isAgg50
  z37 := Tryz.sizeOf50
  v37 := Tryz.zeroValue50
  t46 := Tryz.underlying85
  a46 := Tryz.isAgg85
  z46 := Tryz.sizeOf85
  v46 := Tryz.zeroValue85
  t53 := Tryz.underlying81
  a53 := Tryz.isAgg81
  z53 := Tryz.sizeOf81
  v53 := Tryz.zeroValue81
  t75 := Tryz.underlying39
  a75 := Tryz.isAgg39
  z75 := Tryz.sizeOf39
  v75 := Tryz.zeroValue39
  t167 := Tryz.underlying117
  a167 := Tryz.isAgg117
  z167 := Tryz.sizeOf117
  v167 := Tryz.zeroValue117
  t175 := Tryz.underlying118
  a175 := Tryz.isAgg118
  z175 := Tryz.sizeOf118
  v175 := Tryz.zeroValue118 }
open Go.RowKit in
/-- internal/strconv.ParseInt at "": 'if s == "" { return 0, ErrSyntax }'. The world is as it was. (LAID: no walk: one application.) -/
theorem Tryz.internal_strconv_ParseInt_empty (base bits : Int) (w : World) :
    Calls Tryz.prog 51 #[.string ⟨#[]⟩, .int .i64 base, .int .i64 bits] w fun e w' => e = .returned (.tuple #[.int .i64 0, (.iface 117 (.int .i64 2))]) ∧ w' = w := Any.internal_strconv_ParseInt_empty Tryz.lays247 base bits w
def Tryz.laysM316_ren : Go.Shelf.Ren := ⟨fun | 316 => 105 | n => n, fun | 9 => 9 | 3 => 3 | 4 => 4 | 37 => 50 | 0 => 0 | 127 => 166 | 5 => 5 | n => n, fun | n => n⟩
theorem Tryz.laysM316 : Go.Proofs.LaysM.n316 Tryz.prog Tryz.laysM316_ren := {
  mixed := by kernel_rfl
  f316 := Tryz.func105.trans (congrArg some (by kernel_rfl))
  t0 := Tryz.underlying0
  a0 := Tryz.isAgg0
  z0 := Tryz.sizeOf0
  v0 := Tryz.zeroValue0
  t3 := Tryz.underlying3
  a3 := Tryz.isAgg3
  z3 := Tryz.sizeOf3
  v3 := Tryz.zeroValue3
  t4 := Tryz.underlying4
  a4 := Tryz.isAgg4
  z4 := Tryz.sizeOf4
  v4 := Tryz.zeroValue4
  t9 := Tryz.underlying9
  a9 := Tryz.isAgg9
  z9 := Tryz.sizeOf9
  v9 := Tryz.zeroValue9
  t37 := Tryz.underlying50
  a37 := Tryz.isAgg50
  z37 := Tryz.sizeOf50
  v37 := Tryz.zeroValue50
  t127 := Tryz.underlying166
  a127 := Tryz.isAgg166
  z127 := Tryz.sizeOf166
  v127 := Tryz.zeroValue166
  t5 := Tryz.underlying5
  a5 := Tryz.isAgg5
  z5 := Tryz.sizeOf5
  v5 := Tryz.zeroValue5
  i0 := by kernel_rfl
  i3 := by kernel_rfl
  i4 := by kernel_rfl
  i5 := by kernel_rfl
  i9 := by kernel_rfl
  i37 := by kernel_rfl
  i127 := by kernel_rfl }
open Go.RowKit in
/-- internal/stringslite.Clone (what strings.Clone calls): "Clone returns a fresh copy of s.": THE SAME BYTES. Of what was there nothing has turned (a new row is laid, and frozen, where s is not empty). (LAID: no walk: one application.) -/
theorem Tryz.stringslite_Clone (s : ByteArray) (w : World) (hlim : s.size ≤ 281474976710656) :
    Calls Tryz.prog 105 #[.string s] w fun e w' => e = .returned (.string s) ∧ Below w.heap.size w w' := Any.stringslite_Clone Tryz.laysM316 s w hlim
def Tryz.laysM279_ren : Go.Shelf.Ren := ⟨fun | 279 => 75 | 316 => 105 | n => n, fun | 9 => 9 | 168 => 120 | 75 => 39 | 210 => 149 | 3 => 3 | 4 => 4 | 37 => 50 | 0 => 0 | 127 => 166 | 80 => 195 | 5 => 5 | n => n, fun | 15 => 2 | n => n⟩
theorem Tryz.laysM279 : Go.Proofs.LaysM.n279 Tryz.prog Tryz.laysM279_ren := {
  mixed := by kernel_rfl
  f279 := Tryz.func75.trans (congrArg some (by kernel_rfl))
  f316 := Tryz.func105.trans (congrArg some (by kernel_rfl))
  t0 := Tryz.underlying0
  a0 := Tryz.isAgg0
  z0 := Tryz.sizeOf0
  v0 := Tryz.zeroValue0
  t3 := Tryz.underlying3
  a3 := Tryz.isAgg3
  z3 := Tryz.sizeOf3
  v3 := Tryz.zeroValue3
  t4 := Tryz.underlying4
  a4 := Tryz.isAgg4
  z4 := Tryz.sizeOf4
  v4 := Tryz.zeroValue4
  t9 := Tryz.underlying9
  a9 := Tryz.isAgg9
  z9 := Tryz.sizeOf9
  v9 := Tryz.zeroValue9
  t37 := Tryz.underlying50
  a37 := Tryz.isAgg50
  z37 := Tryz.sizeOf50
  v37 := Tryz.zeroValue50
  t75 := Tryz.underlying39
  a75 := Tryz.isAgg39
  z75 := Tryz.sizeOf39
  v75 := Tryz.zeroValue39
  t127 := Tryz.underlying166
  a127 := Tryz.isAgg166
  z127 := Tryz.sizeOf166
  v127 := Tryz.zeroValue166
  t168 := Tryz.underlying120
  a168 := Tryz.isAgg120
  z168 := Tryz.sizeOf120
  v168 := Tryz.zeroValue120
  t210 := Tryz.underlying149
  a210 := Tryz.isAgg149
  z210 := Tryz.sizeOf149
  v210 := Tryz.zeroValue149
  g15 := by kernel_rfl
  t5 := Tryz.underlying5
  a5 := Tryz.isAgg5
  z5 := Tryz.sizeOf5
  v5 := Tryz.zeroValue5
  t80 := Tryz.underlying195
  a80 := Tryz.isAgg195
  z80 := Tryz.sizeOf195
  v80 := Tryz.zeroValue195
  i0 := by kernel_rfl
  i3 := by kernel_rfl
  i4 := by kernel_rfl
  i5 := by kernel_rfl
  i9 := by kernel_rfl
  i37 := by kernel_rfl
  i75 := by kernel_rfl
  i80 := by kernel_rfl
  i127 := by kernel_rfl
  i168 := by kernel_rfl
  i210 := by kernel_rfl
  m15 := by kernel_rfl }
open Go.RowKit in
/-- strconv.syntaxError: '&NumError{fn, stringslite.Clone(str), ErrSyntax}': A POINTER TO A NEW BLOCK that holds fn, str's bytes, and what the variable ErrSyntax holds. Of what was there nothing has turned. (LAID: no walk: one application.) -/
theorem Tryz.strconv_syntaxError (fn s : ByteArray) (ev : Value) (w : World) (hlim : s.size ≤ 281474976710656) (hv : w.cell? ⟨2, 0, none⟩ = some ev) (hev : ev = .nilIface ∨ ∃ te pe, ev = .iface te pe) :
    Calls Tryz.prog 75 #[.string fn, .string s] w fun e w' => ∃ N, e = .returned (.pointer (some ⟨N, 0, none⟩)) ∧ w.heap.size ≤ N ∧ w'.heap[N]? = some (.cells #[.string fn, .string s, ev] 149 (0, 0)) ∧ Below w.heap.size w w' := Any.strconv_syntaxError Tryz.laysM279 fn s ev w hlim hv hev
def Tryz.laysC245_ren : Go.Shelf.Ren := ⟨fun | 245 => 52 | 279 => 75 | 280 => 76 | 281 => 77 | 282 => 78 | 316 => 105 | 171 => 106 | 205 => 29 | 243 => 115 | 246 => 128 | 283 => 55 | 284 => 56 | 285 => 57 | 286 => 58 | 129 => 64 | 317 => 67 | 318 => 84 | 319 => 85 | 320 => 86 | 337 => 109 | 338 => 110 | n => n, fun | 9 => 9 | 3 => 3 | 75 => 39 | 167 => 117 | 4 => 4 | 168 => 120 | 210 => 149 | 37 => 50 | 0 => 0 | 127 => 166 | 145 => 73 | 143 => 71 | 2 => 2 | 171 => 93 | 53 => 81 | 5 => 5 | 173 => 96 | 212 => 129 | 51 => 98 | 20 => 20 | 213 => 130 | 46 => 85 | 232 => 104 | 233 => 187 | 80 => 195 | n => n, fun | 15 => 2 | 16 => 3 | 17 => 1 | 18 => 9 | 19 => 10 | n => n⟩
theorem Tryz.laysC245 : Go.Proofs.LaysC.n245 Tryz.prog Tryz.laysC245_ren := {
  mixed := by kernel_rfl
  f129 := Tryz.func64.trans (congrArg some (by kernel_rfl))
  f171 := Tryz.func106.trans (congrArg some (by kernel_rfl))
  f205 := Tryz.func29.trans (congrArg some (by kernel_rfl))
  f243 := Tryz.func115.trans (congrArg some (by kernel_rfl))
  f245 := Tryz.func52.trans (congrArg some (by kernel_rfl))
  f246 := Tryz.func128.trans (congrArg some (by kernel_rfl))
  f279 := Tryz.func75.trans (congrArg some (by kernel_rfl))
  f280 := Tryz.func76.trans (congrArg some (by kernel_rfl))
  f281 := Tryz.func77.trans (congrArg some (by kernel_rfl))
  f282 := Tryz.func78.trans (congrArg some (by kernel_rfl))
  f283 := Tryz.func55.trans (congrArg some (by kernel_rfl))
  f284 := Tryz.func56.trans (congrArg some (by kernel_rfl))
  f285 := Tryz.func57.trans (congrArg some (by kernel_rfl))
  f286 := Tryz.func58.trans (congrArg some (by kernel_rfl))
  f316 := Tryz.func105.trans (congrArg some (by kernel_rfl))
  f317 := Tryz.func67.trans (congrArg some (by kernel_rfl))
  f318 := Tryz.func84.trans (congrArg some (by kernel_rfl))
  f319 := Tryz.func85.trans (congrArg some (by kernel_rfl))
  f320 := Tryz.func86.trans (congrArg some (by kernel_rfl))
  f337 := Tryz.func109.trans (congrArg some (by kernel_rfl))
  f338 := Tryz.func110.trans (congrArg some (by kernel_rfl))
  t0 := Tryz.underlying0
  a0 := Tryz.isAgg0
  z0 := Tryz.sizeOf0
  v0 := Tryz.zeroValue0
  t2 := Tryz.underlying2
  a2 := Tryz.isAgg2
  z2 := Tryz.sizeOf2
  v2 := Tryz.zeroValue2
  t3 := Tryz.underlying3
  a3 := Tryz.isAgg3
  z3 := Tryz.sizeOf3
  v3 := Tryz.zeroValue3
  t4 := Tryz.underlying4
  a4 := Tryz.isAgg4
  z4 := Tryz.sizeOf4
  v4 := Tryz.zeroValue4
  t5 := Tryz.underlying5
  a5 := Tryz.isAgg5
  z5 := Tryz.sizeOf5
  v5 := Tryz.zeroValue5
  t9 := Tryz.underlying9
  a9 := Tryz.isAgg9
  z9 := Tryz.sizeOf9
  v9 := Tryz.zeroValue9
  t20 := Tryz.underlying20
  a20 := Tryz.isAgg20
  z20 := Tryz.sizeOf20
  v20 := Tryz.zeroValue20
  t37 := Tryz.underlying50
  a37 := Tryz.isAgg50
  z37 := Tryz.sizeOf50
  v37 := Tryz.zeroValue50
  t46 := Tryz.underlying85
  a46 := Tryz.isAgg85
  z46 := Tryz.sizeOf85
  v46 := Tryz.zeroValue85
  t51 := Tryz.underlying98
  a51 := Tryz.isAgg98
  z51 := Tryz.sizeOf98
  v51 := Tryz.zeroValue98
  t53 := Tryz.underlying81
  a53 := Tryz.isAgg81
  z53 := Tryz.sizeOf81
  v53 := Tryz.zeroValue81
  t75 := Tryz.underlying39
  a75 := Tryz.isAgg39
  z75 := Tryz.sizeOf39
  v75 := Tryz.zeroValue39
  t127 := Tryz.underlying166
  a127 := Tryz.isAgg166
  z127 := Tryz.sizeOf166
  v127 := Tryz.zeroValue166
  t143 := Tryz.underlying71
  a143 := Tryz.isAgg71
  z143 := Tryz.sizeOf71
  v143 := Tryz.zeroValue71
  t145 := Tryz.underlying73
  a145 := Tryz.isAgg73
  z145 := Tryz.sizeOf73
  v145 := Tryz.zeroValue73
  t167 := Tryz.underlying117
  a167 := Tryz.isAgg117
  z167 := Tryz.sizeOf117
  v167 := Tryz.zeroValue117
  t168 := Tryz.underlying120
  a168 := Tryz.isAgg120
  z168 := Tryz.sizeOf120
  v168 := Tryz.zeroValue120
  t171 := Tryz.underlying93
  a171 := Tryz.isAgg93
  z171 := Tryz.sizeOf93
  v171 := Tryz.zeroValue93
  t173 := Tryz.underlying96
  a173 := Tryz.isAgg96
  z173 := Tryz.sizeOf96
  v173 := Tryz.zeroValue96
  t210 := Tryz.underlying149
  a210 := Tryz.isAgg149
  z210 := Tryz.sizeOf149
  v210 := Tryz.zeroValue149
  t212 := Tryz.underlying129
  a212 := Tryz.isAgg129
  z212 := Tryz.sizeOf129
  v212 := Tryz.zeroValue129
  t213 := Tryz.underlying130
  a213 := Tryz.isAgg130
  z213 := Tryz.sizeOf130
  t232 := Tryz.underlying104
  a232 := Tryz.isAgg104
  z232 := Tryz.sizeOf104
  v232 := Tryz.zeroValue104
  t233 := Tryz.underlying187
  a233 := Tryz.isAgg187
  z233 := Tryz.sizeOf187
  v233 := Tryz.zeroValue187
  g15 := by kernel_rfl
  g16 := by kernel_rfl
  g17 := by kernel_rfl
  g18 := by kernel_rfl
  g19 := by kernel_rfl
  t80 := Tryz.underlying195
  a80 := Tryz.isAgg195
  z80 := Tryz.sizeOf195
  v80 := Tryz.zeroValue195
  i0 := by kernel_rfl
  i2 := by kernel_rfl
  i3 := by kernel_rfl
  i4 := by kernel_rfl
  i5 := by kernel_rfl
  i9 := by kernel_rfl
  i20 := by kernel_rfl
  i37 := by kernel_rfl
  i46 := by kernel_rfl
  i51 := by kernel_rfl
  i53 := by kernel_rfl
  i75 := by kernel_rfl
  i80 := by kernel_rfl
  i127 := by kernel_rfl
  i143 := by kernel_rfl
  i145 := by kernel_rfl
  i167 := by kernel_rfl
  i168 := by kernel_rfl
  i171 := by kernel_rfl
  i173 := by kernel_rfl
  i210 := by kernel_rfl
  i212 := by kernel_rfl
  i232 := by kernel_rfl
  i233 := by kernel_rfl
  m15 := by kernel_rfl
  m16 := by kernel_rfl
  m17 := by kernel_rfl
  m18 := by kernel_rfl
  m19 := by kernel_rfl
  c0 := by kernel_rfl
  c2 := by kernel_rfl
  c3 := by kernel_rfl
  c4 := by kernel_rfl
  c5 := by kernel_rfl
  c9 := by kernel_rfl
  c20 := by kernel_rfl
  c37 := by kernel_rfl
  c46 := by kernel_rfl
  c51 := by kernel_rfl
  c53 := by kernel_rfl
  c75 := by kernel_rfl
  c80 := by kernel_rfl
  c127 := by kernel_rfl
  c143 := by kernel_rfl
  c145 := by kernel_rfl
  c167 := by kernel_rfl
  c168 := by kernel_rfl
  c171 := by kernel_rfl
  c173 := by kernel_rfl
  c210 := by kernel_rfl
  c212 := by kernel_rfl
  c213 := by kernel_rfl
  c232 := by kernel_rfl
  c233 := by kernel_rfl }
open Go.RowKit in
/-- strconv.toError, at the inner package's ErrSyntax: 'syntaxError(fn, s)' as an error: A *NumError IN A NEW BLOCK. (LAID: no walk: one application.) -/
theorem Tryz.strconv_toError_syntax (fn s : ByteArray) (base bits : Int) (ev : Value) (w : World) (hlim : s.size ≤ 281474976710656) (hv : w.cell? ⟨2, 0, none⟩ = some ev) (hev : ev = .nilIface ∨ ∃ te pe, ev = .iface te pe) :
    Calls Tryz.prog 52 #[.string fn, .string s, .int .i64 base, .int .i64 bits, .iface 117 (.int .i64 2)] w fun e w' => ∃ N, e = .returned (.iface 120 (.pointer (some ⟨N, 0, none⟩))) ∧ w.heap.size ≤ N ∧ w'.heap[N]? = some (.cells #[.string fn, .string s, ev] 149 (0, 0)) ∧ Below w.heap.size w w' := Any.strconv_toError_syntax Tryz.laysC245 fn s base bits ev w hlim hv hev
def Tryz.lays321_ren : Go.Shelf.Ren := ⟨fun | 321 => 87 | n => n, fun | 5 => 5 | n => n, fun | n => n⟩
theorem Tryz.lays321 : Go.Proofs.Lays.n321 Tryz.prog Tryz.lays321_ren := {
  mixed := by kernel_rfl
  f321 := Tryz.func87.trans (congrArg some (by kernel_rfl))
  t5 := Tryz.underlying5
  a5 := Tryz.isAgg5
  z5 := Tryz.sizeOf5
  v5 := Tryz.zeroValue5 }
open Go.RowKit in
/-- internal/strconv.lower: 'c | ('x' - 'X')': the bit 32 set. The world is as it was. (LAID: no walk: one application.) -/
theorem Tryz.internal_strconv_lower (c : Int) (w : World) :
    Calls Tryz.prog 87 #[.int .u8 c] w fun e w' => e = .returned (.int .u8 (bits .or .u8 c 32)) ∧ w' = w := Any.internal_strconv_lower Tryz.lays321 c w
def Tryz.lays287_ren : Go.Shelf.Ren := ⟨fun | 287 => 74 | 321 => 87 | 322 => 104 | n => n, fun | 9 => 9 | 3 => 3 | 53 => 81 | 75 => 39 | 4 => 4 | 167 => 117 | 5 => 5 | 46 => 85 | 37 => 50 | 0 => 0 | 21 => 21 | 80 => 195 | n => n, fun | n => n⟩
theorem Tryz.lays287 : Go.Proofs.Lays.n287 Tryz.prog Tryz.lays287_ren := {
  mixed := by kernel_rfl
  f287 := Tryz.func74.trans (congrArg some (by kernel_rfl))
  f321 := Tryz.func87.trans (congrArg some (by kernel_rfl))
  f322 := Tryz.func104.trans (congrArg some (by kernel_rfl))
  t0 := Tryz.underlying0
  a0 := Tryz.isAgg0
  z0 := Tryz.sizeOf0
  v0 := Tryz.zeroValue0
  t3 := Tryz.underlying3
  a3 := Tryz.isAgg3
  z3 := Tryz.sizeOf3
  v3 := Tryz.zeroValue3
  t4 := Tryz.underlying4
  a4 := Tryz.isAgg4
  z4 := Tryz.sizeOf4
  v4 := Tryz.zeroValue4
  t5 := Tryz.underlying5
  a5 := Tryz.isAgg5
  z5 := Tryz.sizeOf5
  v5 := Tryz.zeroValue5
  t9 := Tryz.underlying9
  a9 := Tryz.isAgg9
  z9 := Tryz.sizeOf9
  v9 := Tryz.zeroValue9
  t21 := Tryz.underlying21
  a21 := Tryz.isAgg21
  z21 := Tryz.sizeOf21
  v21 := Tryz.zeroValue21
  t37 := Tryz.underlying50
  a37 := Tryz.isAgg50
  z37 := Tryz.sizeOf50
  v37 := Tryz.zeroValue50
  t46 := Tryz.underlying85
  a46 := Tryz.isAgg85
  z46 := Tryz.sizeOf85
  v46 := Tryz.zeroValue85
  t53 := Tryz.underlying81
  a53 := Tryz.isAgg81
  z53 := Tryz.sizeOf81
  v53 := Tryz.zeroValue81
  t75 := Tryz.underlying39
  a75 := Tryz.isAgg39
  z75 := Tryz.sizeOf39
  v75 := Tryz.zeroValue39
  t167 := Tryz.underlying117
  a167 := Tryz.isAgg117
  z167 := Tryz.sizeOf117
  v167 := Tryz.zeroValue117 }
open Go.RowKit in
/-- internal/strconv.ParseUint(s, 10, 0), s NOT EMPTY: 'Lib.parseUint10 0' OF ITS BYTES: the number; or (0, ErrSyntax); or (the greatest uint64, ErrRange). The world behind the call: the one new row that '[]byte(s)' lays. (LAID: no walk: one application.) -/
theorem Tryz.internal_strconv_ParseUint_10 (t : ByteArray) (hne : t.size ≠ 0) (hmax : t.size ≤ 9223372036854775806) (w : World) :
    Calls Tryz.prog 74 #[.string t, .int .i64 10, .int .i64 0] w fun e w' => e = .returned (Lib.uintTuple 117 (Lib.parseUint10 0 t.data.toList)) ∧ w' = Lib.bytesWorld w 5 t := Any.internal_strconv_ParseUint_10 Tryz.lays287 t hne hmax w
open Go.RowKit in
/-- internal/strconv.ParseUint(s, 10, 0): 'Lib.parseMag' OF ITS BYTES. The world: as it was (the empty string), or with the one new row that '[]byte(s)' lays. (LAID: no walk: one application.) -/
theorem Tryz.internal_strconv_ParseUint_10_any (t : ByteArray) (hmax : t.size ≤ 9223372036854775806) (w : World) :
    Calls Tryz.prog 74 #[.string t, .int .i64 10, .int .i64 0] w fun e w' => e = .returned (Lib.uintTuple 117 (Lib.parseMag t.data.toList)) ∧ (w' = w ∨ w' = Lib.bytesWorld w 5 t) := Any.internal_strconv_ParseUint_10_any Tryz.lays287 t hmax w
def Tryz.laysC247_ren : Go.Shelf.Ren := ⟨fun | 247 => 51 | 287 => 74 | 321 => 87 | 322 => 104 | n => n, fun | 9 => 9 | 3 => 3 | 2 => 2 | 75 => 39 | 4 => 4 | 167 => 117 | 5 => 5 | 53 => 81 | 175 => 118 | 46 => 85 | 37 => 50 | 0 => 0 | 21 => 21 | 80 => 195 | n => n, fun | n => n⟩
theorem Tryz.laysC247 : Go.Proofs.LaysC.n247 Tryz.prog Tryz.laysC247_ren := {
  mixed := by kernel_rfl
  f247 := Tryz.func51.trans (congrArg some (by kernel_rfl))
  f287 := Tryz.func74.trans (congrArg some (by kernel_rfl))
  f321 := Tryz.func87.trans (congrArg some (by kernel_rfl))
  f322 := Tryz.func104.trans (congrArg some (by kernel_rfl))
  t0 := Tryz.underlying0
  a0 := Tryz.isAgg0
  z0 := Tryz.sizeOf0
  v0 := Tryz.zeroValue0
  t2 := Tryz.underlying2
  a2 := Tryz.isAgg2
  z2 := Tryz.sizeOf2
  v2 := Tryz.zeroValue2
  t3 := Tryz.underlying3
  a3 := Tryz.isAgg3
  z3 := Tryz.sizeOf3
  v3 := Tryz.zeroValue3
  t4 := Tryz.underlying4
  a4 := Tryz.isAgg4
  z4 := Tryz.sizeOf4
  v4 := Tryz.zeroValue4
  t5 := Tryz.underlying5
  a5 := Tryz.isAgg5
  z5 := Tryz.sizeOf5
  v5 := Tryz.zeroValue5
  t9 := Tryz.underlying9
  a9 := Tryz.isAgg9
  z9 := Tryz.sizeOf9
  v9 := Tryz.zeroValue9
  t21 := Tryz.underlying21
  a21 := Tryz.isAgg21
  z21 := Tryz.sizeOf21
  v21 := Tryz.zeroValue21
  t37 := Tryz.underlying50
  a37 := Tryz.isAgg50
  z37 := Tryz.sizeOf50
  v37 := Tryz.zeroValue50
  t46 := Tryz.underlying85
  a46 := Tryz.isAgg85
  z46 := Tryz.sizeOf85
  v46 := Tryz.zeroValue85
  t53 := Tryz.underlying81
  a53 := Tryz.isAgg81
  z53 := Tryz.sizeOf81
  v53 := Tryz.zeroValue81
  t75 := Tryz.underlying39
  a75 := Tryz.isAgg39
  z75 := Tryz.sizeOf39
  v75 := Tryz.zeroValue39
  t167 := Tryz.underlying117
  a167 := Tryz.isAgg117
  z167 := Tryz.sizeOf117
  v167 := Tryz.zeroValue117
  t175 := Tryz.underlying118
  a175 := Tryz.isAgg118
  z175 := Tryz.sizeOf118
  v175 := Tryz.zeroValue118
  t80 := Tryz.underlying195
  a80 := Tryz.isAgg195
  z80 := Tryz.sizeOf195
  v80 := Tryz.zeroValue195
  i0 := by kernel_rfl
  i2 := by kernel_rfl
  i3 := by kernel_rfl
  i4 := by kernel_rfl
  i5 := by kernel_rfl
  i9 := by kernel_rfl
  i21 := by kernel_rfl
  i37 := by kernel_rfl
  i46 := by kernel_rfl
  i53 := by kernel_rfl
  i75 := by kernel_rfl
  i80 := by kernel_rfl
  i167 := by kernel_rfl
  i175 := by kernel_rfl
  c0 := by kernel_rfl
  c2 := by kernel_rfl
  c3 := by kernel_rfl
  c4 := by kernel_rfl
  c5 := by kernel_rfl
  c9 := by kernel_rfl
  c21 := by kernel_rfl
  c37 := by kernel_rfl
  c46 := by kernel_rfl
  c53 := by kernel_rfl
  c75 := by kernel_rfl
  c80 := by kernel_rfl
  c167 := by kernel_rfl
  c175 := by kernel_rfl }
open Go.RowKit in
/-- internal/strconv.ParseInt(s, 10, 0), s NOT EMPTY: 'Lib.atoiAll' OF ITS BYTES: (the number, nil); (0, ErrSyntax); (the greatest or the least int64 by the sign, ErrRange). The world: as it was, or with the one new row that '[]byte(..)' lays. (LAID: no walk: one application.) -/
theorem Tryz.internal_strconv_ParseInt_10 (s : ByteArray) (hne : s.size ≠ 0) (hmax : s.size ≤ 9223372036854775806) (w : World) :
    Calls Tryz.prog 51 #[.string s, .int .i64 10, .int .i64 0] w fun e w' => e = .returned (Lib.intTuple 117 (Lib.atoiSat s.data.toList) (Lib.atoiAll s.data.toList)) ∧ (w' = w ∨ ∃ t, w' = Lib.bytesWorld w 5 t) := Any.internal_strconv_ParseInt_10 Tryz.laysC247 s hne hmax w
def Tryz.laysM280_ren : Go.Shelf.Ren := ⟨fun | 280 => 76 | 316 => 105 | n => n, fun | 9 => 9 | 168 => 120 | 75 => 39 | 210 => 149 | 3 => 3 | 4 => 4 | 37 => 50 | 0 => 0 | 127 => 166 | 80 => 195 | 5 => 5 | n => n, fun | 16 => 3 | n => n⟩
theorem Tryz.laysM280 : Go.Proofs.LaysM.n280 Tryz.prog Tryz.laysM280_ren := {
  mixed := by kernel_rfl
  f280 := Tryz.func76.trans (congrArg some (by kernel_rfl))
  f316 := Tryz.func105.trans (congrArg some (by kernel_rfl))
  t0 := Tryz.underlying0
  a0 := Tryz.isAgg0
  z0 := Tryz.sizeOf0
  v0 := Tryz.zeroValue0
  t3 := Tryz.underlying3
  a3 := Tryz.isAgg3
  z3 := Tryz.sizeOf3
  v3 := Tryz.zeroValue3
  t4 := Tryz.underlying4
  a4 := Tryz.isAgg4
  z4 := Tryz.sizeOf4
  v4 := Tryz.zeroValue4
  t9 := Tryz.underlying9
  a9 := Tryz.isAgg9
  z9 := Tryz.sizeOf9
  v9 := Tryz.zeroValue9
  t37 := Tryz.underlying50
  a37 := Tryz.isAgg50
  z37 := Tryz.sizeOf50
  v37 := Tryz.zeroValue50
  t75 := Tryz.underlying39
  a75 := Tryz.isAgg39
  z75 := Tryz.sizeOf39
  v75 := Tryz.zeroValue39
  t127 := Tryz.underlying166
  a127 := Tryz.isAgg166
  z127 := Tryz.sizeOf166
  v127 := Tryz.zeroValue166
  t168 := Tryz.underlying120
  a168 := Tryz.isAgg120
  z168 := Tryz.sizeOf120
  v168 := Tryz.zeroValue120
  t210 := Tryz.underlying149
  a210 := Tryz.isAgg149
  z210 := Tryz.sizeOf149
  v210 := Tryz.zeroValue149
  g16 := by kernel_rfl
  t5 := Tryz.underlying5
  a5 := Tryz.isAgg5
  z5 := Tryz.sizeOf5
  v5 := Tryz.zeroValue5
  t80 := Tryz.underlying195
  a80 := Tryz.isAgg195
  z80 := Tryz.sizeOf195
  v80 := Tryz.zeroValue195
  i0 := by kernel_rfl
  i3 := by kernel_rfl
  i4 := by kernel_rfl
  i5 := by kernel_rfl
  i9 := by kernel_rfl
  i37 := by kernel_rfl
  i75 := by kernel_rfl
  i80 := by kernel_rfl
  i127 := by kernel_rfl
  i168 := by kernel_rfl
  i210 := by kernel_rfl
  m16 := by kernel_rfl }
open Go.RowKit in
/-- strconv.rangeError: '&NumError{fn, stringslite.Clone(str), ErrRange}': A POINTER TO A NEW BLOCK that holds fn, str's bytes, and what the variable ErrRange holds. Of what was there nothing has turned. (LAID: no walk: one application.) -/
theorem Tryz.strconv_rangeError (fn s : ByteArray) (ev : Value) (w : World) (hlim : s.size ≤ 281474976710656) (hv : w.cell? ⟨3, 0, none⟩ = some ev) (hev : ev = .nilIface ∨ ∃ te pe, ev = .iface te pe) :
    Calls Tryz.prog 76 #[.string fn, .string s] w fun e w' => ∃ N, e = .returned (.pointer (some ⟨N, 0, none⟩)) ∧ w.heap.size ≤ N ∧ w'.heap[N]? = some (.cells #[.string fn, .string s, ev] 149 (0, 0)) ∧ Below w.heap.size w w' := Any.strconv_rangeError Tryz.laysM280 fn s ev w hlim hv hev
open Go.RowKit in
/-- strconv.toError, at the inner package's ErrRange: 'rangeError(fn, s)' as an error: A *NumError IN A NEW BLOCK. (LAID: no walk: one application.) -/
theorem Tryz.strconv_toError_range (fn s : ByteArray) (base bits : Int) (ev : Value) (w : World) (hlim : s.size ≤ 281474976710656) (hv : w.cell? ⟨3, 0, none⟩ = some ev) (hev : ev = .nilIface ∨ ∃ te pe, ev = .iface te pe) :
    Calls Tryz.prog 52 #[.string fn, .string s, .int .i64 base, .int .i64 bits, .iface 117 (.int .i64 1)] w fun e w' => ∃ N, e = .returned (.iface 120 (.pointer (some ⟨N, 0, none⟩))) ∧ w.heap.size ≤ N ∧ w'.heap[N]? = some (.cells #[.string fn, .string s, ev] 149 (0, 0)) ∧ Below w.heap.size w w' := Any.strconv_toError_range Tryz.laysC245 fn s base bits ev w hlim hv hev
open Go.RowKit in
/-- internal/strconv.ParseUint("", base, bitSize): (0, ErrSyntax): the first test of the text. The world is as it was. (LAID: no walk: one application.) -/
theorem Tryz.internal_strconv_ParseUint_empty (base bits : Int) (w : World) :
    Calls Tryz.prog 74 #[.string ⟨#[]⟩, .int .i64 base, .int .i64 bits] w fun e w' => e = .returned (.tuple #[.int .u64 0, .iface 117 (.int .i64 2)]) ∧ w' = w := Any.internal_strconv_ParseUint_empty Tryz.lays287 base bits w
open Go.RowKit in
/-- internal/strconv.ParseUint(s, 10, 64), s NOT EMPTY: 'Lib.parseUint10 0' OF ITS BYTES: the number; or (0, ErrSyntax); or (the greatest uint64, ErrRange). The world behind the call: the one new row that '[]byte(s)' lays. (LAID: no walk: one application.) -/
theorem Tryz.internal_strconv_ParseUint_10_b64 (t : ByteArray) (hne : t.size ≠ 0) (hmax : t.size ≤ 9223372036854775806) (w : World) :
    Calls Tryz.prog 74 #[.string t, .int .i64 10, .int .i64 64] w fun e w' => e = .returned (Lib.uintTuple 117 (Lib.parseUint10 0 t.data.toList)) ∧ w' = Lib.bytesWorld w 5 t := Any.internal_strconv_ParseUint_10_b64 Tryz.lays287 t hne hmax w
open Go.RowKit in
/-- internal/strconv.ParseUint(s, 10, 32), s NOT EMPTY: 'Lib.parseUintM 4294967295 0' OF ITS BYTES: the number; or (0, ErrSyntax); or (the greatest uint32, ErrRange). The world behind the call: the one new row that '[]byte(s)' lays. (LAID: no walk: one application.) -/
theorem Tryz.internal_strconv_ParseUint_10_b32 (t : ByteArray) (hne : t.size ≠ 0) (hmax : t.size ≤ 9223372036854775806) (w : World) :
    Calls Tryz.prog 74 #[.string t, .int .i64 10, .int .i64 32] w fun e w' => e = .returned (Lib.uintTupleM 117 4294967295 (Lib.parseUintM 4294967295 0 t.data.toList)) ∧ w' = Lib.bytesWorld w 5 t := Any.internal_strconv_ParseUint_10_b32 Tryz.lays287 t hne hmax w
open Go.RowKit in
/-- internal/strconv.ParseUint(s, 10, 16), s NOT EMPTY: 'Lib.parseUintM 65535 0' OF ITS BYTES: the number; or (0, ErrSyntax); or (the greatest uint16, ErrRange). The world behind the call: the one new row that '[]byte(s)' lays. (LAID: no walk: one application.) -/
theorem Tryz.internal_strconv_ParseUint_10_b16 (t : ByteArray) (hne : t.size ≠ 0) (hmax : t.size ≤ 9223372036854775806) (w : World) :
    Calls Tryz.prog 74 #[.string t, .int .i64 10, .int .i64 16] w fun e w' => e = .returned (Lib.uintTupleM 117 65535 (Lib.parseUintM 65535 0 t.data.toList)) ∧ w' = Lib.bytesWorld w 5 t := Any.internal_strconv_ParseUint_10_b16 Tryz.lays287 t hne hmax w
open Go.RowKit in
/-- internal/strconv.ParseUint(s, 10, 8), s NOT EMPTY: 'Lib.parseUintM 255 0' OF ITS BYTES: the number; or (0, ErrSyntax); or (the greatest uint8, ErrRange). The world behind the call: the one new row that '[]byte(s)' lays. (LAID: no walk: one application.) -/
theorem Tryz.internal_strconv_ParseUint_10_b8 (t : ByteArray) (hne : t.size ≠ 0) (hmax : t.size ≤ 9223372036854775806) (w : World) :
    Calls Tryz.prog 74 #[.string t, .int .i64 10, .int .i64 8] w fun e w' => e = .returned (Lib.uintTupleM 117 255 (Lib.parseUintM 255 0 t.data.toList)) ∧ w' = Lib.bytesWorld w 5 t := Any.internal_strconv_ParseUint_10_b8 Tryz.lays287 t hne hmax w
open Go.RowKit in
/-- internal/strconv.ParseUint(s, 10, 0): 'Lib.parseUintB 64' OF ITS BYTES. The world: as it was (the empty string), or with the one new row that '[]byte(s)' lays. (LAID: no walk: one application.) -/
theorem Tryz.internal_strconv_ParseUint_10_at0 (t : ByteArray) (hmax : t.size ≤ 9223372036854775806) (w : World) :
    Calls Tryz.prog 74 #[.string t, .int .i64 10, .int .i64 0] w fun e w' => e = .returned (Lib.uintTupleM 117 18446744073709551615 (Lib.parseUintB 64 t.data.toList)) ∧ (w' = w ∨ w' = Lib.bytesWorld w 5 t) := Any.internal_strconv_ParseUint_10_at0 Tryz.lays287 t hmax w
open Go.RowKit in
/-- internal/strconv.ParseUint(s, 10, 64): 'Lib.parseUintB 64' OF ITS BYTES. The world: as it was (the empty string), or with the one new row that '[]byte(s)' lays. (LAID: no walk: one application.) -/
theorem Tryz.internal_strconv_ParseUint_10_at64 (t : ByteArray) (hmax : t.size ≤ 9223372036854775806) (w : World) :
    Calls Tryz.prog 74 #[.string t, .int .i64 10, .int .i64 64] w fun e w' => e = .returned (Lib.uintTupleM 117 18446744073709551615 (Lib.parseUintB 64 t.data.toList)) ∧ (w' = w ∨ w' = Lib.bytesWorld w 5 t) := Any.internal_strconv_ParseUint_10_at64 Tryz.lays287 t hmax w
open Go.RowKit in
/-- internal/strconv.ParseUint(s, 10, 32): 'Lib.parseUintB 32' OF ITS BYTES. The world: as it was (the empty string), or with the one new row that '[]byte(s)' lays. (LAID: no walk: one application.) -/
theorem Tryz.internal_strconv_ParseUint_10_at32 (t : ByteArray) (hmax : t.size ≤ 9223372036854775806) (w : World) :
    Calls Tryz.prog 74 #[.string t, .int .i64 10, .int .i64 32] w fun e w' => e = .returned (Lib.uintTupleM 117 4294967295 (Lib.parseUintB 32 t.data.toList)) ∧ (w' = w ∨ w' = Lib.bytesWorld w 5 t) := Any.internal_strconv_ParseUint_10_at32 Tryz.lays287 t hmax w
open Go.RowKit in
/-- internal/strconv.ParseUint(s, 10, 16): 'Lib.parseUintB 16' OF ITS BYTES. The world: as it was (the empty string), or with the one new row that '[]byte(s)' lays. (LAID: no walk: one application.) -/
theorem Tryz.internal_strconv_ParseUint_10_at16 (t : ByteArray) (hmax : t.size ≤ 9223372036854775806) (w : World) :
    Calls Tryz.prog 74 #[.string t, .int .i64 10, .int .i64 16] w fun e w' => e = .returned (Lib.uintTupleM 117 65535 (Lib.parseUintB 16 t.data.toList)) ∧ (w' = w ∨ w' = Lib.bytesWorld w 5 t) := Any.internal_strconv_ParseUint_10_at16 Tryz.lays287 t hmax w
open Go.RowKit in
/-- internal/strconv.ParseUint(s, 10, 8): 'Lib.parseUintB 8' OF ITS BYTES. The world: as it was (the empty string), or with the one new row that '[]byte(s)' lays. (LAID: no walk: one application.) -/
theorem Tryz.internal_strconv_ParseUint_10_at8 (t : ByteArray) (hmax : t.size ≤ 9223372036854775806) (w : World) :
    Calls Tryz.prog 74 #[.string t, .int .i64 10, .int .i64 8] w fun e w' => e = .returned (Lib.uintTupleM 117 255 (Lib.parseUintB 8 t.data.toList)) ∧ (w' = w ∨ w' = Lib.bytesWorld w 5 t) := Any.internal_strconv_ParseUint_10_at8 Tryz.lays287 t hmax w
open Go.RowKit in
/-- internal/strconv.ParseInt(s, 10, 64), s NOT EMPTY: 'Lib.parseIntB 64' OF ITS BYTES: (the number, nil); (0, ErrSyntax); (the greatest or the least int64 by the sign, ErrRange). The world: as it was, or with the one new row that '[]byte(..)' lays. (LAID: no walk: one application.) -/
theorem Tryz.internal_strconv_ParseInt_10_at64 (s : ByteArray) (hne : s.size ≠ 0) (hmax : s.size ≤ 9223372036854775806) (w : World) :
    Calls Tryz.prog 51 #[.string s, .int .i64 10, .int .i64 64] w fun e w' => e = .returned (Lib.intTuple 117 (Lib.intSat 64 s.data.toList) (Lib.parseIntB 64 s.data.toList)) ∧ (w' = w ∨ ∃ t, w' = Lib.bytesWorld w 5 t) := Any.internal_strconv_ParseInt_10_at64 Tryz.laysC247 s hne hmax w
open Go.RowKit in
/-- internal/strconv.ParseInt(s, 10, 32), s NOT EMPTY: 'Lib.parseIntB 32' OF ITS BYTES: (the number, nil); (0, ErrSyntax); (the greatest or the least int32 by the sign, ErrRange). The world: as it was, or with the one new row that '[]byte(..)' lays. (LAID: no walk: one application.) -/
theorem Tryz.internal_strconv_ParseInt_10_at32 (s : ByteArray) (hne : s.size ≠ 0) (hmax : s.size ≤ 9223372036854775806) (w : World) :
    Calls Tryz.prog 51 #[.string s, .int .i64 10, .int .i64 32] w fun e w' => e = .returned (Lib.intTuple 117 (Lib.intSat 32 s.data.toList) (Lib.parseIntB 32 s.data.toList)) ∧ (w' = w ∨ ∃ t, w' = Lib.bytesWorld w 5 t) := Any.internal_strconv_ParseInt_10_at32 Tryz.laysC247 s hne hmax w
open Go.RowKit in
/-- internal/strconv.ParseInt(s, 10, 16), s NOT EMPTY: 'Lib.parseIntB 16' OF ITS BYTES: (the number, nil); (0, ErrSyntax); (the greatest or the least int16 by the sign, ErrRange). The world: as it was, or with the one new row that '[]byte(..)' lays. (LAID: no walk: one application.) -/
theorem Tryz.internal_strconv_ParseInt_10_at16 (s : ByteArray) (hne : s.size ≠ 0) (hmax : s.size ≤ 9223372036854775806) (w : World) :
    Calls Tryz.prog 51 #[.string s, .int .i64 10, .int .i64 16] w fun e w' => e = .returned (Lib.intTuple 117 (Lib.intSat 16 s.data.toList) (Lib.parseIntB 16 s.data.toList)) ∧ (w' = w ∨ ∃ t, w' = Lib.bytesWorld w 5 t) := Any.internal_strconv_ParseInt_10_at16 Tryz.laysC247 s hne hmax w
open Go.RowKit in
/-- internal/strconv.ParseInt(s, 10, 8), s NOT EMPTY: 'Lib.parseIntB 8' OF ITS BYTES: (the number, nil); (0, ErrSyntax); (the greatest or the least int8 by the sign, ErrRange). The world: as it was, or with the one new row that '[]byte(..)' lays. (LAID: no walk: one application.) -/
theorem Tryz.internal_strconv_ParseInt_10_at8 (s : ByteArray) (hne : s.size ≠ 0) (hmax : s.size ≤ 9223372036854775806) (w : World) :
    Calls Tryz.prog 51 #[.string s, .int .i64 10, .int .i64 8] w fun e w' => e = .returned (Lib.intTuple 117 (Lib.intSat 8 s.data.toList) (Lib.parseIntB 8 s.data.toList)) ∧ (w' = w ∨ ∃ t, w' = Lib.bytesWorld w 5 t) := Any.internal_strconv_ParseInt_10_at8 Tryz.laysC247 s hne hmax w
open Go.RowKit in
/-- internal/strconv.ParseInt(s, 10, 0), AT EVERY STRING: 'Lib.parseIntB 64' OF ITS BYTES. (LAID: no walk: one application.) -/
theorem Tryz.internal_strconv_ParseInt_10_all0 (s : ByteArray) (hmax : s.size ≤ 9223372036854775806) (w : World) :
    Calls Tryz.prog 51 #[.string s, .int .i64 10, .int .i64 0] w fun e w' => e = .returned (Lib.intTuple 117 (Lib.intSat 64 s.data.toList) (Lib.parseIntB 64 s.data.toList)) ∧ (w' = w ∨ ∃ t, w' = Lib.bytesWorld w 5 t) := Any.internal_strconv_ParseInt_10_all0 Tryz.laysC247 s hmax w
open Go.RowKit in
/-- internal/strconv.ParseInt(s, 10, 64), AT EVERY STRING: 'Lib.parseIntB 64' OF ITS BYTES. (LAID: no walk: one application.) -/
theorem Tryz.internal_strconv_ParseInt_10_all64 (s : ByteArray) (hmax : s.size ≤ 9223372036854775806) (w : World) :
    Calls Tryz.prog 51 #[.string s, .int .i64 10, .int .i64 64] w fun e w' => e = .returned (Lib.intTuple 117 (Lib.intSat 64 s.data.toList) (Lib.parseIntB 64 s.data.toList)) ∧ (w' = w ∨ ∃ t, w' = Lib.bytesWorld w 5 t) := Any.internal_strconv_ParseInt_10_all64 Tryz.laysC247 s hmax w
open Go.RowKit in
/-- internal/strconv.ParseInt(s, 10, 32), AT EVERY STRING: 'Lib.parseIntB 32' OF ITS BYTES. (LAID: no walk: one application.) -/
theorem Tryz.internal_strconv_ParseInt_10_all32 (s : ByteArray) (hmax : s.size ≤ 9223372036854775806) (w : World) :
    Calls Tryz.prog 51 #[.string s, .int .i64 10, .int .i64 32] w fun e w' => e = .returned (Lib.intTuple 117 (Lib.intSat 32 s.data.toList) (Lib.parseIntB 32 s.data.toList)) ∧ (w' = w ∨ ∃ t, w' = Lib.bytesWorld w 5 t) := Any.internal_strconv_ParseInt_10_all32 Tryz.laysC247 s hmax w
open Go.RowKit in
/-- internal/strconv.ParseInt(s, 10, 16), AT EVERY STRING: 'Lib.parseIntB 16' OF ITS BYTES. (LAID: no walk: one application.) -/
theorem Tryz.internal_strconv_ParseInt_10_all16 (s : ByteArray) (hmax : s.size ≤ 9223372036854775806) (w : World) :
    Calls Tryz.prog 51 #[.string s, .int .i64 10, .int .i64 16] w fun e w' => e = .returned (Lib.intTuple 117 (Lib.intSat 16 s.data.toList) (Lib.parseIntB 16 s.data.toList)) ∧ (w' = w ∨ ∃ t, w' = Lib.bytesWorld w 5 t) := Any.internal_strconv_ParseInt_10_all16 Tryz.laysC247 s hmax w
open Go.RowKit in
/-- internal/strconv.ParseInt(s, 10, 8), AT EVERY STRING: 'Lib.parseIntB 8' OF ITS BYTES. (LAID: no walk: one application.) -/
theorem Tryz.internal_strconv_ParseInt_10_all8 (s : ByteArray) (hmax : s.size ≤ 9223372036854775806) (w : World) :
    Calls Tryz.prog 51 #[.string s, .int .i64 10, .int .i64 8] w fun e w' => e = .returned (Lib.intTuple 117 (Lib.intSat 8 s.data.toList) (Lib.parseIntB 8 s.data.toList)) ∧ (w' = w ∨ ∃ t, w' = Lib.bytesWorld w 5 t) := Any.internal_strconv_ParseInt_10_all8 Tryz.laysC247 s hmax w
def Tryz.laysC174_ren : Go.Shelf.Ren := ⟨fun | 174 => 42 | 247 => 51 | 245 => 52 | 287 => 74 | 279 => 75 | 280 => 76 | 281 => 77 | 282 => 78 | 321 => 87 | 322 => 104 | 316 => 105 | 171 => 106 | 205 => 29 | 243 => 115 | 246 => 128 | 283 => 55 | 284 => 56 | 285 => 57 | 286 => 58 | 129 => 64 | 317 => 67 | 318 => 84 | 319 => 85 | 320 => 86 | 337 => 109 | 338 => 110 | n => n, fun | 9 => 9 | 3 => 3 | 2 => 2 | 75 => 39 | 85 => 74 | 4 => 4 | 167 => 117 | 5 => 5 | 53 => 81 | 175 => 118 | 46 => 85 | 168 => 120 | 37 => 50 | 0 => 0 | 210 => 149 | 21 => 21 | 127 => 166 | 145 => 73 | 143 => 71 | 171 => 93 | 173 => 96 | 212 => 129 | 51 => 98 | 20 => 20 | 213 => 130 | 232 => 104 | 233 => 187 | 80 => 195 | n => n, fun | 15 => 2 | 16 => 3 | 17 => 1 | 18 => 9 | 19 => 10 | n => n⟩
theorem Tryz.laysC174 : Go.Proofs.LaysC.n174 Tryz.prog Tryz.laysC174_ren := {
  mixed := by kernel_rfl
  f129 := Tryz.func64.trans (congrArg some (by kernel_rfl))
  f171 := Tryz.func106.trans (congrArg some (by kernel_rfl))
  f174 := Tryz.func42.trans (congrArg some (by kernel_rfl))
  f205 := Tryz.func29.trans (congrArg some (by kernel_rfl))
  f243 := Tryz.func115.trans (congrArg some (by kernel_rfl))
  f245 := Tryz.func52.trans (congrArg some (by kernel_rfl))
  f246 := Tryz.func128.trans (congrArg some (by kernel_rfl))
  f247 := Tryz.func51.trans (congrArg some (by kernel_rfl))
  f279 := Tryz.func75.trans (congrArg some (by kernel_rfl))
  f280 := Tryz.func76.trans (congrArg some (by kernel_rfl))
  f281 := Tryz.func77.trans (congrArg some (by kernel_rfl))
  f282 := Tryz.func78.trans (congrArg some (by kernel_rfl))
  f283 := Tryz.func55.trans (congrArg some (by kernel_rfl))
  f284 := Tryz.func56.trans (congrArg some (by kernel_rfl))
  f285 := Tryz.func57.trans (congrArg some (by kernel_rfl))
  f286 := Tryz.func58.trans (congrArg some (by kernel_rfl))
  f287 := Tryz.func74.trans (congrArg some (by kernel_rfl))
  f316 := Tryz.func105.trans (congrArg some (by kernel_rfl))
  f317 := Tryz.func67.trans (congrArg some (by kernel_rfl))
  f318 := Tryz.func84.trans (congrArg some (by kernel_rfl))
  f319 := Tryz.func85.trans (congrArg some (by kernel_rfl))
  f320 := Tryz.func86.trans (congrArg some (by kernel_rfl))
  f321 := Tryz.func87.trans (congrArg some (by kernel_rfl))
  f322 := Tryz.func104.trans (congrArg some (by kernel_rfl))
  f337 := Tryz.func109.trans (congrArg some (by kernel_rfl))
  f338 := Tryz.func110.trans (congrArg some (by kernel_rfl))
  t0 := Tryz.underlying0
  a0 := Tryz.isAgg0
  z0 := Tryz.sizeOf0
  v0 := Tryz.zeroValue0
  t2 := Tryz.underlying2
  a2 := Tryz.isAgg2
  z2 := Tryz.sizeOf2
  v2 := Tryz.zeroValue2
  t3 := Tryz.underlying3
  a3 := Tryz.isAgg3
  z3 := Tryz.sizeOf3
  v3 := Tryz.zeroValue3
  t4 := Tryz.underlying4
  a4 := Tryz.isAgg4
  z4 := Tryz.sizeOf4
  v4 := Tryz.zeroValue4
  t5 := Tryz.underlying5
  a5 := Tryz.isAgg5
  z5 := Tryz.sizeOf5
  v5 := Tryz.zeroValue5
  t9 := Tryz.underlying9
  a9 := Tryz.isAgg9
  z9 := Tryz.sizeOf9
  v9 := Tryz.zeroValue9
  t20 := Tryz.underlying20
  a20 := Tryz.isAgg20
  z20 := Tryz.sizeOf20
  v20 := Tryz.zeroValue20
  t21 := Tryz.underlying21
  a21 := Tryz.isAgg21
  z21 := Tryz.sizeOf21
  v21 := Tryz.zeroValue21
  t37 := Tryz.underlying50
  a37 := Tryz.isAgg50
  z37 := Tryz.sizeOf50
  v37 := Tryz.zeroValue50
  t46 := Tryz.underlying85
  a46 := Tryz.isAgg85
  z46 := Tryz.sizeOf85
  v46 := Tryz.zeroValue85
  t51 := Tryz.underlying98
  a51 := Tryz.isAgg98
  z51 := Tryz.sizeOf98
  v51 := Tryz.zeroValue98
  t53 := Tryz.underlying81
  a53 := Tryz.isAgg81
  z53 := Tryz.sizeOf81
  v53 := Tryz.zeroValue81
  t75 := Tryz.underlying39
  a75 := Tryz.isAgg39
  z75 := Tryz.sizeOf39
  v75 := Tryz.zeroValue39
  t85 := Tryz.underlying74
  a85 := Tryz.isAgg74
  z85 := Tryz.sizeOf74
  v85 := Tryz.zeroValue74
  t127 := Tryz.underlying166
  a127 := Tryz.isAgg166
  z127 := Tryz.sizeOf166
  v127 := Tryz.zeroValue166
  t143 := Tryz.underlying71
  a143 := Tryz.isAgg71
  z143 := Tryz.sizeOf71
  v143 := Tryz.zeroValue71
  t145 := Tryz.underlying73
  a145 := Tryz.isAgg73
  z145 := Tryz.sizeOf73
  v145 := Tryz.zeroValue73
  t167 := Tryz.underlying117
  a167 := Tryz.isAgg117
  z167 := Tryz.sizeOf117
  v167 := Tryz.zeroValue117
  t168 := Tryz.underlying120
  a168 := Tryz.isAgg120
  z168 := Tryz.sizeOf120
  v168 := Tryz.zeroValue120
  t171 := Tryz.underlying93
  a171 := Tryz.isAgg93
  z171 := Tryz.sizeOf93
  v171 := Tryz.zeroValue93
  t173 := Tryz.underlying96
  a173 := Tryz.isAgg96
  z173 := Tryz.sizeOf96
  v173 := Tryz.zeroValue96
  t175 := Tryz.underlying118
  a175 := Tryz.isAgg118
  z175 := Tryz.sizeOf118
  v175 := Tryz.zeroValue118
  t210 := Tryz.underlying149
  a210 := Tryz.isAgg149
  z210 := Tryz.sizeOf149
  v210 := Tryz.zeroValue149
  t212 := Tryz.underlying129
  a212 := Tryz.isAgg129
  z212 := Tryz.sizeOf129
  v212 := Tryz.zeroValue129
  t213 := Tryz.underlying130
  a213 := Tryz.isAgg130
  z213 := Tryz.sizeOf130
  t232 := Tryz.underlying104
  a232 := Tryz.isAgg104
  z232 := Tryz.sizeOf104
  v232 := Tryz.zeroValue104
  t233 := Tryz.underlying187
  a233 := Tryz.isAgg187
  z233 := Tryz.sizeOf187
  v233 := Tryz.zeroValue187
  g15 := by kernel_rfl
  g16 := by kernel_rfl
  g17 := by kernel_rfl
  g18 := by kernel_rfl
  g19 := by kernel_rfl
  t80 := Tryz.underlying195
  a80 := Tryz.isAgg195
  z80 := Tryz.sizeOf195
  v80 := Tryz.zeroValue195
  i0 := by kernel_rfl
  i2 := by kernel_rfl
  i3 := by kernel_rfl
  i4 := by kernel_rfl
  i5 := by kernel_rfl
  i9 := by kernel_rfl
  i20 := by kernel_rfl
  i21 := by kernel_rfl
  i37 := by kernel_rfl
  i46 := by kernel_rfl
  i51 := by kernel_rfl
  i53 := by kernel_rfl
  i75 := by kernel_rfl
  i80 := by kernel_rfl
  i85 := by kernel_rfl
  i127 := by kernel_rfl
  i143 := by kernel_rfl
  i145 := by kernel_rfl
  i167 := by kernel_rfl
  i168 := by kernel_rfl
  i171 := by kernel_rfl
  i173 := by kernel_rfl
  i175 := by kernel_rfl
  i210 := by kernel_rfl
  i212 := by kernel_rfl
  i232 := by kernel_rfl
  i233 := by kernel_rfl
  m15 := by kernel_rfl
  m16 := by kernel_rfl
  m17 := by kernel_rfl
  m18 := by kernel_rfl
  m19 := by kernel_rfl
  c0 := by kernel_rfl
  c2 := by kernel_rfl
  c3 := by kernel_rfl
  c4 := by kernel_rfl
  c5 := by kernel_rfl
  c9 := by kernel_rfl
  c20 := by kernel_rfl
  c21 := by kernel_rfl
  c37 := by kernel_rfl
  c46 := by kernel_rfl
  c51 := by kernel_rfl
  c53 := by kernel_rfl
  c75 := by kernel_rfl
  c80 := by kernel_rfl
  c85 := by kernel_rfl
  c127 := by kernel_rfl
  c143 := by kernel_rfl
  c145 := by kernel_rfl
  c167 := by kernel_rfl
  c168 := by kernel_rfl
  c171 := by kernel_rfl
  c173 := by kernel_rfl
  c175 := by kernel_rfl
  c210 := by kernel_rfl
  c212 := by kernel_rfl
  c213 := by kernel_rfl
  c232 := by kernel_rfl
  c233 := by kernel_rfl }
open Go.RowKit in
/-- strconv.ParseInt(s, 10, 0), AT EVERY STRING THAT SPELLS AN int64 ('Lib.parseIntB 64 s.data.toList = .ok v'): v, AND NO ERROR. (LAID: no walk: one application.) -/
theorem Tryz.strconv_ParseInt_10_at0_ok (s : ByteArray) (hmax : s.size ≤ 9223372036854775806) (v : Int) (h : Lib.parseIntB 64 s.data.toList = .ok v) (w : World) :
    Calls Tryz.prog 42 #[.string s, .int .i64 10, .int .i64 0] w fun e w' => e = .returned (.tuple #[.int .i64 v, .nilIface]) ∧ (w' = w ∨ ∃ t, w' = Lib.bytesWorld w 5 t) := Any.strconv_ParseInt_10_at0_ok Tryz.laysC174 s hmax v h w
open Go.RowKit in
/-- strconv.ParseInt(s, 10, 0), AT EVERY NUMERAL THAT NO int64 HOLDS: THE GREATEST OR THE LEAST int64, BY THE SIGN ('Lib.intSat 64'), AND AN ERROR THAT IS NOT nil: a *NumError in a new block N: {Func: "ParseInt", Num: s's bytes, Err: what the variable ErrRange holds}. Of what was there nothing has turned. (LAID: no walk: one application.) -/
theorem Tryz.strconv_ParseInt_10_at0_range (s : ByteArray) (hlim : s.size ≤ 281474976710656) (h : Lib.parseIntB 64 s.data.toList = .range) (ev : Value) (w : World) (hv : w.cell? ⟨3, 0, none⟩ = some ev) (hev : ev = .nilIface ∨ ∃ te pe, ev = .iface te pe) :
    Calls Tryz.prog 42 #[.string s, .int .i64 10, .int .i64 0] w fun e w' => ∃ N, e = .returned (.tuple #[.int .i64 (Lib.intSat 64 s.data.toList), .iface 120 (.pointer (some ⟨N, 0, none⟩))]) ∧ w.heap.size ≤ N ∧ w'.heap[N]? = some (.cells #[.string ⟨#[80, 97, 114, 115, 101, 73, 110, 116]⟩, .string s, ev] 149 (0, 0)) ∧ Below w.heap.size w w' := Any.strconv_ParseInt_10_at0_range Tryz.laysC174 s hlim h ev w hv hev
open Go.RowKit in
/-- strconv.ParseInt(s, 10, 64), AT EVERY STRING THAT SPELLS AN int64 ('Lib.parseIntB 64 s.data.toList = .ok v'): v, AND NO ERROR. (LAID: no walk: one application.) -/
theorem Tryz.strconv_ParseInt_10_at64_ok (s : ByteArray) (hmax : s.size ≤ 9223372036854775806) (v : Int) (h : Lib.parseIntB 64 s.data.toList = .ok v) (w : World) :
    Calls Tryz.prog 42 #[.string s, .int .i64 10, .int .i64 64] w fun e w' => e = .returned (.tuple #[.int .i64 v, .nilIface]) ∧ (w' = w ∨ ∃ t, w' = Lib.bytesWorld w 5 t) := Any.strconv_ParseInt_10_at64_ok Tryz.laysC174 s hmax v h w
open Go.RowKit in
/-- strconv.ParseInt(s, 10, 64), AT EVERY NUMERAL THAT NO int64 HOLDS: THE GREATEST OR THE LEAST int64, BY THE SIGN ('Lib.intSat 64'), AND AN ERROR THAT IS NOT nil: a *NumError in a new block N: {Func: "ParseInt", Num: s's bytes, Err: what the variable ErrRange holds}. Of what was there nothing has turned. (LAID: no walk: one application.) -/
theorem Tryz.strconv_ParseInt_10_at64_range (s : ByteArray) (hlim : s.size ≤ 281474976710656) (h : Lib.parseIntB 64 s.data.toList = .range) (ev : Value) (w : World) (hv : w.cell? ⟨3, 0, none⟩ = some ev) (hev : ev = .nilIface ∨ ∃ te pe, ev = .iface te pe) :
    Calls Tryz.prog 42 #[.string s, .int .i64 10, .int .i64 64] w fun e w' => ∃ N, e = .returned (.tuple #[.int .i64 (Lib.intSat 64 s.data.toList), .iface 120 (.pointer (some ⟨N, 0, none⟩))]) ∧ w.heap.size ≤ N ∧ w'.heap[N]? = some (.cells #[.string ⟨#[80, 97, 114, 115, 101, 73, 110, 116]⟩, .string s, ev] 149 (0, 0)) ∧ Below w.heap.size w w' := Any.strconv_ParseInt_10_at64_range Tryz.laysC174 s hlim h ev w hv hev
open Go.RowKit in
/-- strconv.ParseInt(s, 10, 32), AT EVERY STRING THAT SPELLS AN int32 ('Lib.parseIntB 32 s.data.toList = .ok v'): v, AND NO ERROR. (LAID: no walk: one application.) -/
theorem Tryz.strconv_ParseInt_10_at32_ok (s : ByteArray) (hmax : s.size ≤ 9223372036854775806) (v : Int) (h : Lib.parseIntB 32 s.data.toList = .ok v) (w : World) :
    Calls Tryz.prog 42 #[.string s, .int .i64 10, .int .i64 32] w fun e w' => e = .returned (.tuple #[.int .i64 v, .nilIface]) ∧ (w' = w ∨ ∃ t, w' = Lib.bytesWorld w 5 t) := Any.strconv_ParseInt_10_at32_ok Tryz.laysC174 s hmax v h w
open Go.RowKit in
/-- strconv.ParseInt(s, 10, 32), AT EVERY NUMERAL THAT NO int32 HOLDS: THE GREATEST OR THE LEAST int32, BY THE SIGN ('Lib.intSat 32'), AND AN ERROR THAT IS NOT nil: a *NumError in a new block N: {Func: "ParseInt", Num: s's bytes, Err: what the variable ErrRange holds}. Of what was there nothing has turned. (LAID: no walk: one application.) -/
theorem Tryz.strconv_ParseInt_10_at32_range (s : ByteArray) (hlim : s.size ≤ 281474976710656) (h : Lib.parseIntB 32 s.data.toList = .range) (ev : Value) (w : World) (hv : w.cell? ⟨3, 0, none⟩ = some ev) (hev : ev = .nilIface ∨ ∃ te pe, ev = .iface te pe) :
    Calls Tryz.prog 42 #[.string s, .int .i64 10, .int .i64 32] w fun e w' => ∃ N, e = .returned (.tuple #[.int .i64 (Lib.intSat 32 s.data.toList), .iface 120 (.pointer (some ⟨N, 0, none⟩))]) ∧ w.heap.size ≤ N ∧ w'.heap[N]? = some (.cells #[.string ⟨#[80, 97, 114, 115, 101, 73, 110, 116]⟩, .string s, ev] 149 (0, 0)) ∧ Below w.heap.size w w' := Any.strconv_ParseInt_10_at32_range Tryz.laysC174 s hlim h ev w hv hev
open Go.RowKit in
/-- strconv.ParseInt(s, 10, 16), AT EVERY STRING THAT SPELLS AN int16 ('Lib.parseIntB 16 s.data.toList = .ok v'): v, AND NO ERROR. (LAID: no walk: one application.) -/
theorem Tryz.strconv_ParseInt_10_at16_ok (s : ByteArray) (hmax : s.size ≤ 9223372036854775806) (v : Int) (h : Lib.parseIntB 16 s.data.toList = .ok v) (w : World) :
    Calls Tryz.prog 42 #[.string s, .int .i64 10, .int .i64 16] w fun e w' => e = .returned (.tuple #[.int .i64 v, .nilIface]) ∧ (w' = w ∨ ∃ t, w' = Lib.bytesWorld w 5 t) := Any.strconv_ParseInt_10_at16_ok Tryz.laysC174 s hmax v h w
open Go.RowKit in
/-- strconv.ParseInt(s, 10, 16), AT EVERY NUMERAL THAT NO int16 HOLDS: THE GREATEST OR THE LEAST int16, BY THE SIGN ('Lib.intSat 16'), AND AN ERROR THAT IS NOT nil: a *NumError in a new block N: {Func: "ParseInt", Num: s's bytes, Err: what the variable ErrRange holds}. Of what was there nothing has turned. (LAID: no walk: one application.) -/
theorem Tryz.strconv_ParseInt_10_at16_range (s : ByteArray) (hlim : s.size ≤ 281474976710656) (h : Lib.parseIntB 16 s.data.toList = .range) (ev : Value) (w : World) (hv : w.cell? ⟨3, 0, none⟩ = some ev) (hev : ev = .nilIface ∨ ∃ te pe, ev = .iface te pe) :
    Calls Tryz.prog 42 #[.string s, .int .i64 10, .int .i64 16] w fun e w' => ∃ N, e = .returned (.tuple #[.int .i64 (Lib.intSat 16 s.data.toList), .iface 120 (.pointer (some ⟨N, 0, none⟩))]) ∧ w.heap.size ≤ N ∧ w'.heap[N]? = some (.cells #[.string ⟨#[80, 97, 114, 115, 101, 73, 110, 116]⟩, .string s, ev] 149 (0, 0)) ∧ Below w.heap.size w w' := Any.strconv_ParseInt_10_at16_range Tryz.laysC174 s hlim h ev w hv hev
open Go.RowKit in
/-- strconv.ParseInt(s, 10, 8), AT EVERY STRING THAT SPELLS AN int8 ('Lib.parseIntB 8 s.data.toList = .ok v'): v, AND NO ERROR. (LAID: no walk: one application.) -/
theorem Tryz.strconv_ParseInt_10_at8_ok (s : ByteArray) (hmax : s.size ≤ 9223372036854775806) (v : Int) (h : Lib.parseIntB 8 s.data.toList = .ok v) (w : World) :
    Calls Tryz.prog 42 #[.string s, .int .i64 10, .int .i64 8] w fun e w' => e = .returned (.tuple #[.int .i64 v, .nilIface]) ∧ (w' = w ∨ ∃ t, w' = Lib.bytesWorld w 5 t) := Any.strconv_ParseInt_10_at8_ok Tryz.laysC174 s hmax v h w
open Go.RowKit in
/-- strconv.ParseInt(s, 10, 8), AT EVERY NUMERAL THAT NO int8 HOLDS: THE GREATEST OR THE LEAST int8, BY THE SIGN ('Lib.intSat 8'), AND AN ERROR THAT IS NOT nil: a *NumError in a new block N: {Func: "ParseInt", Num: s's bytes, Err: what the variable ErrRange holds}. Of what was there nothing has turned. (LAID: no walk: one application.) -/
theorem Tryz.strconv_ParseInt_10_at8_range (s : ByteArray) (hlim : s.size ≤ 281474976710656) (h : Lib.parseIntB 8 s.data.toList = .range) (ev : Value) (w : World) (hv : w.cell? ⟨3, 0, none⟩ = some ev) (hev : ev = .nilIface ∨ ∃ te pe, ev = .iface te pe) :
    Calls Tryz.prog 42 #[.string s, .int .i64 10, .int .i64 8] w fun e w' => ∃ N, e = .returned (.tuple #[.int .i64 (Lib.intSat 8 s.data.toList), .iface 120 (.pointer (some ⟨N, 0, none⟩))]) ∧ w.heap.size ≤ N ∧ w'.heap[N]? = some (.cells #[.string ⟨#[80, 97, 114, 115, 101, 73, 110, 116]⟩, .string s, ev] 149 (0, 0)) ∧ Below w.heap.size w w' := Any.strconv_ParseInt_10_at8_range Tryz.laysC174 s hlim h ev w hv hev
def Tryz.laysM288_ren : Go.Shelf.Ren := ⟨fun | 288 => 47 | 283 => 55 | 284 => 56 | 285 => 57 | 286 => 58 | 129 => 64 | 317 => 67 | 318 => 84 | 319 => 85 | 320 => 86 | 337 => 109 | 338 => 110 | n => n, fun | 37 => 50 | 53 => 81 | 3 => 3 | 4 => 4 | 9 => 9 | 171 => 93 | 0 => 0 | 173 => 96 | 212 => 129 | 51 => 98 | 5 => 5 | 20 => 20 | 213 => 130 | 46 => 85 | 232 => 104 | 233 => 187 | n => n, fun | 17 => 1 | 18 => 9 | 19 => 10 | n => n⟩
theorem Tryz.laysM288 : Go.Proofs.LaysM.n288 Tryz.prog Tryz.laysM288_ren := {
  mixed := by kernel_rfl
  f129 := Tryz.func64.trans (congrArg some (by kernel_rfl))
  f283 := Tryz.func55.trans (congrArg some (by kernel_rfl))
  f284 := Tryz.func56.trans (congrArg some (by kernel_rfl))
  f285 := Tryz.func57.trans (congrArg some (by kernel_rfl))
  f286 := Tryz.func58.trans (congrArg some (by kernel_rfl))
  f288 := Tryz.func47.trans (congrArg some (by kernel_rfl))
  f317 := Tryz.func67.trans (congrArg some (by kernel_rfl))
  f318 := Tryz.func84.trans (congrArg some (by kernel_rfl))
  f319 := Tryz.func85.trans (congrArg some (by kernel_rfl))
  f320 := Tryz.func86.trans (congrArg some (by kernel_rfl))
  f337 := Tryz.func109.trans (congrArg some (by kernel_rfl))
  f338 := Tryz.func110.trans (congrArg some (by kernel_rfl))
  t0 := Tryz.underlying0
  a0 := Tryz.isAgg0
  z0 := Tryz.sizeOf0
  v0 := Tryz.zeroValue0
  t3 := Tryz.underlying3
  a3 := Tryz.isAgg3
  z3 := Tryz.sizeOf3
  v3 := Tryz.zeroValue3
  t4 := Tryz.underlying4
  a4 := Tryz.isAgg4
  z4 := Tryz.sizeOf4
  v4 := Tryz.zeroValue4
  t5 := Tryz.underlying5
  a5 := Tryz.isAgg5
  z5 := Tryz.sizeOf5
  v5 := Tryz.zeroValue5
  t9 := Tryz.underlying9
  a9 := Tryz.isAgg9
  z9 := Tryz.sizeOf9
  v9 := Tryz.zeroValue9
  t20 := Tryz.underlying20
  a20 := Tryz.isAgg20
  z20 := Tryz.sizeOf20
  v20 := Tryz.zeroValue20
  t37 := Tryz.underlying50
  a37 := Tryz.isAgg50
  z37 := Tryz.sizeOf50
  v37 := Tryz.zeroValue50
  t46 := Tryz.underlying85
  a46 := Tryz.isAgg85
  z46 := Tryz.sizeOf85
  v46 := Tryz.zeroValue85
  t51 := Tryz.underlying98
  a51 := Tryz.isAgg98
  z51 := Tryz.sizeOf98
  v51 := Tryz.zeroValue98
  t53 := Tryz.underlying81
  a53 := Tryz.isAgg81
  z53 := Tryz.sizeOf81
  v53 := Tryz.zeroValue81
  t171 := Tryz.underlying93
  a171 := Tryz.isAgg93
  z171 := Tryz.sizeOf93
  v171 := Tryz.zeroValue93
  t173 := Tryz.underlying96
  a173 := Tryz.isAgg96
  z173 := Tryz.sizeOf96
  v173 := Tryz.zeroValue96
  t212 := Tryz.underlying129
  a212 := Tryz.isAgg129
  z212 := Tryz.sizeOf129
  v212 := Tryz.zeroValue129
  t213 := Tryz.underlying130
  a213 := Tryz.isAgg130
  z213 := Tryz.sizeOf130
  t232 := Tryz.underlying104
  a232 := Tryz.isAgg104
  z232 := Tryz.sizeOf104
  v232 := Tryz.zeroValue104
  t233 := Tryz.underlying187
  a233 := Tryz.isAgg187
  z233 := Tryz.sizeOf187
  v233 := Tryz.zeroValue187
  g17 := by kernel_rfl
  g18 := by kernel_rfl
  g19 := by kernel_rfl
  i0 := by kernel_rfl
  i3 := by kernel_rfl
  i4 := by kernel_rfl
  i5 := by kernel_rfl
  i9 := by kernel_rfl
  i20 := by kernel_rfl
  i37 := by kernel_rfl
  i46 := by kernel_rfl
  i51 := by kernel_rfl
  i53 := by kernel_rfl
  i171 := by kernel_rfl
  i173 := by kernel_rfl
  i212 := by kernel_rfl
  i232 := by kernel_rfl
  i233 := by kernel_rfl
  m17 := by kernel_rfl
  m18 := by kernel_rfl
  m19 := by kernel_rfl }
open Go.RowKit Go.Sort Go.Lib in
/-- internal/strconv.AppendUint(dst, i, 10), i BELOW 100: WHAT COMES BACK OWNS dst's CELLS AND, BEHIND THEM, i's DECIMAL NUMERAL. No table is read. Below the call's own blocks nothing has turned. (LAID: no walk: one application.) -/
theorem Tryz.internal_strconv_AppendUint_10_small (B n u : Nat) (hu : u < 100) (sv : Value) (xs : List Value) (w : World) (hown : w.ownsRow B 5 1 sv n xs) (hBw : B ≤ w.heap.size) (hlim : n + 20 ≤ 140737488355328) :
    Calls Tryz.prog 47 #[sv, .int .u64 u, .int .i64 10] w fun e w' => ∃ v', e = .returned v' ∧ w'.ownsRow B 5 1 v' (n + (Lib.decDigits u).length) (xs ++ Lib.byteCells (Lib.decDigits u)) ∧ Below B w w' ∧ Lib.OthersKept 5 none w w' := Any.internal_strconv_AppendUint_10_small Tryz.laysM288 B n u hu sv xs w hown hBw hlim
open Go.RowKit Go.Sort Go.Lib in
/-- internal/strconv.AppendUint(dst, i, 10), i FROM 100 ON: likewise; the digits are laid in an array of the call's own and appended. (LAID: no walk: one application.) -/
theorem Tryz.internal_strconv_AppendUint_10_big (B n u : Nat) (hu : 100 ≤ u) (hu64 : u < 18446744073709551616) (sv : Value) (xs : List Value) (w : World) (hown : w.ownsRow B 5 1 sv n xs) (hBw : B ≤ w.heap.size) (hlim : n + 20 ≤ 140737488355328) (htab : Lib.TabIs Tryz.prog w "internal/strconv.uint64pow10" .u64 Lib.pow10Tab) :
    Calls Tryz.prog 47 #[sv, .int .u64 u, .int .i64 10] w fun e w' => ∃ v', e = .returned v' ∧ w'.ownsRow B 5 1 v' (n + (Lib.decDigits u).length) (xs ++ Lib.byteCells (Lib.decDigits u)) ∧ Below B w w' ∧ Lib.OthersKept 5 none w w' := Any.internal_strconv_AppendUint_10_big Tryz.laysM288 B n u hu hu64 sv xs w hown hBw hlim htab
open Go.RowKit Go.Sort Go.Lib in
/-- internal/strconv.AppendUint(dst, i, 10): the two contracts as one. NO WALK. (LAID: no walk: one application.) -/
theorem Tryz.internal_strconv_AppendUint_10 (B n u : Nat) (hu64 : u < 18446744073709551616) (sv : Value) (xs : List Value) (w : World) (hown : w.ownsRow B 5 1 sv n xs) (hBw : B ≤ w.heap.size) (hlim : n + 20 ≤ 140737488355328) (htab : Lib.TabIs Tryz.prog w "internal/strconv.uint64pow10" .u64 Lib.pow10Tab) :
    Calls Tryz.prog 47 #[sv, .int .u64 u, .int .i64 10] w fun e w' => ∃ v', e = .returned v' ∧ w'.ownsRow B 5 1 v' (n + (Lib.decDigits u).length) (xs ++ Lib.byteCells (Lib.decDigits u)) ∧ Below B w w' ∧ Lib.OthersKept 5 none w w' := Any.internal_strconv_AppendUint_10 Tryz.laysM288 B n u hu64 sv xs w hown hBw hlim htab
def Tryz.laysM249_ren : Go.Shelf.Ren := ⟨fun | 249 => 36 | 288 => 47 | 283 => 55 | 284 => 56 | 285 => 57 | 286 => 58 | 129 => 64 | 317 => 67 | 318 => 84 | 319 => 85 | 320 => 86 | 337 => 109 | 338 => 110 | n => n, fun | 37 => 50 | 2 => 2 | 3 => 3 | 53 => 81 | 4 => 4 | 9 => 9 | 171 => 93 | 0 => 0 | 173 => 96 | 212 => 129 | 51 => 98 | 5 => 5 | 20 => 20 | 213 => 130 | 46 => 85 | 232 => 104 | 233 => 187 | n => n, fun | 17 => 1 | 18 => 9 | 19 => 10 | n => n⟩
theorem Tryz.laysM249 : Go.Proofs.LaysM.n249 Tryz.prog Tryz.laysM249_ren := {
  mixed := by kernel_rfl
  f129 := Tryz.func64.trans (congrArg some (by kernel_rfl))
  f249 := Tryz.func36.trans (congrArg some (by kernel_rfl))
  f283 := Tryz.func55.trans (congrArg some (by kernel_rfl))
  f284 := Tryz.func56.trans (congrArg some (by kernel_rfl))
  f285 := Tryz.func57.trans (congrArg some (by kernel_rfl))
  f286 := Tryz.func58.trans (congrArg some (by kernel_rfl))
  f288 := Tryz.func47.trans (congrArg some (by kernel_rfl))
  f317 := Tryz.func67.trans (congrArg some (by kernel_rfl))
  f318 := Tryz.func84.trans (congrArg some (by kernel_rfl))
  f319 := Tryz.func85.trans (congrArg some (by kernel_rfl))
  f320 := Tryz.func86.trans (congrArg some (by kernel_rfl))
  f337 := Tryz.func109.trans (congrArg some (by kernel_rfl))
  f338 := Tryz.func110.trans (congrArg some (by kernel_rfl))
  t0 := Tryz.underlying0
  a0 := Tryz.isAgg0
  z0 := Tryz.sizeOf0
  v0 := Tryz.zeroValue0
  t2 := Tryz.underlying2
  a2 := Tryz.isAgg2
  z2 := Tryz.sizeOf2
  v2 := Tryz.zeroValue2
  t3 := Tryz.underlying3
  a3 := Tryz.isAgg3
  z3 := Tryz.sizeOf3
  v3 := Tryz.zeroValue3
  t4 := Tryz.underlying4
  a4 := Tryz.isAgg4
  z4 := Tryz.sizeOf4
  v4 := Tryz.zeroValue4
  t5 := Tryz.underlying5
  a5 := Tryz.isAgg5
  z5 := Tryz.sizeOf5
  v5 := Tryz.zeroValue5
  t9 := Tryz.underlying9
  a9 := Tryz.isAgg9
  z9 := Tryz.sizeOf9
  v9 := Tryz.zeroValue9
  t20 := Tryz.underlying20
  a20 := Tryz.isAgg20
  z20 := Tryz.sizeOf20
  v20 := Tryz.zeroValue20
  t37 := Tryz.underlying50
  a37 := Tryz.isAgg50
  z37 := Tryz.sizeOf50
  v37 := Tryz.zeroValue50
  t46 := Tryz.underlying85
  a46 := Tryz.isAgg85
  z46 := Tryz.sizeOf85
  v46 := Tryz.zeroValue85
  t51 := Tryz.underlying98
  a51 := Tryz.isAgg98
  z51 := Tryz.sizeOf98
  v51 := Tryz.zeroValue98
  t53 := Tryz.underlying81
  a53 := Tryz.isAgg81
  z53 := Tryz.sizeOf81
  v53 := Tryz.zeroValue81
  t171 := Tryz.underlying93
  a171 := Tryz.isAgg93
  z171 := Tryz.sizeOf93
  v171 := Tryz.zeroValue93
  t173 := Tryz.underlying96
  a173 := Tryz.isAgg96
  z173 := Tryz.sizeOf96
  v173 := Tryz.zeroValue96
  t212 := Tryz.underlying129
  a212 := Tryz.isAgg129
  z212 := Tryz.sizeOf129
  v212 := Tryz.zeroValue129
  t213 := Tryz.underlying130
  a213 := Tryz.isAgg130
  z213 := Tryz.sizeOf130
  t232 := Tryz.underlying104
  a232 := Tryz.isAgg104
  z232 := Tryz.sizeOf104
  v232 := Tryz.zeroValue104
  t233 := Tryz.underlying187
  a233 := Tryz.isAgg187
  z233 := Tryz.sizeOf187
  v233 := Tryz.zeroValue187
  g17 := by kernel_rfl
  g18 := by kernel_rfl
  g19 := by kernel_rfl
  i0 := by kernel_rfl
  i2 := by kernel_rfl
  i3 := by kernel_rfl
  i4 := by kernel_rfl
  i5 := by kernel_rfl
  i9 := by kernel_rfl
  i20 := by kernel_rfl
  i37 := by kernel_rfl
  i46 := by kernel_rfl
  i51 := by kernel_rfl
  i53 := by kernel_rfl
  i171 := by kernel_rfl
  i173 := by kernel_rfl
  i212 := by kernel_rfl
  i232 := by kernel_rfl
  i233 := by kernel_rfl
  m17 := by kernel_rfl
  m18 := by kernel_rfl
  m19 := by kernel_rfl }
open Go.RowKit Go.Sort Go.Lib in
/-- internal/strconv.AppendInt: "AppendInt appends the string form of the integer i, as generated by FormatInt, to dst and returns the extended buffer.": AT BASE 10: WHAT COMES BACK OWNS dst's CELLS AND, BEHIND THEM, i's DECIMAL NUMERAL ('Lib.itoa i': at most 20 bytes), for every int64. Below the call's own blocks nothing has turned. (LAID: no walk: one application.) -/
theorem Tryz.internal_strconv_AppendInt_10 (B n : Nat) (i : Int) (h0 : -9223372036854775808 ≤ i) (h1 : i ≤ 9223372036854775807) (sv : Value) (xs : List Value) (w : World) (hown : w.ownsRow B 5 1 sv n xs) (hBw : B ≤ w.heap.size) (hlim : n + 21 ≤ 140737488355328) (htab : Lib.TabBelow Tryz.prog B w "internal/strconv.uint64pow10" .u64 Lib.pow10Tab) :
    Calls Tryz.prog 36 #[sv, .int .i64 i, .int .i64 10] w fun e w' => ∃ v', e = .returned v' ∧ w'.ownsRow B 5 1 v' (n + (Lib.itoa i).length) (xs ++ Lib.byteCells (Lib.itoa i)) ∧ Below B w w' ∧ Lib.OthersKept 5 none w w' := Any.internal_strconv_AppendInt_10 Tryz.laysM249 B n i h0 h1 sv xs w hown hBw hlim htab
def Tryz.laysM176_ren : Go.Shelf.Ren := ⟨fun | 176 => 22 | 249 => 36 | 288 => 47 | 283 => 55 | 284 => 56 | 285 => 57 | 286 => 58 | 129 => 64 | 317 => 67 | 318 => 84 | 319 => 85 | 320 => 86 | 337 => 109 | 338 => 110 | n => n, fun | 37 => 50 | 2 => 2 | 3 => 3 | 53 => 81 | 4 => 4 | 9 => 9 | 171 => 93 | 0 => 0 | 173 => 96 | 212 => 129 | 51 => 98 | 5 => 5 | 20 => 20 | 213 => 130 | 46 => 85 | 232 => 104 | 233 => 187 | n => n, fun | 17 => 1 | 18 => 9 | 19 => 10 | n => n⟩
theorem Tryz.laysM176 : Go.Proofs.LaysM.n176 Tryz.prog Tryz.laysM176_ren := {
  mixed := by kernel_rfl
  f129 := Tryz.func64.trans (congrArg some (by kernel_rfl))
  f176 := Tryz.func22.trans (congrArg some (by kernel_rfl))
  f249 := Tryz.func36.trans (congrArg some (by kernel_rfl))
  f283 := Tryz.func55.trans (congrArg some (by kernel_rfl))
  f284 := Tryz.func56.trans (congrArg some (by kernel_rfl))
  f285 := Tryz.func57.trans (congrArg some (by kernel_rfl))
  f286 := Tryz.func58.trans (congrArg some (by kernel_rfl))
  f288 := Tryz.func47.trans (congrArg some (by kernel_rfl))
  f317 := Tryz.func67.trans (congrArg some (by kernel_rfl))
  f318 := Tryz.func84.trans (congrArg some (by kernel_rfl))
  f319 := Tryz.func85.trans (congrArg some (by kernel_rfl))
  f320 := Tryz.func86.trans (congrArg some (by kernel_rfl))
  f337 := Tryz.func109.trans (congrArg some (by kernel_rfl))
  f338 := Tryz.func110.trans (congrArg some (by kernel_rfl))
  t0 := Tryz.underlying0
  a0 := Tryz.isAgg0
  z0 := Tryz.sizeOf0
  v0 := Tryz.zeroValue0
  t2 := Tryz.underlying2
  a2 := Tryz.isAgg2
  z2 := Tryz.sizeOf2
  v2 := Tryz.zeroValue2
  t3 := Tryz.underlying3
  a3 := Tryz.isAgg3
  z3 := Tryz.sizeOf3
  v3 := Tryz.zeroValue3
  t4 := Tryz.underlying4
  a4 := Tryz.isAgg4
  z4 := Tryz.sizeOf4
  v4 := Tryz.zeroValue4
  t5 := Tryz.underlying5
  a5 := Tryz.isAgg5
  z5 := Tryz.sizeOf5
  v5 := Tryz.zeroValue5
  t9 := Tryz.underlying9
  a9 := Tryz.isAgg9
  z9 := Tryz.sizeOf9
  v9 := Tryz.zeroValue9
  t20 := Tryz.underlying20
  a20 := Tryz.isAgg20
  z20 := Tryz.sizeOf20
  v20 := Tryz.zeroValue20
  t37 := Tryz.underlying50
  a37 := Tryz.isAgg50
  z37 := Tryz.sizeOf50
  v37 := Tryz.zeroValue50
  t46 := Tryz.underlying85
  a46 := Tryz.isAgg85
  z46 := Tryz.sizeOf85
  v46 := Tryz.zeroValue85
  t51 := Tryz.underlying98
  a51 := Tryz.isAgg98
  z51 := Tryz.sizeOf98
  v51 := Tryz.zeroValue98
  t53 := Tryz.underlying81
  a53 := Tryz.isAgg81
  z53 := Tryz.sizeOf81
  v53 := Tryz.zeroValue81
  t171 := Tryz.underlying93
  a171 := Tryz.isAgg93
  z171 := Tryz.sizeOf93
  v171 := Tryz.zeroValue93
  t173 := Tryz.underlying96
  a173 := Tryz.isAgg96
  z173 := Tryz.sizeOf96
  v173 := Tryz.zeroValue96
  t212 := Tryz.underlying129
  a212 := Tryz.isAgg129
  z212 := Tryz.sizeOf129
  v212 := Tryz.zeroValue129
  t213 := Tryz.underlying130
  a213 := Tryz.isAgg130
  z213 := Tryz.sizeOf130
  t232 := Tryz.underlying104
  a232 := Tryz.isAgg104
  z232 := Tryz.sizeOf104
  v232 := Tryz.zeroValue104
  t233 := Tryz.underlying187
  a233 := Tryz.isAgg187
  z233 := Tryz.sizeOf187
  v233 := Tryz.zeroValue187
  g17 := by kernel_rfl
  g18 := by kernel_rfl
  g19 := by kernel_rfl
  i0 := by kernel_rfl
  i2 := by kernel_rfl
  i3 := by kernel_rfl
  i4 := by kernel_rfl
  i5 := by kernel_rfl
  i9 := by kernel_rfl
  i20 := by kernel_rfl
  i37 := by kernel_rfl
  i46 := by kernel_rfl
  i51 := by kernel_rfl
  i53 := by kernel_rfl
  i171 := by kernel_rfl
  i173 := by kernel_rfl
  i212 := by kernel_rfl
  i232 := by kernel_rfl
  i233 := by kernel_rfl
  m17 := by kernel_rfl
  m18 := by kernel_rfl
  m19 := by kernel_rfl }
open Go.RowKit Go.Sort Go.Lib in
/-- strconv.AppendInt: "AppendInt appends the string form of the integer i, as generated by FormatInt, to dst and returns the extended buffer.": AT BASE 10: WHAT COMES BACK OWNS dst's CELLS AND, BEHIND THEM, i's DECIMAL NUMERAL ('Lib.itoa i': at most 20 bytes), for every int64. Below the call's own blocks nothing has turned. (LAID: no walk: one application.) -/
theorem Tryz.strconv_AppendInt_10 (B n : Nat) (i : Int) (h0 : -9223372036854775808 ≤ i) (h1 : i ≤ 9223372036854775807) (sv : Value) (xs : List Value) (w : World) (hown : w.ownsRow B 5 1 sv n xs) (hBw : B ≤ w.heap.size) (hlim : n + 21 ≤ 140737488355328) (htab : Lib.TabBelow Tryz.prog B w "internal/strconv.uint64pow10" .u64 Lib.pow10Tab) :
    Calls Tryz.prog 22 #[sv, .int .i64 i, .int .i64 10] w fun e w' => ∃ v', e = .returned v' ∧ w'.ownsRow B 5 1 v' (n + (Lib.itoa i).length) (xs ++ Lib.byteCells (Lib.itoa i)) ∧ Below B w w' ∧ Lib.OthersKept 5 none w w' := Any.strconv_AppendInt_10 Tryz.laysM176 B n i h0 h1 sv xs w hown hBw hlim htab
def Tryz.lays264_ren : Go.Shelf.Ren := ⟨fun | 264 => 111 | n => n, fun | 53 => 81 | 46 => 85 | n => n, fun | n => n⟩
theorem Tryz.lays264 : Go.Proofs.Lays.n264 Tryz.prog Tryz.lays264_ren := {
  mixed := by kernel_rfl
  f264 := Tryz.func111.trans (congrArg some (by kernel_rfl))
  t46 := Tryz.underlying85
  a46 := Tryz.isAgg85
  z46 := Tryz.sizeOf85
  v46 := Tryz.zeroValue85
  t53 := Tryz.underlying81
  a53 := Tryz.isAgg81
  z53 := Tryz.sizeOf81
  v53 := Tryz.zeroValue81 }
open Go.RowKit Go.Lib in
theorem Tryz.bits_Mul64 (x y : Nat) (hx : x < 18446744073709551616) (hy : y < 18446744073709551616) (w : World) :
    Calls Tryz.prog 111 #[.int .u64 x, .int .u64 y] w fun e w' => e = .returned (.tuple #[.int .u64 ((x * y / 18446744073709551616 : Nat) : Int), .int .u64 ((x * y % 18446744073709551616 : Nat) : Int)]) ∧ w' = w := Any.bits_Mul64 Tryz.lays264 x y hx hy w
def Tryz.laysPa41_ren : Go.Shelf.Ren := ⟨fun | 41 => 39 | n => n, fun | 3 => 3 | n => n, fun | n => n⟩
theorem Tryz.laysPa41 : Go.Proofs.Lays.p41 Tryz.prog Tryz.laysPa41_ren := {
  mixed := by kernel_rfl
  f41 := Tryz.func39.trans (congrArg some (by kernel_rfl))
  t3 := Tryz.underlying3
  a3 := Tryz.isAgg3
  z3 := Tryz.sizeOf3
  v3 := Tryz.zeroValue3 }
open Go.RowKit Go.Lib in
/-- encoding/hex.EncodedLen: "EncodedLen returns the length of an encoding of n source bytes. Specifically, it returns n * 2.": for 0 ≤ n < 2^62 (beyond it int's product wraps). (LAID: no walk: one application.) -/
theorem Tryz.hex_EncodedLen (n : Int) (h0 : 0 ≤ n) (h1 : n < 4611686018427387904) (w : World) :
    Calls Tryz.prog 39 #[.int .i64 n] w fun e w' => e = .returned (.int .i64 (n * 2)) ∧ w' = w := Any.hex_EncodedLen Tryz.laysPa41 n h0 h1 w
def Tryz.laysPa42_ren : Go.Shelf.Ren := ⟨fun | 42 => 80 | n => n, fun | 3 => 3 | n => n, fun | n => n⟩
theorem Tryz.laysPa42 : Go.Proofs.Lays.p42 Tryz.prog Tryz.laysPa42_ren := {
  mixed := by kernel_rfl
  f42 := Tryz.func80.trans (congrArg some (by kernel_rfl))
  t3 := Tryz.underlying3
  a3 := Tryz.isAgg3
  z3 := Tryz.sizeOf3
  v3 := Tryz.zeroValue3 }
open Go.RowKit Go.Lib in
/-- encoding/hex.DecodedLen: "DecodedLen returns the length of a decoding of x source bytes. Specifically, it returns x / 2.": for 0 ≤ x. (LAID: no walk: one application.) -/
theorem Tryz.hex_DecodedLen (x : Int) (h0 : 0 ≤ x) (h1 : x < 9223372036854775808) (w : World) :
    Calls Tryz.prog 80 #[.int .i64 x] w fun e w' => e = .returned (.int .i64 (x / 2)) ∧ w' = w := Any.hex_DecodedLen Tryz.laysPa42 x h0 h1 w
def Tryz.laysPa40_ren : Go.Shelf.Ren := ⟨fun | 40 => 40 | n => n, fun | 30 => 50 | 3 => 3 | 0 => 0 | 5 => 5 | 46 => 85 | 9 => 9 | n => n, fun | n => n⟩
theorem Tryz.laysPa40 : Go.Proofs.Lays.p40 Tryz.prog Tryz.laysPa40_ren := {
  mixed := by kernel_rfl
  f40 := Tryz.func40.trans (congrArg some (by kernel_rfl))
  t0 := Tryz.underlying0
  a0 := Tryz.isAgg0
  z0 := Tryz.sizeOf0
  v0 := Tryz.zeroValue0
  t3 := Tryz.underlying3
  a3 := Tryz.isAgg3
  z3 := Tryz.sizeOf3
  v3 := Tryz.zeroValue3
  t5 := Tryz.underlying5
  a5 := Tryz.isAgg5
  z5 := Tryz.sizeOf5
  v5 := Tryz.zeroValue5
  t9 := Tryz.underlying9
  a9 := Tryz.isAgg9
  z9 := Tryz.sizeOf9
  v9 := Tryz.zeroValue9
  t30 := Tryz.underlying50
  a30 := Tryz.isAgg50
  z30 := Tryz.sizeOf50
  v30 := Tryz.zeroValue50
  t46 := Tryz.underlying85
  a46 := Tryz.isAgg85
  z46 := Tryz.sizeOf85
  v46 := Tryz.zeroValue85 }
open Go.RowKit Go.Lib in
/-- encoding/hex.Encode: "Encode encodes src into EncodedLen(len(src)) bytes of dst. As a convenience, it returns the number of bytes written to dst, but this value is always EncodedLen(len(src)). Encode implements hexadecimal encoding.": dst: nd places from place od on of a row (block bd: N cells of uint8, none frozen, holding 'f'), with room for the digits; src: n cells of ANOTHER block, holding the numbers xs, each a byte's. IT RETURNS n * 2; THE ROW THEN HOLDS 'Hx.row f od (the bytes of src) n': the 2 * n digits of 'Hx.encode' from place od on, else what it held; nothing else has turned ('grownBy'). (LAID: no walk: one application.) -/
theorem Tryz.hex_Encode (bd od nd cd N : Nat) (f : Nat → Value) (bs os n cs : Nat) (xs : List Int) (w : World) (hx : xs.length = n) (hr : ∀ i, i < n → 0 ≤ xs.getD i 0 ∧ xs.getD i 0 < 256) (hsrc : ∀ i, i < n → w.cell? ⟨bs, os + i, none⟩ = some (.int .u8 (xs.getD i 0))) (hrow : w.rowIs bd 5 N f) (hfit : od + nd ≤ N) (hlen : 2 * n ≤ nd) (hne : bd ≠ bs) (hbig : n ≤ 4611686018427387903) :
    Calls Tryz.prog 40 #[.slice (some ⟨bd, od, none⟩) nd cd, .slice (some ⟨bs, os, none⟩) n cs] w fun e w' => e = .returned (.int .i64 ((n : Int) * 2)) ∧ w'.rowIs bd 5 N (Hx.row f od (Lib.bytesOf xs) n) ∧ w.grownBy w' (some bd) := Any.hex_Encode Tryz.laysPa40 bd od nd cd N f bs os n cs xs w hx hr hsrc hrow hfit hlen hne hbig
open Go.RowKit Go.Lib in
/-- encoding/hex.Encode AT A src THAT IS nil: nothing is written; it returns 0. (dst: whatever value.) (LAID: no walk: one application.) -/
theorem Tryz.hex_Encode_nil (dst : Value) (w : World) :
    Calls Tryz.prog 40 #[dst, .slice none 0 0] w fun e w' => e = .returned (.int .i64 0) ∧ w' = w := Any.hex_Encode_nil Tryz.laysPa40 dst w
def Tryz.laysPa44_ren : Go.Shelf.Ren := ⟨fun | 44 => 81 | n => n, fun | 30 => 50 | 3 => 3 | 35 => 39 | 4 => 4 | 0 => 0 | 5 => 5 | 9 => 9 | 47 => 153 | 46 => 85 | 45 => 195 | n => n, fun | 0 => 4 | n => n⟩
theorem Tryz.laysPa44 : Go.Proofs.Lays.p44 Tryz.prog Tryz.laysPa44_ren := {
  mixed := by kernel_rfl
  f44 := Tryz.func81.trans (congrArg some (by kernel_rfl))
  t0 := Tryz.underlying0
  a0 := Tryz.isAgg0
  z0 := Tryz.sizeOf0
  v0 := Tryz.zeroValue0
  t3 := Tryz.underlying3
  a3 := Tryz.isAgg3
  z3 := Tryz.sizeOf3
  v3 := Tryz.zeroValue3
  t4 := Tryz.underlying4
  a4 := Tryz.isAgg4
  z4 := Tryz.sizeOf4
  v4 := Tryz.zeroValue4
  t5 := Tryz.underlying5
  a5 := Tryz.isAgg5
  z5 := Tryz.sizeOf5
  v5 := Tryz.zeroValue5
  t9 := Tryz.underlying9
  a9 := Tryz.isAgg9
  z9 := Tryz.sizeOf9
  v9 := Tryz.zeroValue9
  t30 := Tryz.underlying50
  a30 := Tryz.isAgg50
  z30 := Tryz.sizeOf50
  v30 := Tryz.zeroValue50
  t35 := Tryz.underlying39
  a35 := Tryz.isAgg39
  z35 := Tryz.sizeOf39
  v35 := Tryz.zeroValue39
  t45 := Tryz.underlying195
  a45 := Tryz.isAgg195
  z45 := Tryz.sizeOf195
  v45 := Tryz.zeroValue195
  t46 := Tryz.underlying85
  a46 := Tryz.isAgg85
  z46 := Tryz.sizeOf85
  v46 := Tryz.zeroValue85
  t47 := Tryz.underlying153
  a47 := Tryz.isAgg153
  z47 := Tryz.sizeOf153
  v47 := Tryz.zeroValue153
  g0 := by kernel_rfl }
open Go.RowKit Go.Lib in
/-- encoding/hex.Decode, FOR EVERY src THAT IS NOT nil: "Decode decodes src into DecodedLen(len(src)) bytes, returning the actual number of bytes written to dst. Decode expects that src contains only hexadecimal characters and that src has even length. If the input is malformed, Decode returns the number of bytes decoded before the error.": dst: nd places from place od on of a row (block bd), with room for len(src) / 2 bytes; src: n cells of ANOTHER block, holding the numbers xs, each a byte's; 'ev': what the variable encoding/hex.ErrLength holds. IT RETURNS (how many bytes 'Hx.decode' gives, the error by how it ends: nil ¦ InvalidByteError(c) ¦ ErrLength's content); THE ROW THEN HOLDS those bytes from place od on ('Hx.rowP'); nothing else has turned. (LAID: no walk: one application.) -/
theorem Tryz.hex_Decode (bd od nd cd N : Nat) (f : Nat → Value) (bs os n cs : Nat) (xs : List Int) (w : World) (ev : Value) (hx : xs.length = n) (hr : ∀ i, i < n → 0 ≤ xs.getD i 0 ∧ xs.getD i 0 < 256) (hsrc : ∀ i, i < n → w.cell? ⟨bs, os + i, none⟩ = some (.int .u8 (xs.getD i 0))) (hrow : w.rowIs bd 5 N f) (hfit : od + nd ≤ N) (hlen : n / 2 ≤ nd) (hne : bd ≠ bs) (hbig : n ≤ 4611686018427387903) (hE : w.cell? ⟨4, 0, none⟩ = some ev) (hgb : 4 ≠ bd) :
    Calls Tryz.prog 81 #[.slice (some ⟨bd, od, none⟩) nd cd, .slice (some ⟨bs, os, none⟩) n cs] w fun e w' =>
      e = .returned (.tuple #[.int .i64 ((Hx.decode (Lib.bytesOf xs)).1.length : Int), Hx.errVal 153 ev (Hx.decode (Lib.bytesOf xs)).2]) ∧ w'.rowIs bd 5 N (Hx.rowP f od (Hx.decode (Lib.bytesOf xs)).1) ∧ w.grownBy w' (some bd) := Any.hex_Decode Tryz.laysPa44 bd od nd cd N f bs os n cs xs w ev hx hr hsrc hrow hfit hlen hne hbig hE hgb
open Go.RowKit Go.Lib in
/-- encoding/hex.Decode AT A src THAT IS nil: nothing is written; it returns (0, nil). (dst: whatever value.) (LAID: no walk: one application.) -/
theorem Tryz.hex_Decode_nil (dst : Value) (w : World) :
    Calls Tryz.prog 81 #[dst, .slice none 0 0] w fun e w' => e = .returned (.tuple #[.int .i64 0, .nilIface]) ∧ w' = w := Any.hex_Decode_nil Tryz.laysPa44 dst w
end Go.Proofs
