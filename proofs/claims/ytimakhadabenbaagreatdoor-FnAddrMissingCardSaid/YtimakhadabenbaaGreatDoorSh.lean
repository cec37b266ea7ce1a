/-
  DERIVED: THE SHELF's CONTRACTS AT THIS DUMP, IN PLAIN WORDS (tools/lay-plain.mjs out of 'TryzShelf.lean', which tools/lay-shelf.mjs wrote): THE SAME DECLARATIONS UNDER THE SAME NAMES: 'import', 'namespace', 'open', 'def', 'theorem' AND NOTHING ELSE: no command of the shelf's: FOR A HAND-IN. Each laying: the table of numbers ('.._ren') and one theorem, a field a fact of the dump's own or the kernel's comparison; each contract: ONE APPLICATION.
-/
import Derived.Shelf.Small.Bits
import Derived.Shelf.Strconv.Itoa0
import Derived.Shelf.Strconv.Itoa1
import Derived.Shelf.LaysM
import Derived.Shelf.Strconv.Itoa2
import Derived.Shelf.Strconv.Itoa3
import Derived.Shelf.Strconv.ParseIntEmpty
import Derived.Shelf.Strconv.Clone
import Derived.Shelf.Strconv.SyntaxError
import Derived.Ground.MnProg
import Derived.Shelf.Bin.BEUint16
import Derived.Shelf.Bin.BEPutUint16
import Derived.Shelf.Bin.BEUint64
import Derived.Shelf.Bin.BEPutUint64
import Derived.Shelf.Bin.BEUint16Panics
import Derived.Shelf.Bin.BEPutUint16Panics
import Derived.Shelf.Bin.BEUint64Panics
import Derived.Shelf.Bin.BEPutUint64Panics
import Derived.Shelf.Bin.PutUvarint
import Derived.Shelf.Strconv.Lower
import Derived.Shelf.Strconv.ParseUint10
import Derived.Shelf.Strconv.ParseUint10Empty
import Derived.Shelf.Strconv.RangeError
import Derived.Shelf.Strconv.ParseUintEmpty
import Derived.Shelf.Strconv.ParseUint10b64
import Derived.Shelf.Strconv.ParseUint10b32
import Derived.Shelf.Strconv.ParseUint10b16
import Derived.Shelf.Strconv.ParseUint10b8
import Derived.Shelf.Bin.ReadersZ
import Derived.Test.YtimakhadabenbaaGreatDoorProg
namespace Go.Proofs
open Go.Shelf
def Tryz.lays129_ren : Go.Shelf.Ren := ⟨fun | 129 => 52 | n => n, fun | 53 => 106 | 3 => 3 | 4 => 4 | 46 => 76 | 5 => 5 | 9 => 9 | n => n, fun | n => n⟩
theorem Tryz.lays129 : Go.Proofs.Lays.n129 Tryz.prog Tryz.lays129_ren := {
  mixed := by kernel_rfl
  f129 := Tryz.func52.trans (congrArg some (by kernel_rfl))
  t3 := Tryz.underlying3
  a3 := Tryz.isAgg3
  z3 := Tryz.sizeOf3
  v3 := Tryz.zeroValue3
  t4 := Tryz.underlying4
  a4 := Tryz.isAgg4
  z4 := Tryz.sizeOf4
  v4 := Tryz.zeroValue4
  t5 := Tryz.underlying5
  a5 := Tryz.isAgg5
  z5 := Tryz.sizeOf5
  v5 := Tryz.zeroValue5
  t9 := Tryz.underlying9
  a9 := Tryz.isAgg9
  z9 := Tryz.sizeOf9
  v9 := Tryz.zeroValue9
  t46 := Tryz.underlying76
  a46 := Tryz.isAgg76
  z46 := Tryz.sizeOf76
  v46 := Tryz.zeroValue76
  t53 := Tryz.underlying106
  a53 := Tryz.isAgg106
  z53 := Tryz.sizeOf106
  v53 := Tryz.zeroValue106 }
/-- bits.Len64: "Len64 returns the minimum number of bits required to represent x; the result is 0 for x == 0.": IT RETURNS 'Lib.bitLen x'; the world is as it was. ('h0', 'h1': x is a uint64.) (LAID: no walk: one application.) -/
theorem Tryz.bits_Len64 (x : Int) (w : World) (h0 : 0 ≤ x) (h1 : x ≤ 18446744073709551615) :
    Calls Tryz.prog 52 #[.int .u64 x] w fun e w' => e = .returned (.int .i64 (Lib.bitLen x.toNat)) ∧ w' = w := Any.bits_Len64 Tryz.lays129 x w h0 h1
def Tryz.lays317_ren : Go.Shelf.Ren := ⟨fun | 317 => 329 | n => n, fun | 3 => 3 | 46 => 76 | n => n, fun | n => n⟩
theorem Tryz.lays317 : Go.Proofs.Lays.n317 Tryz.prog Tryz.lays317_ren := {
  mixed := by kernel_rfl
  f317 := Tryz.func329.trans (congrArg some (by kernel_rfl))
  t3 := Tryz.underlying3
  a3 := Tryz.isAgg3
  z3 := Tryz.sizeOf3
  v3 := Tryz.zeroValue3
  t46 := Tryz.underlying76
  a46 := Tryz.isAgg76
  z46 := Tryz.sizeOf76
  v46 := Tryz.zeroValue76 }
open Go.Lib in
/-- internal/strconv.log10Pow2: "log10Pow2(x) returns ⌊log₁₀ 2**x⌋ = ⌊x * log₁₀ 2⌋.": '(x * 78913) >> 18', at an x up to 64 (a length in bits). The world is as it was. (LAID: no walk: one application.) -/
theorem Tryz.internal_strconv_log10Pow2 (x : Nat) (h : x ≤ 64) (w : World) :
    Calls Tryz.prog 329 #[.int .i64 x] w fun e w' => e = .returned (.int .i64 (Lib.l10 x)) ∧ w' = w := Any.internal_strconv_log10Pow2 Tryz.lays317 x h w
def Tryz.lays318_ren : Go.Shelf.Ren := ⟨fun | 318 => 330 | n => n, fun | 3 => 3 | 4 => 4 | n => n, fun | n => n⟩
theorem Tryz.lays318 : Go.Proofs.Lays.n318 Tryz.prog Tryz.lays318_ren := {
  mixed := by kernel_rfl
  f318 := Tryz.func330.trans (congrArg some (by kernel_rfl))
  t3 := Tryz.underlying3
  a3 := Tryz.isAgg3
  z3 := Tryz.sizeOf3
  v3 := Tryz.zeroValue3
  t4 := Tryz.underlying4
  a4 := Tryz.isAgg4
  z4 := Tryz.sizeOf4
  v4 := Tryz.zeroValue4 }
open Go.Lib in
/-- internal/strconv.bool2: "bool2 converts b to an integer: 1 for true, 0 for false." The world is as it was. (LAID: no walk: one application.) -/
theorem Tryz.internal_strconv_bool2_int (b : Bool) (w : World) :
    Calls Tryz.prog 330 #[.bool b] w fun e w' => e = .returned (.int .i64 (if b then 1 else 0)) ∧ w' = w := Any.internal_strconv_bool2_int Tryz.lays318 b w
def Tryz.lays283_ren : Go.Shelf.Ren := ⟨fun | 283 => 281 | n => n, fun | 3 => 3 | 9 => 9 | 4 => 4 | n => n, fun | n => n⟩
theorem Tryz.lays283 : Go.Proofs.Lays.n283 Tryz.prog Tryz.lays283_ren := {
  mixed := by kernel_rfl
  f283 := Tryz.func281.trans (congrArg some (by kernel_rfl))
  t3 := Tryz.underlying3
  a3 := Tryz.isAgg3
  z3 := Tryz.sizeOf3
  v3 := Tryz.zeroValue3
  t4 := Tryz.underlying4
  a4 := Tryz.isAgg4
  z4 := Tryz.sizeOf4
  v4 := Tryz.zeroValue4
  t9 := Tryz.underlying9
  a9 := Tryz.isAgg9
  z9 := Tryz.sizeOf9
  v9 := Tryz.zeroValue9 }
open Go.Lib in
/-- internal/strconv.small: "small returns the string for an i with 0 <= i < nSmalls.": i's decimal numeral. The world is as it was. (LAID: no walk: one application.) -/
theorem Tryz.internal_strconv_small (i : Nat) (h : i < 100) (w : World) :
    Calls Tryz.prog 281 #[.int .i64 i] w fun e w' => e = .returned (.string ⟨(Lib.decDigits i).toArray⟩) ∧ w' = w := Any.internal_strconv_small Tryz.lays283 i h w
def Tryz.laysM284_ren : Go.Shelf.Ren := ⟨fun | 284 => 282 | 129 => 52 | 317 => 329 | 318 => 330 | n => n, fun | 53 => 106 | 3 => 3 | 212 => 295 | 0 => 0 | 4 => 4 | 46 => 76 | 5 => 5 | 9 => 9 | n => n, fun | 17 => 14 | n => n⟩
theorem Tryz.laysM284 : Go.Proofs.LaysM.n284 Tryz.prog Tryz.laysM284_ren := {
  mixed := by kernel_rfl
  f129 := Tryz.func52.trans (congrArg some (by kernel_rfl))
  f284 := Tryz.func282.trans (congrArg some (by kernel_rfl))
  f317 := Tryz.func329.trans (congrArg some (by kernel_rfl))
  f318 := Tryz.func330.trans (congrArg some (by kernel_rfl))
  t0 := Tryz.underlying0
  a0 := Tryz.isAgg0
  z0 := Tryz.sizeOf0
  v0 := Tryz.zeroValue0
  t3 := Tryz.underlying3
  a3 := Tryz.isAgg3
  z3 := Tryz.sizeOf3
  v3 := Tryz.zeroValue3
  t4 := Tryz.underlying4
  a4 := Tryz.isAgg4
  z4 := Tryz.sizeOf4
  v4 := Tryz.zeroValue4
  t5 := Tryz.underlying5
  a5 := Tryz.isAgg5
  z5 := Tryz.sizeOf5
  v5 := Tryz.zeroValue5
  t9 := Tryz.underlying9
  a9 := Tryz.isAgg9
  z9 := Tryz.sizeOf9
  v9 := Tryz.zeroValue9
  t46 := Tryz.underlying76
  a46 := Tryz.isAgg76
  z46 := Tryz.sizeOf76
  v46 := Tryz.zeroValue76
  t53 := Tryz.underlying106
  a53 := Tryz.isAgg106
  z53 := Tryz.sizeOf106
  v53 := Tryz.zeroValue106
  t212 := Tryz.underlying295
  a212 := Tryz.isAgg295
  z212 := Tryz.sizeOf295
  v212 := Tryz.zeroValue295
  g17 := by kernel_rfl
  i0 := by kernel_rfl
  i3 := by kernel_rfl
  i4 := by kernel_rfl
  i5 := by kernel_rfl
  i9 := by kernel_rfl
  i46 := by kernel_rfl
  i53 := by kernel_rfl
  i212 := by kernel_rfl
  m17 := by kernel_rfl }
open Go.Lib in
/-- internal/strconv.numDigits, at a d that is not 0: THE NUMBER OF d's DECIMAL DIGITS. The world is as it was. (LAID: no walk: one application.) -/
theorem Tryz.internal_strconv_numDigits (u : Nat) (h1 : 1 ≤ u) (h2 : u < 18446744073709551616) (w : World) (htab : Lib.TabIs Tryz.prog w "internal/strconv.uint64pow10" .u64 Lib.pow10Tab) :
    Calls Tryz.prog 282 #[.int .u64 u] w fun e w' => e = .returned (.int .i64 (Lib.nDigits u)) ∧ w' = w := Any.internal_strconv_numDigits Tryz.laysM284 u h1 h2 w htab
def Tryz.lays285_ren : Go.Shelf.Ren := ⟨fun | 285 => 283 | n => n, fun | 37 => 27 | 53 => 106 | 3 => 3 | 4 => 4 | 51 => 104 | 9 => 9 | 5 => 5 | 0 => 0 | n => n, fun | n => n⟩
theorem Tryz.lays285 : Go.Proofs.Lays.n285 Tryz.prog Tryz.lays285_ren := {
  mixed := by kernel_rfl
  f285 := Tryz.func283.trans (congrArg some (by kernel_rfl))
  t0 := Tryz.underlying0
  a0 := Tryz.isAgg0
  z0 := Tryz.sizeOf0
  v0 := Tryz.zeroValue0
  t3 := Tryz.underlying3
  a3 := Tryz.isAgg3
  z3 := Tryz.sizeOf3
  v3 := Tryz.zeroValue3
  t4 := Tryz.underlying4
  a4 := Tryz.isAgg4
  z4 := Tryz.sizeOf4
  v4 := Tryz.zeroValue4
  t5 := Tryz.underlying5
  a5 := Tryz.isAgg5
  z5 := Tryz.sizeOf5
  v5 := Tryz.zeroValue5
  t9 := Tryz.underlying9
  a9 := Tryz.isAgg9
  z9 := Tryz.sizeOf9
  v9 := Tryz.zeroValue9
  t37 := Tryz.underlying27
  a37 := Tryz.isAgg27
  z37 := Tryz.sizeOf27
  v37 := Tryz.zeroValue27
  t51 := Tryz.underlying104
  a51 := Tryz.isAgg104
  z51 := Tryz.sizeOf104
  v51 := Tryz.zeroValue104
  t53 := Tryz.underlying106
  a53 := Tryz.isAgg106
  z53 := Tryz.sizeOf106
  v53 := Tryz.zeroValue106 }
open Go.RowKit Go.Sort Go.Lib in
/-- internal/strconv.formatBase10: "formatBase10 formats the decimal representation of u into a. The caller is responsible for ensuring that a is big enough to hold u. If a is too big, leading zeros will be filled in as needed.": THE ROW HOLDS u's DIGITS ('FmtInv .. 0 ..': every place t holds 'dg u (len - 1 - t)'); all else is as it was but for the count of draws. (LAID: no walk: one application.) -/
theorem Tryz.internal_strconv_formatBase10 (blk off cap : Nat) (u : Nat) (d : Array UInt8) (w : World) (hH : Holds (fun (b : UInt8) => Value.int .u8 (b.toNat : Int)) w blk off d) (hu : u < 10 ^ d.size) (hu64 : u < 18446744073709551616) (hsz : d.size < 4611686018427387904) :
    Calls Tryz.prog 283 #[.slice (some ⟨blk, off, none⟩) d.size cap, .int .u64 u] w fun e w' =>
      e = .returned (.tuple #[]) ∧ ∃ (n v' : Nat) (dk : Array UInt8), w' = (putRow (fun (b : UInt8) => Value.int .u8 (b.toNat : Int)) w blk off dk).drewN n ∧ FmtInv d.size u 0 v' dk := Any.internal_strconv_formatBase10 Tryz.lays285 blk off cap u d w hH hu hu64 hsz
def Tryz.laysM246_ren : Go.Shelf.Ren := ⟨fun | 246 => 285 | 283 => 281 | 284 => 282 | 285 => 283 | 286 => 284 | 129 => 52 | 317 => 329 | 318 => 330 | 319 => 331 | 320 => 332 | 337 => 345 | 338 => 346 | n => n, fun | 2 => 2 | 3 => 3 | 9 => 9 | 4 => 4 | 171 => 238 | 0 => 0 | 53 => 106 | 37 => 27 | 5 => 5 | 173 => 239 | 212 => 295 | 51 => 104 | 20 => 20 | 213 => 296 | 46 => 76 | 232 => 109 | 233 => 247 | n => n, fun | 17 => 14 | 18 => 23 | 19 => 24 | n => n⟩
theorem Tryz.laysM246 : Go.Proofs.LaysM.n246 Tryz.prog Tryz.laysM246_ren := {
  mixed := by kernel_rfl
  f129 := Tryz.func52.trans (congrArg some (by kernel_rfl))
  f246 := Tryz.func285.trans (congrArg some (by kernel_rfl))
  f283 := Tryz.func281.trans (congrArg some (by kernel_rfl))
  f284 := Tryz.func282.trans (congrArg some (by kernel_rfl))
  f285 := Tryz.func283.trans (congrArg some (by kernel_rfl))
  f286 := Tryz.func284.trans (congrArg some (by kernel_rfl))
  f317 := Tryz.func329.trans (congrArg some (by kernel_rfl))
  f318 := Tryz.func330.trans (congrArg some (by kernel_rfl))
  f319 := Tryz.func331.trans (congrArg some (by kernel_rfl))
  f320 := Tryz.func332.trans (congrArg some (by kernel_rfl))
  f337 := Tryz.func345.trans (congrArg some (by kernel_rfl))
  f338 := Tryz.func346.trans (congrArg some (by kernel_rfl))
  t0 := Tryz.underlying0
  a0 := Tryz.isAgg0
  z0 := Tryz.sizeOf0
  v0 := Tryz.zeroValue0
  t2 := Tryz.underlying2
  a2 := Tryz.isAgg2
  z2 := Tryz.sizeOf2
  v2 := Tryz.zeroValue2
  t3 := Tryz.underlying3
  a3 := Tryz.isAgg3
  z3 := Tryz.sizeOf3
  v3 := Tryz.zeroValue3
  t4 := Tryz.underlying4
  a4 := Tryz.isAgg4
  z4 := Tryz.sizeOf4
  v4 := Tryz.zeroValue4
  t5 := Tryz.underlying5
  a5 := Tryz.isAgg5
  z5 := Tryz.sizeOf5
  v5 := Tryz.zeroValue5
  t9 := Tryz.underlying9
  a9 := Tryz.isAgg9
  z9 := Tryz.sizeOf9
  v9 := Tryz.zeroValue9
  t20 := Tryz.underlying20
  a20 := Tryz.isAgg20
  z20 := Tryz.sizeOf20
  v20 := Tryz.zeroValue20
  t37 := Tryz.underlying27
  a37 := Tryz.isAgg27
  z37 := Tryz.sizeOf27
  v37 := Tryz.zeroValue27
  t46 := Tryz.underlying76
  a46 := Tryz.isAgg76
  z46 := Tryz.sizeOf76
  v46 := Tryz.zeroValue76
  t51 := Tryz.underlying104
  a51 := Tryz.isAgg104
  z51 := Tryz.sizeOf104
  v51 := Tryz.zeroValue104
  t53 := Tryz.underlying106
  a53 := Tryz.isAgg106
  z53 := Tryz.sizeOf106
  v53 := Tryz.zeroValue106
  t171 := Tryz.underlying238
  a171 := Tryz.isAgg238
  z171 := Tryz.sizeOf238
  v171 := Tryz.zeroValue238
  t173 := Tryz.underlying239
  a173 := Tryz.isAgg239
  z173 := Tryz.sizeOf239
  v173 := Tryz.zeroValue239
  t212 := Tryz.underlying295
  a212 := Tryz.isAgg295
  z212 := Tryz.sizeOf295
  v212 := Tryz.zeroValue295
  t213 := Tryz.underlying296
  a213 := Tryz.isAgg296
  z213 := Tryz.sizeOf296
  t232 := Tryz.underlying109
  a232 := Tryz.isAgg109
  z232 := Tryz.sizeOf109
  v232 := Tryz.zeroValue109
  t233 := Tryz.underlying247
  a233 := Tryz.isAgg247
  z233 := Tryz.sizeOf247
  v233 := Tryz.zeroValue247
  g17 := by kernel_rfl
  g18 := by kernel_rfl
  g19 := by kernel_rfl
  i0 := by kernel_rfl
  i2 := by kernel_rfl
  i3 := by kernel_rfl
  i4 := by kernel_rfl
  i5 := by kernel_rfl
  i9 := by kernel_rfl
  i20 := by kernel_rfl
  i37 := by kernel_rfl
  i46 := by kernel_rfl
  i51 := by kernel_rfl
  i53 := by kernel_rfl
  i171 := by kernel_rfl
  i173 := by kernel_rfl
  i212 := by kernel_rfl
  i232 := by kernel_rfl
  i233 := by kernel_rfl
  m17 := by kernel_rfl
  m18 := by kernel_rfl
  m19 := by kernel_rfl }
open Go.RowKit Go.Sort Go.Lib in
/-- internal/strconv.FormatInt: "FormatInt returns the string representation of i in the given base": AT BASE 10: i's decimal numeral, for every int64. The world behind the call: the world before it, new blocks behind the heap, draws. (LAID: no walk: one application.) -/
theorem Tryz.internal_strconv_FormatInt_10 (n : Int) (h0 : -9223372036854775808 ≤ n) (h1 : n ≤ 9223372036854775807) (w : World) (htab : Lib.TabIs Tryz.prog w "internal/strconv.uint64pow10" .u64 Lib.pow10Tab) :
    Calls Tryz.prog 285 #[.int .i64 n, .int .i64 10] w fun e w' => e = .returned (.string ⟨(Lib.itoa n).toArray⟩) ∧ ∃ k os, w' = grow (w.drewN k) os := Any.internal_strconv_FormatInt_10 Tryz.laysM246 n h0 h1 w htab
def Tryz.lays246_ren : Go.Shelf.Ren := ⟨fun | 246 => 285 | 283 => 281 | 284 => 282 | 285 => 283 | 286 => 284 | 129 => 52 | 317 => 329 | 318 => 330 | 319 => 331 | 320 => 332 | 337 => 345 | 338 => 346 | n => n, fun | 2 => 2 | 3 => 3 | 9 => 9 | 4 => 4 | 171 => 238 | 0 => 0 | 53 => 106 | 37 => 27 | 5 => 5 | 173 => 239 | 212 => 295 | 51 => 104 | 20 => 20 | 213 => 296 | 46 => 76 | 232 => 109 | 233 => 247 | n => n, fun | 17 => 14 | 18 => 23 | 19 => 24 | n => n⟩
theorem Tryz.lays246 : Go.Proofs.Lays.n246 Tryz.prog Tryz.lays246_ren := {
  mixed := by kernel_rfl
  f129 := Tryz.func52.trans (congrArg some (by kernel_rfl))
  f246 := Tryz.func285.trans (congrArg some (by kernel_rfl))
  f283 := Tryz.func281.trans (congrArg some (by kernel_rfl))
  f284 := Tryz.func282.trans (congrArg some (by kernel_rfl))
  f285 := Tryz.func283.trans (congrArg some (by kernel_rfl))
  f286 := Tryz.func284.trans (congrArg some (by kernel_rfl))
  f317 := Tryz.func329.trans (congrArg some (by kernel_rfl))
  f318 := Tryz.func330.trans (congrArg some (by kernel_rfl))
  f319 := Tryz.func331.trans (congrArg some (by kernel_rfl))
  f320 := Tryz.func332.trans (congrArg some (by kernel_rfl))
  f337 := Tryz.func345.trans (congrArg some (by kernel_rfl))
  f338 := Tryz.func346.trans (congrArg some (by kernel_rfl))
  t0 := Tryz.underlying0
  a0 := Tryz.isAgg0
  z0 := Tryz.sizeOf0
  v0 := Tryz.zeroValue0
  t2 := Tryz.underlying2
  a2 := Tryz.isAgg2
  z2 := Tryz.sizeOf2
  v2 := Tryz.zeroValue2
  t3 := Tryz.underlying3
  a3 := Tryz.isAgg3
  z3 := Tryz.sizeOf3
  v3 := Tryz.zeroValue3
  t4 := Tryz.underlying4
  a4 := Tryz.isAgg4
  z4 := Tryz.sizeOf4
  v4 := Tryz.zeroValue4
  t5 := Tryz.underlying5
  a5 := Tryz.isAgg5
  z5 := Tryz.sizeOf5
  v5 := Tryz.zeroValue5
  t9 := Tryz.underlying9
  a9 := Tryz.isAgg9
  z9 := Tryz.sizeOf9
  v9 := Tryz.zeroValue9
  t20 := Tryz.underlying20
  a20 := Tryz.isAgg20
  z20 := Tryz.sizeOf20
  v20 := Tryz.zeroValue20
  t37 := Tryz.underlying27
  a37 := Tryz.isAgg27
  z37 := Tryz.sizeOf27
  v37 := Tryz.zeroValue27
  t46 := Tryz.underlying76
  a46 := Tryz.isAgg76
  z46 := Tryz.sizeOf76
  v46 := Tryz.zeroValue76
  t51 := Tryz.underlying104
  a51 := Tryz.isAgg104
  z51 := Tryz.sizeOf104
  v51 := Tryz.zeroValue104
  t53 := Tryz.underlying106
  a53 := Tryz.isAgg106
  z53 := Tryz.sizeOf106
  v53 := Tryz.zeroValue106
  t171 := Tryz.underlying238
  a171 := Tryz.isAgg238
  z171 := Tryz.sizeOf238
  v171 := Tryz.zeroValue238
  t173 := Tryz.underlying239
  a173 := Tryz.isAgg239
  z173 := Tryz.sizeOf239
  v173 := Tryz.zeroValue239
  t212 := Tryz.underlying295
  a212 := Tryz.isAgg295
  z212 := Tryz.sizeOf295
  v212 := Tryz.zeroValue295
  t213 := Tryz.underlying296
  a213 := Tryz.isAgg296
  z213 := Tryz.sizeOf296
  t232 := Tryz.underlying109
  a232 := Tryz.isAgg109
  z232 := Tryz.sizeOf109
  v232 := Tryz.zeroValue109
  t233 := Tryz.underlying247
  a233 := Tryz.isAgg247
  z233 := Tryz.sizeOf247
  v233 := Tryz.zeroValue247
  g17 := by kernel_rfl
  g18 := by kernel_rfl
  g19 := by kernel_rfl }
open Go.RowKit Go.Sort Go.Lib in
/-- THE ROAD WITHOUT THE TABLE: 0 <= i < 100: two constants are read, nothing is laid: no premise on the world, and the world is as it was. (LAID: no walk: one application.) -/
theorem Tryz.internal_strconv_FormatInt_10_small (i : Nat) (hi : i < 100) (w : World) :
    Calls Tryz.prog 285 #[.int .i64 i, .int .i64 10] w fun e w' => e = .returned (.string ⟨(Lib.decDigits i).toArray⟩) ∧ w' = w := Any.internal_strconv_FormatInt_10_small Tryz.lays246 i hi w
def Tryz.laysM243_ren : Go.Shelf.Ren := ⟨fun | 243 => 221 | 246 => 285 | 283 => 281 | 284 => 282 | 285 => 283 | 286 => 284 | 129 => 52 | 317 => 329 | 318 => 330 | 319 => 331 | 320 => 332 | 337 => 345 | 338 => 346 | n => n, fun | 3 => 3 | 9 => 9 | 2 => 2 | 4 => 4 | 171 => 238 | 0 => 0 | 53 => 106 | 37 => 27 | 5 => 5 | 173 => 239 | 212 => 295 | 51 => 104 | 20 => 20 | 213 => 296 | 46 => 76 | 232 => 109 | 233 => 247 | n => n, fun | 17 => 14 | 18 => 23 | 19 => 24 | n => n⟩
theorem Tryz.laysM243 : Go.Proofs.LaysM.n243 Tryz.prog Tryz.laysM243_ren := {
  mixed := by kernel_rfl
  f129 := Tryz.func52.trans (congrArg some (by kernel_rfl))
  f243 := Tryz.func221.trans (congrArg some (by kernel_rfl))
  f246 := Tryz.func285.trans (congrArg some (by kernel_rfl))
  f283 := Tryz.func281.trans (congrArg some (by kernel_rfl))
  f284 := Tryz.func282.trans (congrArg some (by kernel_rfl))
  f285 := Tryz.func283.trans (congrArg some (by kernel_rfl))
  f286 := Tryz.func284.trans (congrArg some (by kernel_rfl))
  f317 := Tryz.func329.trans (congrArg some (by kernel_rfl))
  f318 := Tryz.func330.trans (congrArg some (by kernel_rfl))
  f319 := Tryz.func331.trans (congrArg some (by kernel_rfl))
  f320 := Tryz.func332.trans (congrArg some (by kernel_rfl))
  f337 := Tryz.func345.trans (congrArg some (by kernel_rfl))
  f338 := Tryz.func346.trans (congrArg some (by kernel_rfl))
  t0 := Tryz.underlying0
  a0 := Tryz.isAgg0
  z0 := Tryz.sizeOf0
  v0 := Tryz.zeroValue0
  t2 := Tryz.underlying2
  a2 := Tryz.isAgg2
  z2 := Tryz.sizeOf2
  v2 := Tryz.zeroValue2
  t3 := Tryz.underlying3
  a3 := Tryz.isAgg3
  z3 := Tryz.sizeOf3
  v3 := Tryz.zeroValue3
  t4 := Tryz.underlying4
  a4 := Tryz.isAgg4
  z4 := Tryz.sizeOf4
  v4 := Tryz.zeroValue4
  t5 := Tryz.underlying5
  a5 := Tryz.isAgg5
  z5 := Tryz.sizeOf5
  v5 := Tryz.zeroValue5
  t9 := Tryz.underlying9
  a9 := Tryz.isAgg9
  z9 := Tryz.sizeOf9
  v9 := Tryz.zeroValue9
  t20 := Tryz.underlying20
  a20 := Tryz.isAgg20
  z20 := Tryz.sizeOf20
  v20 := Tryz.zeroValue20
  t37 := Tryz.underlying27
  a37 := Tryz.isAgg27
  z37 := Tryz.sizeOf27
  v37 := Tryz.zeroValue27
  t46 := Tryz.underlying76
  a46 := Tryz.isAgg76
  z46 := Tryz.sizeOf76
  v46 := Tryz.zeroValue76
  t51 := Tryz.underlying104
  a51 := Tryz.isAgg104
  z51 := Tryz.sizeOf104
  v51 := Tryz.zeroValue104
  t53 := Tryz.underlying106
  a53 := Tryz.isAgg106
  z53 := Tryz.sizeOf106
  v53 := Tryz.zeroValue106
  t171 := Tryz.underlying238
  a171 := Tryz.isAgg238
  z171 := Tryz.sizeOf238
  v171 := Tryz.zeroValue238
  t173 := Tryz.underlying239
  a173 := Tryz.isAgg239
  z173 := Tryz.sizeOf239
  v173 := Tryz.zeroValue239
  t212 := Tryz.underlying295
  a212 := Tryz.isAgg295
  z212 := Tryz.sizeOf295
  v212 := Tryz.zeroValue295
  t213 := Tryz.underlying296
  a213 := Tryz.isAgg296
  z213 := Tryz.sizeOf296
  t232 := Tryz.underlying109
  a232 := Tryz.isAgg109
  z232 := Tryz.sizeOf109
  v232 := Tryz.zeroValue109
  t233 := Tryz.underlying247
  a233 := Tryz.isAgg247
  z233 := Tryz.sizeOf247
  v233 := Tryz.zeroValue247
  g17 := by kernel_rfl
  g18 := by kernel_rfl
  g19 := by kernel_rfl
  i0 := by kernel_rfl
  i2 := by kernel_rfl
  i3 := by kernel_rfl
  i4 := by kernel_rfl
  i5 := by kernel_rfl
  i9 := by kernel_rfl
  i20 := by kernel_rfl
  i37 := by kernel_rfl
  i46 := by kernel_rfl
  i51 := by kernel_rfl
  i53 := by kernel_rfl
  i171 := by kernel_rfl
  i173 := by kernel_rfl
  i212 := by kernel_rfl
  i232 := by kernel_rfl
  i233 := by kernel_rfl
  m17 := by kernel_rfl
  m18 := by kernel_rfl
  m19 := by kernel_rfl }
open Go.RowKit Go.Sort Go.Lib in
/-- internal/strconv.Itoa: "Itoa is equivalent to FormatInt(int64(i), 10).": i's decimal numeral, for every int. (LAID: no walk: one application.) -/
theorem Tryz.internal_strconv_Itoa (n : Int) (h0 : -9223372036854775808 ≤ n) (h1 : n ≤ 9223372036854775807) (w : World) (htab : Lib.TabIs Tryz.prog w "internal/strconv.uint64pow10" .u64 Lib.pow10Tab) :
    Calls Tryz.prog 221 #[.int .i64 n] w fun e w' => e = .returned (.string ⟨(Lib.itoa n).toArray⟩) ∧ ∃ k os, w' = grow (w.drewN k) os := Any.internal_strconv_Itoa Tryz.laysM243 n h0 h1 w htab
def Tryz.lays243_ren : Go.Shelf.Ren := ⟨fun | 243 => 221 | 246 => 285 | 283 => 281 | 284 => 282 | 285 => 283 | 286 => 284 | 129 => 52 | 317 => 329 | 318 => 330 | 319 => 331 | 320 => 332 | 337 => 345 | 338 => 346 | n => n, fun | 3 => 3 | 9 => 9 | 2 => 2 | 4 => 4 | 171 => 238 | 0 => 0 | 53 => 106 | 37 => 27 | 5 => 5 | 173 => 239 | 212 => 295 | 51 => 104 | 20 => 20 | 213 => 296 | 46 => 76 | 232 => 109 | 233 => 247 | n => n, fun | 17 => 14 | 18 => 23 | 19 => 24 | n => n⟩
theorem Tryz.lays243 : Go.Proofs.Lays.n243 Tryz.prog Tryz.lays243_ren := {
  mixed := by kernel_rfl
  f129 := Tryz.func52.trans (congrArg some (by kernel_rfl))
  f243 := Tryz.func221.trans (congrArg some (by kernel_rfl))
  f246 := Tryz.func285.trans (congrArg some (by kernel_rfl))
  f283 := Tryz.func281.trans (congrArg some (by kernel_rfl))
  f284 := Tryz.func282.trans (congrArg some (by kernel_rfl))
  f285 := Tryz.func283.trans (congrArg some (by kernel_rfl))
  f286 := Tryz.func284.trans (congrArg some (by kernel_rfl))
  f317 := Tryz.func329.trans (congrArg some (by kernel_rfl))
  f318 := Tryz.func330.trans (congrArg some (by kernel_rfl))
  f319 := Tryz.func331.trans (congrArg some (by kernel_rfl))
  f320 := Tryz.func332.trans (congrArg some (by kernel_rfl))
  f337 := Tryz.func345.trans (congrArg some (by kernel_rfl))
  f338 := Tryz.func346.trans (congrArg some (by kernel_rfl))
  t0 := Tryz.underlying0
  a0 := Tryz.isAgg0
  z0 := Tryz.sizeOf0
  v0 := Tryz.zeroValue0
  t2 := Tryz.underlying2
  a2 := Tryz.isAgg2
  z2 := Tryz.sizeOf2
  v2 := Tryz.zeroValue2
  t3 := Tryz.underlying3
  a3 := Tryz.isAgg3
  z3 := Tryz.sizeOf3
  v3 := Tryz.zeroValue3
  t4 := Tryz.underlying4
  a4 := Tryz.isAgg4
  z4 := Tryz.sizeOf4
  v4 := Tryz.zeroValue4
  t5 := Tryz.underlying5
  a5 := Tryz.isAgg5
  z5 := Tryz.sizeOf5
  v5 := Tryz.zeroValue5
  t9 := Tryz.underlying9
  a9 := Tryz.isAgg9
  z9 := Tryz.sizeOf9
  v9 := Tryz.zeroValue9
  t20 := Tryz.underlying20
  a20 := Tryz.isAgg20
  z20 := Tryz.sizeOf20
  v20 := Tryz.zeroValue20
  t37 := Tryz.underlying27
  a37 := Tryz.isAgg27
  z37 := Tryz.sizeOf27
  v37 := Tryz.zeroValue27
  t46 := Tryz.underlying76
  a46 := Tryz.isAgg76
  z46 := Tryz.sizeOf76
  v46 := Tryz.zeroValue76
  t51 := Tryz.underlying104
  a51 := Tryz.isAgg104
  z51 := Tryz.sizeOf104
  v51 := Tryz.zeroValue104
  t53 := Tryz.underlying106
  a53 := Tryz.isAgg106
  z53 := Tryz.sizeOf106
  v53 := Tryz.zeroValue106
  t171 := Tryz.underlying238
  a171 := Tryz.isAgg238
  z171 := Tryz.sizeOf238
  v171 := Tryz.zeroValue238
  t173 := Tryz.underlying239
  a173 := Tryz.isAgg239
  z173 := Tryz.sizeOf239
  v173 := Tryz.zeroValue239
  t212 := Tryz.underlying295
  a212 := Tryz.isAgg295
  z212 := Tryz.sizeOf295
  v212 := Tryz.zeroValue295
  t213 := Tryz.underlying296
  a213 := Tryz.isAgg296
  z213 := Tryz.sizeOf296
  t232 := Tryz.underlying109
  a232 := Tryz.isAgg109
  z232 := Tryz.sizeOf109
  v232 := Tryz.zeroValue109
  t233 := Tryz.underlying247
  a233 := Tryz.isAgg247
  z233 := Tryz.sizeOf247
  v233 := Tryz.zeroValue247
  g17 := by kernel_rfl
  g18 := by kernel_rfl
  g19 := by kernel_rfl }
open Go.RowKit Go.Sort Go.Lib in
/-- THE ROAD WITHOUT THE TABLE: 0 <= i < 100. (LAID: no walk: one application.) -/
theorem Tryz.internal_strconv_Itoa_small (i : Nat) (hi : i < 100) (w : World) :
    Calls Tryz.prog 221 #[.int .i64 i] w fun e w' => e = .returned (.string ⟨(Lib.decDigits i).toArray⟩) ∧ w' = w := Any.internal_strconv_Itoa_small Tryz.lays243 i hi w
def Tryz.laysM171_ren : Go.Shelf.Ren := ⟨fun | 171 => 185 | 243 => 221 | 246 => 285 | 283 => 281 | 284 => 282 | 285 => 283 | 286 => 284 | 129 => 52 | 317 => 329 | 318 => 330 | 319 => 331 | 320 => 332 | 337 => 345 | 338 => 346 | n => n, fun | 3 => 3 | 9 => 9 | 2 => 2 | 4 => 4 | 171 => 238 | 0 => 0 | 53 => 106 | 37 => 27 | 5 => 5 | 173 => 239 | 212 => 295 | 51 => 104 | 20 => 20 | 213 => 296 | 46 => 76 | 232 => 109 | 233 => 247 | n => n, fun | 17 => 14 | 18 => 23 | 19 => 24 | n => n⟩
theorem Tryz.laysM171 : Go.Proofs.LaysM.n171 Tryz.prog Tryz.laysM171_ren := {
  mixed := by kernel_rfl
  f129 := Tryz.func52.trans (congrArg some (by kernel_rfl))
  f171 := Tryz.func185.trans (congrArg some (by kernel_rfl))
  f243 := Tryz.func221.trans (congrArg some (by kernel_rfl))
  f246 := Tryz.func285.trans (congrArg some (by kernel_rfl))
  f283 := Tryz.func281.trans (congrArg some (by kernel_rfl))
  f284 := Tryz.func282.trans (congrArg some (by kernel_rfl))
  f285 := Tryz.func283.trans (congrArg some (by kernel_rfl))
  f286 := Tryz.func284.trans (congrArg some (by kernel_rfl))
  f317 := Tryz.func329.trans (congrArg some (by kernel_rfl))
  f318 := Tryz.func330.trans (congrArg some (by kernel_rfl))
  f319 := Tryz.func331.trans (congrArg some (by kernel_rfl))
  f320 := Tryz.func332.trans (congrArg some (by kernel_rfl))
  f337 := Tryz.func345.trans (congrArg some (by kernel_rfl))
  f338 := Tryz.func346.trans (congrArg some (by kernel_rfl))
  t0 := Tryz.underlying0
  a0 := Tryz.isAgg0
  z0 := Tryz.sizeOf0
  v0 := Tryz.zeroValue0
  t2 := Tryz.underlying2
  a2 := Tryz.isAgg2
  z2 := Tryz.sizeOf2
  v2 := Tryz.zeroValue2
  t3 := Tryz.underlying3
  a3 := Tryz.isAgg3
  z3 := Tryz.sizeOf3
  v3 := Tryz.zeroValue3
  t4 := Tryz.underlying4
  a4 := Tryz.isAgg4
  z4 := Tryz.sizeOf4
  v4 := Tryz.zeroValue4
  t5 := Tryz.underlying5
  a5 := Tryz.isAgg5
  z5 := Tryz.sizeOf5
  v5 := Tryz.zeroValue5
  t9 := Tryz.underlying9
  a9 := Tryz.isAgg9
  z9 := Tryz.sizeOf9
  v9 := Tryz.zeroValue9
  t20 := Tryz.underlying20
  a20 := Tryz.isAgg20
  z20 := Tryz.sizeOf20
  v20 := Tryz.zeroValue20
  t37 := Tryz.underlying27
  a37 := Tryz.isAgg27
  z37 := Tryz.sizeOf27
  v37 := Tryz.zeroValue27
  t46 := Tryz.underlying76
  a46 := Tryz.isAgg76
  z46 := Tryz.sizeOf76
  v46 := Tryz.zeroValue76
  t51 := Tryz.underlying104
  a51 := Tryz.isAgg104
  z51 := Tryz.sizeOf104
  v51 := Tryz.zeroValue104
  t53 := Tryz.underlying106
  a53 := Tryz.isAgg106
  z53 := Tryz.sizeOf106
  v53 := Tryz.zeroValue106
  t171 := Tryz.underlying238
  a171 := Tryz.isAgg238
  z171 := Tryz.sizeOf238
  v171 := Tryz.zeroValue238
  t173 := Tryz.underlying239
  a173 := Tryz.isAgg239
  z173 := Tryz.sizeOf239
  v173 := Tryz.zeroValue239
  t212 := Tryz.underlying295
  a212 := Tryz.isAgg295
  z212 := Tryz.sizeOf295
  v212 := Tryz.zeroValue295
  t213 := Tryz.underlying296
  a213 := Tryz.isAgg296
  z213 := Tryz.sizeOf296
  t232 := Tryz.underlying109
  a232 := Tryz.isAgg109
  z232 := Tryz.sizeOf109
  v232 := Tryz.zeroValue109
  t233 := Tryz.underlying247
  a233 := Tryz.isAgg247
  z233 := Tryz.sizeOf247
  v233 := Tryz.zeroValue247
  g17 := by kernel_rfl
  g18 := by kernel_rfl
  g19 := by kernel_rfl
  i0 := by kernel_rfl
  i2 := by kernel_rfl
  i3 := by kernel_rfl
  i4 := by kernel_rfl
  i5 := by kernel_rfl
  i9 := by kernel_rfl
  i20 := by kernel_rfl
  i37 := by kernel_rfl
  i46 := by kernel_rfl
  i51 := by kernel_rfl
  i53 := by kernel_rfl
  i171 := by kernel_rfl
  i173 := by kernel_rfl
  i212 := by kernel_rfl
  i232 := by kernel_rfl
  i233 := by kernel_rfl
  m17 := by kernel_rfl
  m18 := by kernel_rfl
  m19 := by kernel_rfl }
open Go.RowKit Go.Sort Go.Lib in
/-- strconv.Itoa: "Itoa is equivalent to FormatInt(int64(i), 10).": i's DECIMAL NUMERAL ('Lib.itoa': a '-' where i is negative, then the digits), FOR EVERY int. The world behind the call: the world before it, new blocks behind the heap (the library's 'var a [24]byte'), draws. (LAID: no walk: one application.) -/
theorem Tryz.strconv_Itoa (n : Int) (h0 : -9223372036854775808 ≤ n) (h1 : n ≤ 9223372036854775807) (w : World) (htab : Lib.TabIs Tryz.prog w "internal/strconv.uint64pow10" .u64 Lib.pow10Tab) :
    Calls Tryz.prog 185 #[.int .i64 n] w fun e w' => e = .returned (.string ⟨(Lib.itoa n).toArray⟩) ∧ ∃ k os, w' = grow (w.drewN k) os := Any.strconv_Itoa Tryz.laysM171 n h0 h1 w htab
def Tryz.lays171_ren : Go.Shelf.Ren := ⟨fun | 171 => 185 | 243 => 221 | 246 => 285 | 283 => 281 | 284 => 282 | 285 => 283 | 286 => 284 | 129 => 52 | 317 => 329 | 318 => 330 | 319 => 331 | 320 => 332 | 337 => 345 | 338 => 346 | n => n, fun | 3 => 3 | 9 => 9 | 2 => 2 | 4 => 4 | 171 => 238 | 0 => 0 | 53 => 106 | 37 => 27 | 5 => 5 | 173 => 239 | 212 => 295 | 51 => 104 | 20 => 20 | 213 => 296 | 46 => 76 | 232 => 109 | 233 => 247 | n => n, fun | 17 => 14 | 18 => 23 | 19 => 24 | n => n⟩
theorem Tryz.lays171 : Go.Proofs.Lays.n171 Tryz.prog Tryz.lays171_ren := {
  mixed := by kernel_rfl
  f129 := Tryz.func52.trans (congrArg some (by kernel_rfl))
  f171 := Tryz.func185.trans (congrArg some (by kernel_rfl))
  f243 := Tryz.func221.trans (congrArg some (by kernel_rfl))
  f246 := Tryz.func285.trans (congrArg some (by kernel_rfl))
  f283 := Tryz.func281.trans (congrArg some (by kernel_rfl))
  f284 := Tryz.func282.trans (congrArg some (by kernel_rfl))
  f285 := Tryz.func283.trans (congrArg some (by kernel_rfl))
  f286 := Tryz.func284.trans (congrArg some (by kernel_rfl))
  f317 := Tryz.func329.trans (congrArg some (by kernel_rfl))
  f318 := Tryz.func330.trans (congrArg some (by kernel_rfl))
  f319 := Tryz.func331.trans (congrArg some (by kernel_rfl))
  f320 := Tryz.func332.trans (congrArg some (by kernel_rfl))
  f337 := Tryz.func345.trans (congrArg some (by kernel_rfl))
  f338 := Tryz.func346.trans (congrArg some (by kernel_rfl))
  t0 := Tryz.underlying0
  a0 := Tryz.isAgg0
  z0 := Tryz.sizeOf0
  v0 := Tryz.zeroValue0
  t2 := Tryz.underlying2
  a2 := Tryz.isAgg2
  z2 := Tryz.sizeOf2
  v2 := Tryz.zeroValue2
  t3 := Tryz.underlying3
  a3 := Tryz.isAgg3
  z3 := Tryz.sizeOf3
  v3 := Tryz.zeroValue3
  t4 := Tryz.underlying4
  a4 := Tryz.isAgg4
  z4 := Tryz.sizeOf4
  v4 := Tryz.zeroValue4
  t5 := Tryz.underlying5
  a5 := Tryz.isAgg5
  z5 := Tryz.sizeOf5
  v5 := Tryz.zeroValue5
  t9 := Tryz.underlying9
  a9 := Tryz.isAgg9
  z9 := Tryz.sizeOf9
  v9 := Tryz.zeroValue9
  t20 := Tryz.underlying20
  a20 := Tryz.isAgg20
  z20 := Tryz.sizeOf20
  v20 := Tryz.zeroValue20
  t37 := Tryz.underlying27
  a37 := Tryz.isAgg27
  z37 := Tryz.sizeOf27
  v37 := Tryz.zeroValue27
  t46 := Tryz.underlying76
  a46 := Tryz.isAgg76
  z46 := Tryz.sizeOf76
  v46 := Tryz.zeroValue76
  t51 := Tryz.underlying104
  a51 := Tryz.isAgg104
  z51 := Tryz.sizeOf104
  v51 := Tryz.zeroValue104
  t53 := Tryz.underlying106
  a53 := Tryz.isAgg106
  z53 := Tryz.sizeOf106
  v53 := Tryz.zeroValue106
  t171 := Tryz.underlying238
  a171 := Tryz.isAgg238
  z171 := Tryz.sizeOf238
  v171 := Tryz.zeroValue238
  t173 := Tryz.underlying239
  a173 := Tryz.isAgg239
  z173 := Tryz.sizeOf239
  v173 := Tryz.zeroValue239
  t212 := Tryz.underlying295
  a212 := Tryz.isAgg295
  z212 := Tryz.sizeOf295
  v212 := Tryz.zeroValue295
  t213 := Tryz.underlying296
  a213 := Tryz.isAgg296
  z213 := Tryz.sizeOf296
  t232 := Tryz.underlying109
  a232 := Tryz.isAgg109
  z232 := Tryz.sizeOf109
  v232 := Tryz.zeroValue109
  t233 := Tryz.underlying247
  a233 := Tryz.isAgg247
  z233 := Tryz.sizeOf247
  v233 := Tryz.zeroValue247
  g17 := by kernel_rfl
  g18 := by kernel_rfl
  g19 := by kernel_rfl }
open Go.RowKit Go.Sort Go.Lib in
/-- THE ROAD WITHOUT THE TABLE: 0 <= i < 100: NO PREMISE ON THE WORLD, AND THE WORLD IS AS IT WAS: a row that keeps its argument in that range need list no table ('laid = []'). (LAID: no walk: one application.) -/
theorem Tryz.strconv_Itoa_small (i : Nat) (hi : i < 100) (w : World) :
    Calls Tryz.prog 185 #[.int .i64 i] w fun e w' => e = .returned (.string ⟨(Lib.decDigits i).toArray⟩) ∧ w' = w := Any.strconv_Itoa_small Tryz.lays171 i hi w
def Tryz.laysBin36_ren : Go.Shelf.Ren := ⟨fun | 36 => 180 | n => n, fun | 37 => 155 | 22 => 27 | 23 => 157 | 0 => 0 | 5 => 5 | 45 => 76 | n => n, fun | n => n⟩
theorem Tryz.laysBin36 : Go.Proofs.LaysBin.n36 Tryz.prog Tryz.laysBin36_ren := {
  mixed := by kernel_rfl
  f36 := Tryz.func180.trans (congrArg some (by kernel_rfl))
  t0 := Tryz.underlying0
  a0 := Tryz.isAgg0
  z0 := Tryz.sizeOf0
  v0 := Tryz.zeroValue0
  i0 := by kernel_rfl
  t5 := Tryz.underlying5
  a5 := Tryz.isAgg5
  z5 := Tryz.sizeOf5
  v5 := Tryz.zeroValue5
  i5 := by kernel_rfl
  t22 := Tryz.underlying27
  a22 := Tryz.isAgg27
  z22 := Tryz.sizeOf27
  v22 := Tryz.zeroValue27
  i22 := by kernel_rfl
  t23 := Tryz.underlying157
  a23 := Tryz.isAgg157
  z23 := Tryz.sizeOf157
  v23 := Tryz.zeroValue157
  i23 := by kernel_rfl
  t37 := Tryz.underlying155
  a37 := Tryz.isAgg155
  z37 := Tryz.sizeOf155
  v37 := Tryz.zeroValue155
  i37 := by kernel_rfl
  t45 := Tryz.underlying76
  a45 := Tryz.isAgg76
  z45 := Tryz.sizeOf76
  v45 := Tryz.zeroValue76
  i45 := by kernel_rfl }
open Go.RowKit in
/-- binary.BigEndian.Uint16: "Uint16 returns the uint16 representation of b[0:2].": THE NUMBER THAT THE FIRST 2 BYTES SPELL, the greatest byte first ('Lib.beNat'). Of what was there nothing has turned (the receiver, an empty struct, is laid in a new block without cells; the statement's order is drawn). (LAID: no walk: one application.) -/
theorem Tryz.binary_BE_Uint16 (g o n c : Nat) (b0 b1 : UInt8) (w : World) (hn : 2 ≤ n) (c0 : w.cell? ⟨g, o, none⟩ = some (.int .u8 b0.toNat)) (c1 : w.cell? ⟨g, o + 1, none⟩ = some (.int .u8 b1.toNat)) :
    Calls Tryz.prog 180 #[.agg #[], .slice (some ⟨g, o, none⟩) n c] w fun e w' => e = .returned (.int .u16 (Lib.beNat [b0, b1])) ∧ Below w.heap.size w w' := Any.binary_BE_Uint16 Tryz.laysBin36 g o n c b0 b1 w hn c0 c1
def Tryz.laysBin43_ren : Go.Shelf.Ren := ⟨fun | 43 => 209 | n => n, fun | 37 => 155 | 22 => 27 | 33 => 106 | 0 => 0 | 5 => 5 | 45 => 76 | n => n, fun | n => n⟩
theorem Tryz.laysBin43 : Go.Proofs.LaysBin.n43 Tryz.prog Tryz.laysBin43_ren := {
  mixed := by kernel_rfl
  f43 := Tryz.func209.trans (congrArg some (by kernel_rfl))
  t0 := Tryz.underlying0
  a0 := Tryz.isAgg0
  z0 := Tryz.sizeOf0
  v0 := Tryz.zeroValue0
  i0 := by kernel_rfl
  t5 := Tryz.underlying5
  a5 := Tryz.isAgg5
  z5 := Tryz.sizeOf5
  v5 := Tryz.zeroValue5
  i5 := by kernel_rfl
  t22 := Tryz.underlying27
  a22 := Tryz.isAgg27
  z22 := Tryz.sizeOf27
  v22 := Tryz.zeroValue27
  i22 := by kernel_rfl
  t33 := Tryz.underlying106
  a33 := Tryz.isAgg106
  z33 := Tryz.sizeOf106
  v33 := Tryz.zeroValue106
  i33 := by kernel_rfl
  t37 := Tryz.underlying155
  a37 := Tryz.isAgg155
  z37 := Tryz.sizeOf155
  v37 := Tryz.zeroValue155
  i37 := by kernel_rfl
  t45 := Tryz.underlying76
  a45 := Tryz.isAgg76
  z45 := Tryz.sizeOf76
  v45 := Tryz.zeroValue76
  i45 := by kernel_rfl }
open Go.RowKit in
/-- binary.BigEndian.PutUint64: "PutUint64 stores v into b[0:8].": v's 8 BYTES, the greatest first ('Lib.beBytes 8 v'), ARE LAID IN THE SLICE's FIRST 8 CELLS ('World.setCells'); nothing else turns (the receiver, an empty struct, is laid in a new block without cells). (LAID: no walk: one application.) -/
theorem Tryz.binary_BE_PutUint64 (g o n c v : Nat) (hv : v < 18446744073709551616) (x0 x1 x2 x3 x4 x5 x6 x7 : Value) (w : World) (hn : 8 ≤ n) (c0 : w.cell? ⟨g, o, none⟩ = some x0) (c1 : w.cell? ⟨g, o + 1, none⟩ = some x1) (c2 : w.cell? ⟨g, o + 2, none⟩ = some x2) (c3 : w.cell? ⟨g, o + 3, none⟩ = some x3) (c4 : w.cell? ⟨g, o + 4, none⟩ = some x4) (c5 : w.cell? ⟨g, o + 5, none⟩ = some x5) (c6 : w.cell? ⟨g, o + 6, none⟩ = some x6) (c7 : w.cell? ⟨g, o + 7, none⟩ = some x7) (f0 : w.frozen? ⟨g, o, none⟩ = false) (f1 : w.frozen? ⟨g, o + 1, none⟩ = false) (f2 : w.frozen? ⟨g, o + 2, none⟩ = false) (f3 : w.frozen? ⟨g, o + 3, none⟩ = false) (f4 : w.frozen? ⟨g, o + 4, none⟩ = false) (f5 : w.frozen? ⟨g, o + 5, none⟩ = false) (f6 : w.frozen? ⟨g, o + 6, none⟩ = false) (f7 : w.frozen? ⟨g, o + 7, none⟩ = false) :
    Calls Tryz.prog 209 #[.agg #[], .slice (some ⟨g, o, none⟩) n c, .int .u64 v] w fun e w' => e = .returned (.tuple #[]) ∧ w' = (w.alloc (.cells #[] 155)).setCells g o (Lib.byteCells (Lib.beBytes 8 v)) := Any.binary_BE_PutUint64 Tryz.laysBin43 g o n c v hv x0 x1 x2 x3 x4 x5 x6 x7 w hn c0 c1 c2 c3 c4 c5 c6 c7 f0 f1 f2 f3 f4 f5 f6 f7
open Go.RowKit in
/-- binary.BigEndian.Uint16, b SHORTER THAN 2: IT PANICS: Go's 'runtime error: index out of range [1] with length n' ('Lib.boundsPanicked'). THE WORLD: the receiver's new block without cells, and the draw of the panic's flag. (LAID: no walk: one application.) -/
theorem Tryz.binary_BE_Uint16_panics (ao : Option Addr) (n c : Nat) (w : World) (hn : n < 2) (hnil : ao = none → n = 0) :
    Calls Tryz.prog 180 #[.agg #[], .slice ao n c] w fun e w' => Lib.boundsPanicked Tryz.prog 1 n e ∧ w' = (w.alloc (.cells #[] 155)).drew := Any.binary_BE_Uint16_panics Tryz.laysBin36 ao n c w hn hnil
open Go.RowKit in
/-- binary.BigEndian.PutUint64, b SHORTER THAN 8: IT PANICS: Go's 'runtime error: index out of range [7] with length n' ('Lib.boundsPanicked'). THE WORLD: the receiver's new block without cells, and the draw of the panic's flag: NOTHING IS WRITTEN. (LAID: no walk: one application.) -/
theorem Tryz.binary_BE_PutUint64_panics (ao : Option Addr) (n c v : Nat) (w : World) (hn : n < 8) (hnil : ao = none → n = 0) :
    Calls Tryz.prog 209 #[.agg #[], .slice ao n c, .int .u64 v] w fun e w' => Lib.boundsPanicked Tryz.prog 7 n e ∧ w' = (w.alloc (.cells #[] 155)).drew := Any.binary_BE_PutUint64_panics Tryz.laysBin43 ao n c v w hn hnil
def Tryz.laysM280_ren : Go.Shelf.Ren := ⟨fun | 280 => 278 | 316 => 328 | n => n, fun | 9 => 9 | 168 => 235 | 75 => 51 | 210 => 293 | 3 => 3 | 4 => 4 | 37 => 27 | 0 => 0 | 127 => 319 | 80 => 190 | 5 => 5 | n => n, fun | 16 => 13 | n => n⟩
theorem Tryz.laysM280 : Go.Proofs.LaysM.n280 Tryz.prog Tryz.laysM280_ren := {
  mixed := by kernel_rfl
  f280 := Tryz.func278.trans (congrArg some (by kernel_rfl))
  f316 := Tryz.func328.trans (congrArg some (by kernel_rfl))
  t0 := Tryz.underlying0
  a0 := Tryz.isAgg0
  z0 := Tryz.sizeOf0
  v0 := Tryz.zeroValue0
  t3 := Tryz.underlying3
  a3 := Tryz.isAgg3
  z3 := Tryz.sizeOf3
  v3 := Tryz.zeroValue3
  t4 := Tryz.underlying4
  a4 := Tryz.isAgg4
  z4 := Tryz.sizeOf4
  v4 := Tryz.zeroValue4
  t9 := Tryz.underlying9
  a9 := Tryz.isAgg9
  z9 := Tryz.sizeOf9
  v9 := Tryz.zeroValue9
  t37 := Tryz.underlying27
  a37 := Tryz.isAgg27
  z37 := Tryz.sizeOf27
  v37 := Tryz.zeroValue27
  t75 := Tryz.underlying51
  a75 := Tryz.isAgg51
  z75 := Tryz.sizeOf51
  v75 := Tryz.zeroValue51
  t127 := Tryz.underlying319
  a127 := Tryz.isAgg319
  z127 := Tryz.sizeOf319
  v127 := Tryz.zeroValue319
  t168 := Tryz.underlying235
  a168 := Tryz.isAgg235
  z168 := Tryz.sizeOf235
  v168 := Tryz.zeroValue235
  t210 := Tryz.underlying293
  a210 := Tryz.isAgg293
  z210 := Tryz.sizeOf293
  v210 := Tryz.zeroValue293
  g16 := by kernel_rfl
  t5 := Tryz.underlying5
  a5 := Tryz.isAgg5
  z5 := Tryz.sizeOf5
  v5 := Tryz.zeroValue5
  t80 := Tryz.underlying190
  a80 := Tryz.isAgg190
  z80 := Tryz.sizeOf190
  v80 := Tryz.zeroValue190
  i0 := by kernel_rfl
  i3 := by kernel_rfl
  i4 := by kernel_rfl
  i5 := by kernel_rfl
  i9 := by kernel_rfl
  i37 := by kernel_rfl
  i75 := by kernel_rfl
  i80 := by kernel_rfl
  i127 := by kernel_rfl
  i168 := by kernel_rfl
  i210 := by kernel_rfl
  m16 := by kernel_rfl }
open Go.RowKit in
/-- strconv.rangeError: '&NumError{fn, stringslite.Clone(str), ErrRange}': A POINTER TO A NEW BLOCK that holds fn, str's bytes, and what the variable ErrRange holds. Of what was there nothing has turned. (LAID: no walk: one application.) -/
theorem Tryz.strconv_rangeError (fn s : ByteArray) (ev : Value) (w : World) (hlim : s.size ≤ 281474976710656) (hv : w.cell? ⟨13, 0, none⟩ = some ev) (hev : ev = .nilIface ∨ ∃ te pe, ev = .iface te pe) :
    Calls Tryz.prog 278 #[.string fn, .string s] w fun e w' => ∃ N, e = .returned (.pointer (some ⟨N, 0, none⟩)) ∧ w.heap.size ≤ N ∧ w'.heap[N]? = some (.cells #[.string fn, .string s, ev] 293 (0, 0)) ∧ Below w.heap.size w w' := Any.strconv_rangeError Tryz.laysM280 fn s ev w hlim hv hev
open Go.RowKit in
/-- binary.BigEndian.Uint16, ITS PREMISES 'open_ints'' CONCLUSION TO THE LETTER: a slice at WHATEVER address a, the numbers zs that its cells hold: THE NUMBER THAT THE FIRST 2 SPELL ('Lib.beZ'). (LAID: no walk: one application.) -/
theorem Tryz.binary_BE_Uint16_z (a : Addr) (n c : Nat) (zs : List Int) (w : World) (hn : 2 ≤ n) (hl : 2 ≤ zs.length) (hcell : ∀ i, i < zs.length → w.cell? (a.add i) = some (.int .u8 (zs.getD i 0))) (hw : ∀ z ∈ zs, (Lit.int .u8 z).wf = true) :
    Calls Tryz.prog 180 #[.agg #[], .slice (some a) n c] w fun e w' => e = .returned (.int .u16 (Lib.beZ (zs.take 2))) ∧ Below w.heap.size w w' := Any.binary_BE_Uint16_z Tryz.laysBin36 a n c zs w hn hl hcell hw
end Go.Proofs
