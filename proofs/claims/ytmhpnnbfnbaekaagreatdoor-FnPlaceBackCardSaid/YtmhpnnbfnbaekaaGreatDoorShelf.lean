/- Part of the proof of FnPlaceBack: contracts of library functions, out of the kit's shelf. No condition. -/
import Derived.Shelf.Small.Utf8
import Derived.Shelf.Strconv.Itoa0
import Derived.Shelf.Strconv.Itoa1
import Derived.Shelf.LaysM
import Derived.Shelf.Strconv.Itoa2
import Derived.Shelf.Strconv.Itoa3
import Derived.Shelf.Strconv.Lower
import Derived.Shelf.Bytes.LenAt
import Derived.Shelf.Bytes.StringAt
import Derived.Shelf.Bits.Mul64
import Derived.Shelf.Unicode.DecodeSlow
import Derived.Test.YtmhpnnbfnbaekaaGreatDoorProg
/-
  DERIVED: THE SHELF's CONTRACTS AT THIS DUMP, IN PLAIN WORDS (tools/lay-plain.mjs out of 'TryzShelf.lean', which tools/lay-shelf.mjs wrote): THE SAME DECLARATIONS UNDER THE SAME NAMES: 'import', 'namespace', 'open', 'def', 'theorem' AND NOTHING ELSE: no command of the shelf's: FOR A HAND-IN. Each laying: the table of numbers ('.._ren') and one theorem, a field a fact of the dump's own or the kernel's comparison; each contract: ONE APPLICATION.
-/
namespace Go.Proofs
open Go.Shelf
def Tryz.lays119_ren : Go.Shelf.Ren := ⟨fun | 119 => 182 | n => n, fun | 21 => 21 | 4 => 4 | n => n, fun | n => n⟩
theorem Tryz.lays119 : Go.Proofs.Lays.n119 Tryz.prog Tryz.lays119_ren := {
  mixed := by kernel_rfl
  f119 := Tryz.func182.trans (congrArg some (by kernel_rfl))
  t4 := Tryz.underlying4
  a4 := Tryz.isAgg4
  z4 := Tryz.sizeOf4
  v4 := Tryz.zeroValue4
  t21 := Tryz.underlying21
  a21 := Tryz.isAgg21
  z21 := Tryz.sizeOf21
  v21 := Tryz.zeroValue21 }
/-- utf8.ValidRune: "ValidRune reports whether r can be legally encoded as UTF-8. Code points that are out of range or a surrogate half are illegal.": IT RETURNS 'Lib.validRune r'; the world is as it was. (LAID: no walk: one application.) -/
theorem Tryz.utf8_ValidRune (r : Int) (w : World) :
    Calls Tryz.prog 182 #[.int .i32 r] w fun e w' => e = .returned (.bool (Lib.validRune r)) ∧ w' = w := Any.utf8_ValidRune Tryz.lays119 r w
def Tryz.lays129_ren : Go.Shelf.Ren := ⟨fun | 129 => 81 | n => n, fun | 53 => 51 | 3 => 3 | 4 => 4 | 46 => 67 | 5 => 5 | 9 => 9 | n => n, fun | n => n⟩
theorem Tryz.lays129 : Go.Proofs.Lays.n129 Tryz.prog Tryz.lays129_ren := {
  mixed := by kernel_rfl
  f129 := Tryz.func81.trans (congrArg some (by kernel_rfl))
  t3 := Tryz.underlying3
  a3 := Tryz.isAgg3
  z3 := Tryz.sizeOf3
  v3 := Tryz.zeroValue3
  t4 := Tryz.underlying4
  a4 := Tryz.isAgg4
  z4 := Tryz.sizeOf4
  v4 := Tryz.zeroValue4
  t5 := Tryz.underlying5
  a5 := Tryz.isAgg5
  z5 := Tryz.sizeOf5
  v5 := Tryz.zeroValue5
  t9 := Tryz.underlying9
  a9 := Tryz.isAgg9
  z9 := Tryz.sizeOf9
  v9 := Tryz.zeroValue9
  t46 := Tryz.underlying67
  a46 := Tryz.isAgg67
  z46 := Tryz.sizeOf67
  v46 := Tryz.zeroValue67
  t53 := Tryz.underlying51
  a53 := Tryz.isAgg51
  z53 := Tryz.sizeOf51
  v53 := Tryz.zeroValue51 }
/-- bits.Len64: "Len64 returns the minimum number of bits required to represent x; the result is 0 for x == 0.": IT RETURNS 'Lib.bitLen x'; the world is as it was. ('h0', 'h1': x is a uint64.) (LAID: no walk: one application.) -/
theorem Tryz.bits_Len64 (x : Int) (w : World) (h0 : 0 ≤ x) (h1 : x ≤ 18446744073709551615) :
    Calls Tryz.prog 81 #[.int .u64 x] w fun e w' => e = .returned (.int .i64 (Lib.bitLen x.toNat)) ∧ w' = w := Any.bits_Len64 Tryz.lays129 x w h0 h1
def Tryz.lays317_ren : Go.Shelf.Ren := ⟨fun | 317 => 85 | n => n, fun | 3 => 3 | 46 => 67 | n => n, fun | n => n⟩
theorem Tryz.lays317 : Go.Proofs.Lays.n317 Tryz.prog Tryz.lays317_ren := {
  mixed := by kernel_rfl
  f317 := Tryz.func85.trans (congrArg some (by kernel_rfl))
  t3 := Tryz.underlying3
  a3 := Tryz.isAgg3
  z3 := Tryz.sizeOf3
  v3 := Tryz.zeroValue3
  t46 := Tryz.underlying67
  a46 := Tryz.isAgg67
  z46 := Tryz.sizeOf67
  v46 := Tryz.zeroValue67 }
open Go.Lib in
/-- internal/strconv.log10Pow2: "log10Pow2(x) returns ⌊log₁₀ 2**x⌋ = ⌊x * log₁₀ 2⌋.": '(x * 78913) >> 18', at an x up to 64 (a length in bits). The world is as it was. (LAID: no walk: one application.) -/
theorem Tryz.internal_strconv_log10Pow2 (x : Nat) (h : x ≤ 64) (w : World) :
    Calls Tryz.prog 85 #[.int .i64 x] w fun e w' => e = .returned (.int .i64 (Lib.l10 x)) ∧ w' = w := Any.internal_strconv_log10Pow2 Tryz.lays317 x h w
def Tryz.lays318_ren : Go.Shelf.Ren := ⟨fun | 318 => 121 | n => n, fun | 3 => 3 | 4 => 4 | n => n, fun | n => n⟩
theorem Tryz.lays318 : Go.Proofs.Lays.n318 Tryz.prog Tryz.lays318_ren := {
  mixed := by kernel_rfl
  f318 := Tryz.func121.trans (congrArg some (by kernel_rfl))
  t3 := Tryz.underlying3
  a3 := Tryz.isAgg3
  z3 := Tryz.sizeOf3
  v3 := Tryz.zeroValue3
  t4 := Tryz.underlying4
  a4 := Tryz.isAgg4
  z4 := Tryz.sizeOf4
  v4 := Tryz.zeroValue4 }
open Go.Lib in
/-- internal/strconv.bool2: "bool2 converts b to an integer: 1 for true, 0 for false." The world is as it was. (LAID: no walk: one application.) -/
theorem Tryz.internal_strconv_bool2_int (b : Bool) (w : World) :
    Calls Tryz.prog 121 #[.bool b] w fun e w' => e = .returned (.int .i64 (if b then 1 else 0)) ∧ w' = w := Any.internal_strconv_bool2_int Tryz.lays318 b w
def Tryz.lays283_ren : Go.Shelf.Ren := ⟨fun | 283 => 140 | n => n, fun | 3 => 3 | 9 => 9 | 4 => 4 | n => n, fun | n => n⟩
theorem Tryz.lays283 : Go.Proofs.Lays.n283 Tryz.prog Tryz.lays283_ren := {
  mixed := by kernel_rfl
  f283 := Tryz.func140.trans (congrArg some (by kernel_rfl))
  t3 := Tryz.underlying3
  a3 := Tryz.isAgg3
  z3 := Tryz.sizeOf3
  v3 := Tryz.zeroValue3
  t4 := Tryz.underlying4
  a4 := Tryz.isAgg4
  z4 := Tryz.sizeOf4
  v4 := Tryz.zeroValue4
  t9 := Tryz.underlying9
  a9 := Tryz.isAgg9
  z9 := Tryz.sizeOf9
  v9 := Tryz.zeroValue9 }
open Go.Lib in
/-- internal/strconv.small: "small returns the string for an i with 0 <= i < nSmalls.": i's decimal numeral. The world is as it was. (LAID: no walk: one application.) -/
theorem Tryz.internal_strconv_small (i : Nat) (h : i < 100) (w : World) :
    Calls Tryz.prog 140 #[.int .i64 i] w fun e w' => e = .returned (.string ⟨(Lib.decDigits i).toArray⟩) ∧ w' = w := Any.internal_strconv_small Tryz.lays283 i h w
def Tryz.laysM284_ren : Go.Shelf.Ren := ⟨fun | 284 => 84 | 129 => 81 | 317 => 85 | 318 => 121 | n => n, fun | 53 => 51 | 3 => 3 | 212 => 199 | 0 => 0 | 4 => 4 | 46 => 67 | 5 => 5 | 9 => 9 | n => n, fun | 17 => 11 | n => n⟩
theorem Tryz.laysM284 : Go.Proofs.LaysM.n284 Tryz.prog Tryz.laysM284_ren := {
  mixed := by kernel_rfl
  f129 := Tryz.func81.trans (congrArg some (by kernel_rfl))
  f284 := Tryz.func84.trans (congrArg some (by kernel_rfl))
  f317 := Tryz.func85.trans (congrArg some (by kernel_rfl))
  f318 := Tryz.func121.trans (congrArg some (by kernel_rfl))
  t0 := Tryz.underlying0
  a0 := Tryz.isAgg0
  z0 := Tryz.sizeOf0
  v0 := Tryz.zeroValue0
  t3 := Tryz.underlying3
  a3 := Tryz.isAgg3
  z3 := Tryz.sizeOf3
  v3 := Tryz.zeroValue3
  t4 := Tryz.underlying4
  a4 := Tryz.isAgg4
  z4 := Tryz.sizeOf4
  v4 := Tryz.zeroValue4
  t5 := Tryz.underlying5
  a5 := Tryz.isAgg5
  z5 := Tryz.sizeOf5
  v5 := Tryz.zeroValue5
  t9 := Tryz.underlying9
  a9 := Tryz.isAgg9
  z9 := Tryz.sizeOf9
  v9 := Tryz.zeroValue9
  t46 := Tryz.underlying67
  a46 := Tryz.isAgg67
  z46 := Tryz.sizeOf67
  v46 := Tryz.zeroValue67
  t53 := Tryz.underlying51
  a53 := Tryz.isAgg51
  z53 := Tryz.sizeOf51
  v53 := Tryz.zeroValue51
  t212 := Tryz.underlying199
  a212 := Tryz.isAgg199
  z212 := Tryz.sizeOf199
  v212 := Tryz.zeroValue199
  g17 := by kernel_rfl
  i0 := by kernel_rfl
  i3 := by kernel_rfl
  i4 := by kernel_rfl
  i5 := by kernel_rfl
  i9 := by kernel_rfl
  i46 := by kernel_rfl
  i53 := by kernel_rfl
  i212 := by kernel_rfl
  m17 := by kernel_rfl }
open Go.Lib in
/-- internal/strconv.numDigits, at a d that is not 0: THE NUMBER OF d's DECIMAL DIGITS. The world is as it was. (LAID: no walk: one application.) -/
theorem Tryz.internal_strconv_numDigits (u : Nat) (h1 : 1 ≤ u) (h2 : u < 18446744073709551616) (w : World) (htab : Lib.TabIs Tryz.prog w "internal/strconv.uint64pow10" .u64 Lib.pow10Tab) :
    Calls Tryz.prog 84 #[.int .u64 u] w fun e w' => e = .returned (.int .i64 (Lib.nDigits u)) ∧ w' = w := Any.internal_strconv_numDigits Tryz.laysM284 u h1 h2 w htab
def Tryz.lays285_ren : Go.Shelf.Ren := ⟨fun | 285 => 120 | n => n, fun | 37 => 44 | 53 => 51 | 3 => 3 | 4 => 4 | 51 => 136 | 9 => 9 | 5 => 5 | 0 => 0 | n => n, fun | n => n⟩
theorem Tryz.lays285 : Go.Proofs.Lays.n285 Tryz.prog Tryz.lays285_ren := {
  mixed := by kernel_rfl
  f285 := Tryz.func120.trans (congrArg some (by kernel_rfl))
  t0 := Tryz.underlying0
  a0 := Tryz.isAgg0
  z0 := Tryz.sizeOf0
  v0 := Tryz.zeroValue0
  t3 := Tryz.underlying3
  a3 := Tryz.isAgg3
  z3 := Tryz.sizeOf3
  v3 := Tryz.zeroValue3
  t4 := Tryz.underlying4
  a4 := Tryz.isAgg4
  z4 := Tryz.sizeOf4
  v4 := Tryz.zeroValue4
  t5 := Tryz.underlying5
  a5 := Tryz.isAgg5
  z5 := Tryz.sizeOf5
  v5 := Tryz.zeroValue5
  t9 := Tryz.underlying9
  a9 := Tryz.isAgg9
  z9 := Tryz.sizeOf9
  v9 := Tryz.zeroValue9
  t37 := Tryz.underlying44
  a37 := Tryz.isAgg44
  z37 := Tryz.sizeOf44
  v37 := Tryz.zeroValue44
  t51 := Tryz.underlying136
  a51 := Tryz.isAgg136
  z51 := Tryz.sizeOf136
  v51 := Tryz.zeroValue136
  t53 := Tryz.underlying51
  a53 := Tryz.isAgg51
  z53 := Tryz.sizeOf51
  v53 := Tryz.zeroValue51 }
open Go.RowKit Go.Sort Go.Lib in
/-- internal/strconv.formatBase10: "formatBase10 formats the decimal representation of u into a. The caller is responsible for ensuring that a is big enough to hold u. If a is too big, leading zeros will be filled in as needed.": THE ROW HOLDS u's DIGITS ('FmtInv .. 0 ..': every place t holds 'dg u (len - 1 - t)'); all else is as it was but for the count of draws. (LAID: no walk: one application.) -/
theorem Tryz.internal_strconv_formatBase10 (blk off cap : Nat) (u : Nat) (d : Array UInt8) (w : World) (hH : Holds (fun (b : UInt8) => Value.int .u8 (b.toNat : Int)) w blk off d) (hu : u < 10 ^ d.size) (hu64 : u < 18446744073709551616) (hsz : d.size < 4611686018427387904) :
    Calls Tryz.prog 120 #[.slice (some ⟨blk, off, none⟩) d.size cap, .int .u64 u] w fun e w' =>
      e = .returned (.tuple #[]) ∧ ∃ (n v' : Nat) (dk : Array UInt8), w' = (putRow (fun (b : UInt8) => Value.int .u8 (b.toNat : Int)) w blk off dk).drewN n ∧ FmtInv d.size u 0 v' dk := Any.internal_strconv_formatBase10 Tryz.lays285 blk off cap u d w hH hu hu64 hsz
def Tryz.laysM246_ren : Go.Shelf.Ren := ⟨fun | 246 => 139 | 283 => 140 | 284 => 84 | 285 => 120 | 286 => 141 | 129 => 81 | 317 => 85 | 318 => 121 | 319 => 145 | 320 => 146 | 337 => 147 | 338 => 148 | n => n, fun | 2 => 2 | 3 => 3 | 9 => 9 | 4 => 4 | 171 => 147 | 0 => 0 | 53 => 51 | 37 => 44 | 5 => 5 | 173 => 212 | 212 => 199 | 51 => 136 | 20 => 20 | 213 => 224 | 46 => 67 | 232 => 141 | 233 => 228 | n => n, fun | 17 => 11 | 18 => 17 | 19 => 18 | n => n⟩
theorem Tryz.laysM246 : Go.Proofs.LaysM.n246 Tryz.prog Tryz.laysM246_ren := {
  mixed := by kernel_rfl
  f129 := Tryz.func81.trans (congrArg some (by kernel_rfl))
  f246 := Tryz.func139.trans (congrArg some (by kernel_rfl))
  f283 := Tryz.func140.trans (congrArg some (by kernel_rfl))
  f284 := Tryz.func84.trans (congrArg some (by kernel_rfl))
  f285 := Tryz.func120.trans (congrArg some (by kernel_rfl))
  f286 := Tryz.func141.trans (congrArg some (by kernel_rfl))
  f317 := Tryz.func85.trans (congrArg some (by kernel_rfl))
  f318 := Tryz.func121.trans (congrArg some (by kernel_rfl))
  f319 := Tryz.func145.trans (congrArg some (by kernel_rfl))
  f320 := Tryz.func146.trans (congrArg some (by kernel_rfl))
  f337 := Tryz.func147.trans (congrArg some (by kernel_rfl))
  f338 := Tryz.func148.trans (congrArg some (by kernel_rfl))
  t0 := Tryz.underlying0
  a0 := Tryz.isAgg0
  z0 := Tryz.sizeOf0
  v0 := Tryz.zeroValue0
  t2 := Tryz.underlying2
  a2 := Tryz.isAgg2
  z2 := Tryz.sizeOf2
  v2 := Tryz.zeroValue2
  t3 := Tryz.underlying3
  a3 := Tryz.isAgg3
  z3 := Tryz.sizeOf3
  v3 := Tryz.zeroValue3
  t4 := Tryz.underlying4
  a4 := Tryz.isAgg4
  z4 := Tryz.sizeOf4
  v4 := Tryz.zeroValue4
  t5 := Tryz.underlying5
  a5 := Tryz.isAgg5
  z5 := Tryz.sizeOf5
  v5 := Tryz.zeroValue5
  t9 := Tryz.underlying9
  a9 := Tryz.isAgg9
  z9 := Tryz.sizeOf9
  v9 := Tryz.zeroValue9
  t20 := Tryz.underlying20
  a20 := Tryz.isAgg20
  z20 := Tryz.sizeOf20
  v20 := Tryz.zeroValue20
  t37 := Tryz.underlying44
  a37 := Tryz.isAgg44
  z37 := Tryz.sizeOf44
  v37 := Tryz.zeroValue44
  t46 := Tryz.underlying67
  a46 := Tryz.isAgg67
  z46 := Tryz.sizeOf67
  v46 := Tryz.zeroValue67
  t51 := Tryz.underlying136
  a51 := Tryz.isAgg136
  z51 := Tryz.sizeOf136
  v51 := Tryz.zeroValue136
  t53 := Tryz.underlying51
  a53 := Tryz.isAgg51
  z53 := Tryz.sizeOf51
  v53 := Tryz.zeroValue51
  t171 := Tryz.underlying147
  a171 := Tryz.isAgg147
  z171 := Tryz.sizeOf147
  v171 := Tryz.zeroValue147
  t173 := Tryz.underlying212
  a173 := Tryz.isAgg212
  z173 := Tryz.sizeOf212
  v173 := Tryz.zeroValue212
  t212 := Tryz.underlying199
  a212 := Tryz.isAgg199
  z212 := Tryz.sizeOf199
  v212 := Tryz.zeroValue199
  t213 := Tryz.underlying224
  a213 := Tryz.isAgg224
  z213 := Tryz.sizeOf224
  t232 := Tryz.underlying141
  a232 := Tryz.isAgg141
  z232 := Tryz.sizeOf141
  v232 := Tryz.zeroValue141
  t233 := Tryz.underlying228
  a233 := Tryz.isAgg228
  z233 := Tryz.sizeOf228
  v233 := Tryz.zeroValue228
  g17 := by kernel_rfl
  g18 := by kernel_rfl
  g19 := by kernel_rfl
  i0 := by kernel_rfl
  i2 := by kernel_rfl
  i3 := by kernel_rfl
  i4 := by kernel_rfl
  i5 := by kernel_rfl
  i9 := by kernel_rfl
  i20 := by kernel_rfl
  i37 := by kernel_rfl
  i46 := by kernel_rfl
  i51 := by kernel_rfl
  i53 := by kernel_rfl
  i171 := by kernel_rfl
  i173 := by kernel_rfl
  i212 := by kernel_rfl
  i232 := by kernel_rfl
  i233 := by kernel_rfl
  m17 := by kernel_rfl
  m18 := by kernel_rfl
  m19 := by kernel_rfl }
open Go.RowKit Go.Sort Go.Lib in
/-- internal/strconv.FormatInt: "FormatInt returns the string representation of i in the given base": AT BASE 10: i's decimal numeral, for every int64. The world behind the call: the world before it, new blocks behind the heap, draws. (LAID: no walk: one application.) -/
theorem Tryz.internal_strconv_FormatInt_10 (n : Int) (h0 : -9223372036854775808 ≤ n) (h1 : n ≤ 9223372036854775807) (w : World) (htab : Lib.TabIs Tryz.prog w "internal/strconv.uint64pow10" .u64 Lib.pow10Tab) :
    Calls Tryz.prog 139 #[.int .i64 n, .int .i64 10] w fun e w' => e = .returned (.string ⟨(Lib.itoa n).toArray⟩) ∧ ∃ k os, w' = grow (w.drewN k) os := Any.internal_strconv_FormatInt_10 Tryz.laysM246 n h0 h1 w htab
def Tryz.lays246_ren : Go.Shelf.Ren := ⟨fun | 246 => 139 | 283 => 140 | 284 => 84 | 285 => 120 | 286 => 141 | 129 => 81 | 317 => 85 | 318 => 121 | 319 => 145 | 320 => 146 | 337 => 147 | 338 => 148 | n => n, fun | 2 => 2 | 3 => 3 | 9 => 9 | 4 => 4 | 171 => 147 | 0 => 0 | 53 => 51 | 37 => 44 | 5 => 5 | 173 => 212 | 212 => 199 | 51 => 136 | 20 => 20 | 213 => 224 | 46 => 67 | 232 => 141 | 233 => 228 | n => n, fun | 17 => 11 | 18 => 17 | 19 => 18 | n => n⟩
theorem Tryz.lays246 : Go.Proofs.Lays.n246 Tryz.prog Tryz.lays246_ren := {
  mixed := by kernel_rfl
  f129 := Tryz.func81.trans (congrArg some (by kernel_rfl))
  f246 := Tryz.func139.trans (congrArg some (by kernel_rfl))
  f283 := Tryz.func140.trans (congrArg some (by kernel_rfl))
  f284 := Tryz.func84.trans (congrArg some (by kernel_rfl))
  f285 := Tryz.func120.trans (congrArg some (by kernel_rfl))
  f286 := Tryz.func141.trans (congrArg some (by kernel_rfl))
  f317 := Tryz.func85.trans (congrArg some (by kernel_rfl))
  f318 := Tryz.func121.trans (congrArg some (by kernel_rfl))
  f319 := Tryz.func145.trans (congrArg some (by kernel_rfl))
  f320 := Tryz.func146.trans (congrArg some (by kernel_rfl))
  f337 := Tryz.func147.trans (congrArg some (by kernel_rfl))
  f338 := Tryz.func148.trans (congrArg some (by kernel_rfl))
  t0 := Tryz.underlying0
  a0 := Tryz.isAgg0
  z0 := Tryz.sizeOf0
  v0 := Tryz.zeroValue0
  t2 := Tryz.underlying2
  a2 := Tryz.isAgg2
  z2 := Tryz.sizeOf2
  v2 := Tryz.zeroValue2
  t3 := Tryz.underlying3
  a3 := Tryz.isAgg3
  z3 := Tryz.sizeOf3
  v3 := Tryz.zeroValue3
  t4 := Tryz.underlying4
  a4 := Tryz.isAgg4
  z4 := Tryz.sizeOf4
  v4 := Tryz.zeroValue4
  t5 := Tryz.underlying5
  a5 := Tryz.isAgg5
  z5 := Tryz.sizeOf5
  v5 := Tryz.zeroValue5
  t9 := Tryz.underlying9
  a9 := Tryz.isAgg9
  z9 := Tryz.sizeOf9
  v9 := Tryz.zeroValue9
  t20 := Tryz.underlying20
  a20 := Tryz.isAgg20
  z20 := Tryz.sizeOf20
  v20 := Tryz.zeroValue20
  t37 := Tryz.underlying44
  a37 := Tryz.isAgg44
  z37 := Tryz.sizeOf44
  v37 := Tryz.zeroValue44
  t46 := Tryz.underlying67
  a46 := Tryz.isAgg67
  z46 := Tryz.sizeOf67
  v46 := Tryz.zeroValue67
  t51 := Tryz.underlying136
  a51 := Tryz.isAgg136
  z51 := Tryz.sizeOf136
  v51 := Tryz.zeroValue136
  t53 := Tryz.underlying51
  a53 := Tryz.isAgg51
  z53 := Tryz.sizeOf51
  v53 := Tryz.zeroValue51
  t171 := Tryz.underlying147
  a171 := Tryz.isAgg147
  z171 := Tryz.sizeOf147
  v171 := Tryz.zeroValue147
  t173 := Tryz.underlying212
  a173 := Tryz.isAgg212
  z173 := Tryz.sizeOf212
  v173 := Tryz.zeroValue212
  t212 := Tryz.underlying199
  a212 := Tryz.isAgg199
  z212 := Tryz.sizeOf199
  v212 := Tryz.zeroValue199
  t213 := Tryz.underlying224
  a213 := Tryz.isAgg224
  z213 := Tryz.sizeOf224
  t232 := Tryz.underlying141
  a232 := Tryz.isAgg141
  z232 := Tryz.sizeOf141
  v232 := Tryz.zeroValue141
  t233 := Tryz.underlying228
  a233 := Tryz.isAgg228
  z233 := Tryz.sizeOf228
  v233 := Tryz.zeroValue228
  g17 := by kernel_rfl
  g18 := by kernel_rfl
  g19 := by kernel_rfl }
open Go.RowKit Go.Sort Go.Lib in
/-- THE ROAD WITHOUT THE TABLE: 0 <= i < 100: two constants are read, nothing is laid: no premise on the world, and the world is as it was. (LAID: no walk: one application.) -/
theorem Tryz.internal_strconv_FormatInt_10_small (i : Nat) (hi : i < 100) (w : World) :
    Calls Tryz.prog 139 #[.int .i64 i, .int .i64 10] w fun e w' => e = .returned (.string ⟨(Lib.decDigits i).toArray⟩) ∧ w' = w := Any.internal_strconv_FormatInt_10_small Tryz.lays246 i hi w
def Tryz.laysM243_ren : Go.Shelf.Ren := ⟨fun | 243 => 108 | 246 => 139 | 283 => 140 | 284 => 84 | 285 => 120 | 286 => 141 | 129 => 81 | 317 => 85 | 318 => 121 | 319 => 145 | 320 => 146 | 337 => 147 | 338 => 148 | n => n, fun | 3 => 3 | 9 => 9 | 2 => 2 | 4 => 4 | 171 => 147 | 0 => 0 | 53 => 51 | 37 => 44 | 5 => 5 | 173 => 212 | 212 => 199 | 51 => 136 | 20 => 20 | 213 => 224 | 46 => 67 | 232 => 141 | 233 => 228 | n => n, fun | 17 => 11 | 18 => 17 | 19 => 18 | n => n⟩
theorem Tryz.laysM243 : Go.Proofs.LaysM.n243 Tryz.prog Tryz.laysM243_ren := {
  mixed := by kernel_rfl
  f129 := Tryz.func81.trans (congrArg some (by kernel_rfl))
  f243 := Tryz.func108.trans (congrArg some (by kernel_rfl))
  f246 := Tryz.func139.trans (congrArg some (by kernel_rfl))
  f283 := Tryz.func140.trans (congrArg some (by kernel_rfl))
  f284 := Tryz.func84.trans (congrArg some (by kernel_rfl))
  f285 := Tryz.func120.trans (congrArg some (by kernel_rfl))
  f286 := Tryz.func141.trans (congrArg some (by kernel_rfl))
  f317 := Tryz.func85.trans (congrArg some (by kernel_rfl))
  f318 := Tryz.func121.trans (congrArg some (by kernel_rfl))
  f319 := Tryz.func145.trans (congrArg some (by kernel_rfl))
  f320 := Tryz.func146.trans (congrArg some (by kernel_rfl))
  f337 := Tryz.func147.trans (congrArg some (by kernel_rfl))
  f338 := Tryz.func148.trans (congrArg some (by kernel_rfl))
  t0 := Tryz.underlying0
  a0 := Tryz.isAgg0
  z0 := Tryz.sizeOf0
  v0 := Tryz.zeroValue0
  t2 := Tryz.underlying2
  a2 := Tryz.isAgg2
  z2 := Tryz.sizeOf2
  v2 := Tryz.zeroValue2
  t3 := Tryz.underlying3
  a3 := Tryz.isAgg3
  z3 := Tryz.sizeOf3
  v3 := Tryz.zeroValue3
  t4 := Tryz.underlying4
  a4 := Tryz.isAgg4
  z4 := Tryz.sizeOf4
  v4 := Tryz.zeroValue4
  t5 := Tryz.underlying5
  a5 := Tryz.isAgg5
  z5 := Tryz.sizeOf5
  v5 := Tryz.zeroValue5
  t9 := Tryz.underlying9
  a9 := Tryz.isAgg9
  z9 := Tryz.sizeOf9
  v9 := Tryz.zeroValue9
  t20 := Tryz.underlying20
  a20 := Tryz.isAgg20
  z20 := Tryz.sizeOf20
  v20 := Tryz.zeroValue20
  t37 := Tryz.underlying44
  a37 := Tryz.isAgg44
  z37 := Tryz.sizeOf44
  v37 := Tryz.zeroValue44
  t46 := Tryz.underlying67
  a46 := Tryz.isAgg67
  z46 := Tryz.sizeOf67
  v46 := Tryz.zeroValue67
  t51 := Tryz.underlying136
  a51 := Tryz.isAgg136
  z51 := Tryz.sizeOf136
  v51 := Tryz.zeroValue136
  t53 := Tryz.underlying51
  a53 := Tryz.isAgg51
  z53 := Tryz.sizeOf51
  v53 := Tryz.zeroValue51
  t171 := Tryz.underlying147
  a171 := Tryz.isAgg147
  z171 := Tryz.sizeOf147
  v171 := Tryz.zeroValue147
  t173 := Tryz.underlying212
  a173 := Tryz.isAgg212
  z173 := Tryz.sizeOf212
  v173 := Tryz.zeroValue212
  t212 := Tryz.underlying199
  a212 := Tryz.isAgg199
  z212 := Tryz.sizeOf199
  v212 := Tryz.zeroValue199
  t213 := Tryz.underlying224
  a213 := Tryz.isAgg224
  z213 := Tryz.sizeOf224
  t232 := Tryz.underlying141
  a232 := Tryz.isAgg141
  z232 := Tryz.sizeOf141
  v232 := Tryz.zeroValue141
  t233 := Tryz.underlying228
  a233 := Tryz.isAgg228
  z233 := Tryz.sizeOf228
  v233 := Tryz.zeroValue228
  g17 := by kernel_rfl
  g18 := by kernel_rfl
  g19 := by kernel_rfl
  i0 := by kernel_rfl
  i2 := by kernel_rfl
  i3 := by kernel_rfl
  i4 := by kernel_rfl
  i5 := by kernel_rfl
  i9 := by kernel_rfl
  i20 := by kernel_rfl
  i37 := by kernel_rfl
  i46 := by kernel_rfl
  i51 := by kernel_rfl
  i53 := by kernel_rfl
  i171 := by kernel_rfl
  i173 := by kernel_rfl
  i212 := by kernel_rfl
  i232 := by kernel_rfl
  i233 := by kernel_rfl
  m17 := by kernel_rfl
  m18 := by kernel_rfl
  m19 := by kernel_rfl }
open Go.RowKit Go.Sort Go.Lib in
/-- internal/strconv.Itoa: "Itoa is equivalent to FormatInt(int64(i), 10).": i's decimal numeral, for every int. (LAID: no walk: one application.) -/
theorem Tryz.internal_strconv_Itoa (n : Int) (h0 : -9223372036854775808 ≤ n) (h1 : n ≤ 9223372036854775807) (w : World) (htab : Lib.TabIs Tryz.prog w "internal/strconv.uint64pow10" .u64 Lib.pow10Tab) :
    Calls Tryz.prog 108 #[.int .i64 n] w fun e w' => e = .returned (.string ⟨(Lib.itoa n).toArray⟩) ∧ ∃ k os, w' = grow (w.drewN k) os := Any.internal_strconv_Itoa Tryz.laysM243 n h0 h1 w htab
def Tryz.lays243_ren : Go.Shelf.Ren := ⟨fun | 243 => 108 | 246 => 139 | 283 => 140 | 284 => 84 | 285 => 120 | 286 => 141 | 129 => 81 | 317 => 85 | 318 => 121 | 319 => 145 | 320 => 146 | 337 => 147 | 338 => 148 | n => n, fun | 3 => 3 | 9 => 9 | 2 => 2 | 4 => 4 | 171 => 147 | 0 => 0 | 53 => 51 | 37 => 44 | 5 => 5 | 173 => 212 | 212 => 199 | 51 => 136 | 20 => 20 | 213 => 224 | 46 => 67 | 232 => 141 | 233 => 228 | n => n, fun | 17 => 11 | 18 => 17 | 19 => 18 | n => n⟩
theorem Tryz.lays243 : Go.Proofs.Lays.n243 Tryz.prog Tryz.lays243_ren := {
  mixed := by kernel_rfl
  f129 := Tryz.func81.trans (congrArg some (by kernel_rfl))
  f243 := Tryz.func108.trans (congrArg some (by kernel_rfl))
  f246 := Tryz.func139.trans (congrArg some (by kernel_rfl))
  f283 := Tryz.func140.trans (congrArg some (by kernel_rfl))
  f284 := Tryz.func84.trans (congrArg some (by kernel_rfl))
  f285 := Tryz.func120.trans (congrArg some (by kernel_rfl))
  f286 := Tryz.func141.trans (congrArg some (by kernel_rfl))
  f317 := Tryz.func85.trans (congrArg some (by kernel_rfl))
  f318 := Tryz.func121.trans (congrArg some (by kernel_rfl))
  f319 := Tryz.func145.trans (congrArg some (by kernel_rfl))
  f320 := Tryz.func146.trans (congrArg some (by kernel_rfl))
  f337 := Tryz.func147.trans (congrArg some (by kernel_rfl))
  f338 := Tryz.func148.trans (congrArg some (by kernel_rfl))
  t0 := Tryz.underlying0
  a0 := Tryz.isAgg0
  z0 := Tryz.sizeOf0
  v0 := Tryz.zeroValue0
  t2 := Tryz.underlying2
  a2 := Tryz.isAgg2
  z2 := Tryz.sizeOf2
  v2 := Tryz.zeroValue2
  t3 := Tryz.underlying3
  a3 := Tryz.isAgg3
  z3 := Tryz.sizeOf3
  v3 := Tryz.zeroValue3
  t4 := Tryz.underlying4
  a4 := Tryz.isAgg4
  z4 := Tryz.sizeOf4
  v4 := Tryz.zeroValue4
  t5 := Tryz.underlying5
  a5 := Tryz.isAgg5
  z5 := Tryz.sizeOf5
  v5 := Tryz.zeroValue5
  t9 := Tryz.underlying9
  a9 := Tryz.isAgg9
  z9 := Tryz.sizeOf9
  v9 := Tryz.zeroValue9
  t20 := Tryz.underlying20
  a20 := Tryz.isAgg20
  z20 := Tryz.sizeOf20
  v20 := Tryz.zeroValue20
  t37 := Tryz.underlying44
  a37 := Tryz.isAgg44
  z37 := Tryz.sizeOf44
  v37 := Tryz.zeroValue44
  t46 := Tryz.underlying67
  a46 := Tryz.isAgg67
  z46 := Tryz.sizeOf67
  v46 := Tryz.zeroValue67
  t51 := Tryz.underlying136
  a51 := Tryz.isAgg136
  z51 := Tryz.sizeOf136
  v51 := Tryz.zeroValue136
  t53 := Tryz.underlying51
  a53 := Tryz.isAgg51
  z53 := Tryz.sizeOf51
  v53 := Tryz.zeroValue51
  t171 := Tryz.underlying147
  a171 := Tryz.isAgg147
  z171 := Tryz.sizeOf147
  v171 := Tryz.zeroValue147
  t173 := Tryz.underlying212
  a173 := Tryz.isAgg212
  z173 := Tryz.sizeOf212
  v173 := Tryz.zeroValue212
  t212 := Tryz.underlying199
  a212 := Tryz.isAgg199
  z212 := Tryz.sizeOf199
  v212 := Tryz.zeroValue199
  t213 := Tryz.underlying224
  a213 := Tryz.isAgg224
  z213 := Tryz.sizeOf224
  t232 := Tryz.underlying141
  a232 := Tryz.isAgg141
  z232 := Tryz.sizeOf141
  v232 := Tryz.zeroValue141
  t233 := Tryz.underlying228
  a233 := Tryz.isAgg228
  z233 := Tryz.sizeOf228
  v233 := Tryz.zeroValue228
  g17 := by kernel_rfl
  g18 := by kernel_rfl
  g19 := by kernel_rfl }
open Go.RowKit Go.Sort Go.Lib in
/-- THE ROAD WITHOUT THE TABLE: 0 <= i < 100. (LAID: no walk: one application.) -/
theorem Tryz.internal_strconv_Itoa_small (i : Nat) (hi : i < 100) (w : World) :
    Calls Tryz.prog 108 #[.int .i64 i] w fun e w' => e = .returned (.string ⟨(Lib.decDigits i).toArray⟩) ∧ w' = w := Any.internal_strconv_Itoa_small Tryz.lays243 i hi w
def Tryz.laysM171_ren : Go.Shelf.Ren := ⟨fun | 171 => 75 | 243 => 108 | 246 => 139 | 283 => 140 | 284 => 84 | 285 => 120 | 286 => 141 | 129 => 81 | 317 => 85 | 318 => 121 | 319 => 145 | 320 => 146 | 337 => 147 | 338 => 148 | n => n, fun | 3 => 3 | 9 => 9 | 2 => 2 | 4 => 4 | 171 => 147 | 0 => 0 | 53 => 51 | 37 => 44 | 5 => 5 | 173 => 212 | 212 => 199 | 51 => 136 | 20 => 20 | 213 => 224 | 46 => 67 | 232 => 141 | 233 => 228 | n => n, fun | 17 => 11 | 18 => 17 | 19 => 18 | n => n⟩
theorem Tryz.laysM171 : Go.Proofs.LaysM.n171 Tryz.prog Tryz.laysM171_ren := {
  mixed := by kernel_rfl
  f129 := Tryz.func81.trans (congrArg some (by kernel_rfl))
  f171 := Tryz.func75.trans (congrArg some (by kernel_rfl))
  f243 := Tryz.func108.trans (congrArg some (by kernel_rfl))
  f246 := Tryz.func139.trans (congrArg some (by kernel_rfl))
  f283 := Tryz.func140.trans (congrArg some (by kernel_rfl))
  f284 := Tryz.func84.trans (congrArg some (by kernel_rfl))
  f285 := Tryz.func120.trans (congrArg some (by kernel_rfl))
  f286 := Tryz.func141.trans (congrArg some (by kernel_rfl))
  f317 := Tryz.func85.trans (congrArg some (by kernel_rfl))
  f318 := Tryz.func121.trans (congrArg some (by kernel_rfl))
  f319 := Tryz.func145.trans (congrArg some (by kernel_rfl))
  f320 := Tryz.func146.trans (congrArg some (by kernel_rfl))
  f337 := Tryz.func147.trans (congrArg some (by kernel_rfl))
  f338 := Tryz.func148.trans (congrArg some (by kernel_rfl))
  t0 := Tryz.underlying0
  a0 := Tryz.isAgg0
  z0 := Tryz.sizeOf0
  v0 := Tryz.zeroValue0
  t2 := Tryz.underlying2
  a2 := Tryz.isAgg2
  z2 := Tryz.sizeOf2
  v2 := Tryz.zeroValue2
  t3 := Tryz.underlying3
  a3 := Tryz.isAgg3
  z3 := Tryz.sizeOf3
  v3 := Tryz.zeroValue3
  t4 := Tryz.underlying4
  a4 := Tryz.isAgg4
  z4 := Tryz.sizeOf4
  v4 := Tryz.zeroValue4
  t5 := Tryz.underlying5
  a5 := Tryz.isAgg5
  z5 := Tryz.sizeOf5
  v5 := Tryz.zeroValue5
  t9 := Tryz.underlying9
  a9 := Tryz.isAgg9
  z9 := Tryz.sizeOf9
  v9 := Tryz.zeroValue9
  t20 := Tryz.underlying20
  a20 := Tryz.isAgg20
  z20 := Tryz.sizeOf20
  v20 := Tryz.zeroValue20
  t37 := Tryz.underlying44
  a37 := Tryz.isAgg44
  z37 := Tryz.sizeOf44
  v37 := Tryz.zeroValue44
  t46 := Tryz.underlying67
  a46 := Tryz.isAgg67
  z46 := Tryz.sizeOf67
  v46 := Tryz.zeroValue67
  t51 := Tryz.underlying136
  a51 := Tryz.isAgg136
  z51 := Tryz.sizeOf136
  v51 := Tryz.zeroValue136
  t53 := Tryz.underlying51
  a53 := Tryz.isAgg51
  z53 := Tryz.sizeOf51
  v53 := Tryz.zeroValue51
  t171 := Tryz.underlying147
  a171 := Tryz.isAgg147
  z171 := Tryz.sizeOf147
  v171 := Tryz.zeroValue147
  t173 := Tryz.underlying212
  a173 := Tryz.isAgg212
  z173 := Tryz.sizeOf212
  v173 := Tryz.zeroValue212
  t212 := Tryz.underlying199
  a212 := Tryz.isAgg199
  z212 := Tryz.sizeOf199
  v212 := Tryz.zeroValue199
  t213 := Tryz.underlying224
  a213 := Tryz.isAgg224
  z213 := Tryz.sizeOf224
  t232 := Tryz.underlying141
  a232 := Tryz.isAgg141
  z232 := Tryz.sizeOf141
  v232 := Tryz.zeroValue141
  t233 := Tryz.underlying228
  a233 := Tryz.isAgg228
  z233 := Tryz.sizeOf228
  v233 := Tryz.zeroValue228
  g17 := by kernel_rfl
  g18 := by kernel_rfl
  g19 := by kernel_rfl
  i0 := by kernel_rfl
  i2 := by kernel_rfl
  i3 := by kernel_rfl
  i4 := by kernel_rfl
  i5 := by kernel_rfl
  i9 := by kernel_rfl
  i20 := by kernel_rfl
  i37 := by kernel_rfl
  i46 := by kernel_rfl
  i51 := by kernel_rfl
  i53 := by kernel_rfl
  i171 := by kernel_rfl
  i173 := by kernel_rfl
  i212 := by kernel_rfl
  i232 := by kernel_rfl
  i233 := by kernel_rfl
  m17 := by kernel_rfl
  m18 := by kernel_rfl
  m19 := by kernel_rfl }
open Go.RowKit Go.Sort Go.Lib in
/-- strconv.Itoa: "Itoa is equivalent to FormatInt(int64(i), 10).": i's DECIMAL NUMERAL ('Lib.itoa': a '-' where i is negative, then the digits), FOR EVERY int. The world behind the call: the world before it, new blocks behind the heap (the library's 'var a [24]byte'), draws. (LAID: no walk: one application.) -/
theorem Tryz.strconv_Itoa (n : Int) (h0 : -9223372036854775808 ≤ n) (h1 : n ≤ 9223372036854775807) (w : World) (htab : Lib.TabIs Tryz.prog w "internal/strconv.uint64pow10" .u64 Lib.pow10Tab) :
    Calls Tryz.prog 75 #[.int .i64 n] w fun e w' => e = .returned (.string ⟨(Lib.itoa n).toArray⟩) ∧ ∃ k os, w' = grow (w.drewN k) os := Any.strconv_Itoa Tryz.laysM171 n h0 h1 w htab
def Tryz.lays171_ren : Go.Shelf.Ren := ⟨fun | 171 => 75 | 243 => 108 | 246 => 139 | 283 => 140 | 284 => 84 | 285 => 120 | 286 => 141 | 129 => 81 | 317 => 85 | 318 => 121 | 319 => 145 | 320 => 146 | 337 => 147 | 338 => 148 | n => n, fun | 3 => 3 | 9 => 9 | 2 => 2 | 4 => 4 | 171 => 147 | 0 => 0 | 53 => 51 | 37 => 44 | 5 => 5 | 173 => 212 | 212 => 199 | 51 => 136 | 20 => 20 | 213 => 224 | 46 => 67 | 232 => 141 | 233 => 228 | n => n, fun | 17 => 11 | 18 => 17 | 19 => 18 | n => n⟩
theorem Tryz.lays171 : Go.Proofs.Lays.n171 Tryz.prog Tryz.lays171_ren := {
  mixed := by kernel_rfl
  f129 := Tryz.func81.trans (congrArg some (by kernel_rfl))
  f171 := Tryz.func75.trans (congrArg some (by kernel_rfl))
  f243 := Tryz.func108.trans (congrArg some (by kernel_rfl))
  f246 := Tryz.func139.trans (congrArg some (by kernel_rfl))
  f283 := Tryz.func140.trans (congrArg some (by kernel_rfl))
  f284 := Tryz.func84.trans (congrArg some (by kernel_rfl))
  f285 := Tryz.func120.trans (congrArg some (by kernel_rfl))
  f286 := Tryz.func141.trans (congrArg some (by kernel_rfl))
  f317 := Tryz.func85.trans (congrArg some (by kernel_rfl))
  f318 := Tryz.func121.trans (congrArg some (by kernel_rfl))
  f319 := Tryz.func145.trans (congrArg some (by kernel_rfl))
  f320 := Tryz.func146.trans (congrArg some (by kernel_rfl))
  f337 := Tryz.func147.trans (congrArg some (by kernel_rfl))
  f338 := Tryz.func148.trans (congrArg some (by kernel_rfl))
  t0 := Tryz.underlying0
  a0 := Tryz.isAgg0
  z0 := Tryz.sizeOf0
  v0 := Tryz.zeroValue0
  t2 := Tryz.underlying2
  a2 := Tryz.isAgg2
  z2 := Tryz.sizeOf2
  v2 := Tryz.zeroValue2
  t3 := Tryz.underlying3
  a3 := Tryz.isAgg3
  z3 := Tryz.sizeOf3
  v3 := Tryz.zeroValue3
  t4 := Tryz.underlying4
  a4 := Tryz.isAgg4
  z4 := Tryz.sizeOf4
  v4 := Tryz.zeroValue4
  t5 := Tryz.underlying5
  a5 := Tryz.isAgg5
  z5 := Tryz.sizeOf5
  v5 := Tryz.zeroValue5
  t9 := Tryz.underlying9
  a9 := Tryz.isAgg9
  z9 := Tryz.sizeOf9
  v9 := Tryz.zeroValue9
  t20 := Tryz.underlying20
  a20 := Tryz.isAgg20
  z20 := Tryz.sizeOf20
  v20 := Tryz.zeroValue20
  t37 := Tryz.underlying44
  a37 := Tryz.isAgg44
  z37 := Tryz.sizeOf44
  v37 := Tryz.zeroValue44
  t46 := Tryz.underlying67
  a46 := Tryz.isAgg67
  z46 := Tryz.sizeOf67
  v46 := Tryz.zeroValue67
  t51 := Tryz.underlying136
  a51 := Tryz.isAgg136
  z51 := Tryz.sizeOf136
  v51 := Tryz.zeroValue136
  t53 := Tryz.underlying51
  a53 := Tryz.isAgg51
  z53 := Tryz.sizeOf51
  v53 := Tryz.zeroValue51
  t171 := Tryz.underlying147
  a171 := Tryz.isAgg147
  z171 := Tryz.sizeOf147
  v171 := Tryz.zeroValue147
  t173 := Tryz.underlying212
  a173 := Tryz.isAgg212
  z173 := Tryz.sizeOf212
  v173 := Tryz.zeroValue212
  t212 := Tryz.underlying199
  a212 := Tryz.isAgg199
  z212 := Tryz.sizeOf199
  v212 := Tryz.zeroValue199
  t213 := Tryz.underlying224
  a213 := Tryz.isAgg224
  z213 := Tryz.sizeOf224
  t232 := Tryz.underlying141
  a232 := Tryz.isAgg141
  z232 := Tryz.sizeOf141
  v232 := Tryz.zeroValue141
  t233 := Tryz.underlying228
  a233 := Tryz.isAgg228
  z233 := Tryz.sizeOf228
  v233 := Tryz.zeroValue228
  g17 := by kernel_rfl
  g18 := by kernel_rfl
  g19 := by kernel_rfl }
open Go.RowKit Go.Sort Go.Lib in
/-- THE ROAD WITHOUT THE TABLE: 0 <= i < 100: NO PREMISE ON THE WORLD, AND THE WORLD IS AS IT WAS: a row that keeps its argument in that range need list no table ('laid = []'). (LAID: no walk: one application.) -/
theorem Tryz.strconv_Itoa_small (i : Nat) (hi : i < 100) (w : World) :
    Calls Tryz.prog 75 #[.int .i64 i] w fun e w' => e = .returned (.string ⟨(Lib.decDigits i).toArray⟩) ∧ w' = w := Any.strconv_Itoa_small Tryz.lays171 i hi w
def Tryz.lays321_ren : Go.Shelf.Ren := ⟨fun | 321 => 111 | n => n, fun | 5 => 5 | n => n, fun | n => n⟩
theorem Tryz.lays321 : Go.Proofs.Lays.n321 Tryz.prog Tryz.lays321_ren := {
  mixed := by kernel_rfl
  f321 := Tryz.func111.trans (congrArg some (by kernel_rfl))
  t5 := Tryz.underlying5
  a5 := Tryz.isAgg5
  z5 := Tryz.sizeOf5
  v5 := Tryz.zeroValue5 }
open Go.RowKit in
/-- internal/strconv.lower: 'c | ('x' - 'X')': the bit 32 set. The world is as it was. (LAID: no walk: one application.) -/
theorem Tryz.internal_strconv_lower (c : Int) (w : World) :
    Calls Tryz.prog 111 #[.int .u8 c] w fun e w' => e = .returned (.int .u8 (bits .or .u8 c 32)) ∧ w' = w := Any.internal_strconv_lower Tryz.lays321 c w
def Tryz.laysM181_ren : Go.Shelf.Ren := ⟨fun | 181 => 50 | n => n, fun | 130 => 120 | 3 => 3 | 0 => 0 | 93 => 65 | 37 => 44 | 91 => 63 | 5 => 5 | n => n, fun | n => n⟩
theorem Tryz.laysM181 : Go.Proofs.LaysM.n181 Tryz.prog Tryz.laysM181_ren := {
  mixed := by kernel_rfl
  f181 := Tryz.func50.trans (congrArg some (by kernel_rfl))
  t0 := Tryz.underlying0
  a0 := Tryz.isAgg0
  z0 := Tryz.sizeOf0
  v0 := Tryz.zeroValue0
  t3 := Tryz.underlying3
  a3 := Tryz.isAgg3
  z3 := Tryz.sizeOf3
  v3 := Tryz.zeroValue3
  t37 := Tryz.underlying44
  a37 := Tryz.isAgg44
  z37 := Tryz.sizeOf44
  v37 := Tryz.zeroValue44
  t93 := Tryz.underlying65
  a93 := Tryz.isAgg65
  z93 := Tryz.sizeOf65
  v93 := Tryz.zeroValue65
  t130 := Tryz.underlying120
  a130 := Tryz.isAgg120
  z130 := Tryz.sizeOf120
  v130 := Tryz.zeroValue120
  t5 := Tryz.underlying5
  a5 := Tryz.isAgg5
  z5 := Tryz.sizeOf5
  v5 := Tryz.zeroValue5
  t91 := Tryz.underlying63
  a91 := Tryz.isAgg63
  z91 := Tryz.sizeOf63
  v91 := Tryz.zeroValue63
  i0 := by kernel_rfl
  i3 := by kernel_rfl
  i5 := by kernel_rfl
  i37 := by kernel_rfl
  i91 := by kernel_rfl
  i93 := by kernel_rfl
  i130 := by kernel_rfl }
open Go.RowKit in
/-- (*bytes.Buffer).Len: "Len returns the number of bytes of the unread portion of the buffer; b.Len() == len(b.Bytes()).": the world is as it was but for the count of draws (the statement has two reads: its order is drawn). (LAID: no walk: one application.) -/
theorem Tryz.Buffer_Len_at (T : TypeId) (R : Nat → Option Value) (B b q : Nat) (bs : List Value) (w : World) (h : LibA.IsBuffer T R 5 B b q bs w) :
    Calls Tryz.prog 50 #[.pointer (some ⟨b, q, none⟩)] w fun e w' => e = .returned (.int .i64 bs.length) ∧ ∃ n, w' = w.drewN n := Any.Buffer_Len_at Tryz.laysM181 T R B b q bs w h
def Tryz.laysM182_ren : Go.Shelf.Ren := ⟨fun | 182 => 52 | n => n, fun | 130 => 120 | 9 => 9 | 4 => 4 | 0 => 0 | 93 => 65 | 37 => 44 | 3 => 3 | 91 => 63 | 5 => 5 | n => n, fun | n => n⟩
theorem Tryz.laysM182 : Go.Proofs.LaysM.n182 Tryz.prog Tryz.laysM182_ren := {
  mixed := by kernel_rfl
  f182 := Tryz.func52.trans (congrArg some (by kernel_rfl))
  t0 := Tryz.underlying0
  a0 := Tryz.isAgg0
  z0 := Tryz.sizeOf0
  v0 := Tryz.zeroValue0
  t3 := Tryz.underlying3
  a3 := Tryz.isAgg3
  z3 := Tryz.sizeOf3
  v3 := Tryz.zeroValue3
  t4 := Tryz.underlying4
  a4 := Tryz.isAgg4
  z4 := Tryz.sizeOf4
  v4 := Tryz.zeroValue4
  t9 := Tryz.underlying9
  a9 := Tryz.isAgg9
  z9 := Tryz.sizeOf9
  v9 := Tryz.zeroValue9
  t37 := Tryz.underlying44
  a37 := Tryz.isAgg44
  z37 := Tryz.sizeOf44
  v37 := Tryz.zeroValue44
  t93 := Tryz.underlying65
  a93 := Tryz.isAgg65
  z93 := Tryz.sizeOf65
  v93 := Tryz.zeroValue65
  t130 := Tryz.underlying120
  a130 := Tryz.isAgg120
  z130 := Tryz.sizeOf120
  v130 := Tryz.zeroValue120
  t5 := Tryz.underlying5
  a5 := Tryz.isAgg5
  z5 := Tryz.sizeOf5
  v5 := Tryz.zeroValue5
  t91 := Tryz.underlying63
  a91 := Tryz.isAgg63
  z91 := Tryz.sizeOf63
  v91 := Tryz.zeroValue63
  i0 := by kernel_rfl
  i3 := by kernel_rfl
  i4 := by kernel_rfl
  i5 := by kernel_rfl
  i9 := by kernel_rfl
  i37 := by kernel_rfl
  i91 := by kernel_rfl
  i93 := by kernel_rfl
  i130 := by kernel_rfl }
open Go.RowKit in
/-- (*bytes.Buffer).String: "String returns the contents of the unread portion of the buffer as a string.": THE BYTES THAT WERE WRITTEN. The world is as it was but for the count of draws (the statement has two reads: its order is drawn). (LAID: no walk: one application.) -/
theorem Tryz.Buffer_String_at (T : TypeId) (R : Nat → Option Value) (B b q : Nat) (l : List UInt8) (w : World) (h : LibA.IsBuffer T R 5 B b q (Lib.byteCells l) w) :
    Calls Tryz.prog 52 #[.pointer (some ⟨b, q, none⟩)] w fun e w' => e = .returned (.string ⟨l.toArray⟩) ∧ ∃ n, w' = w.drewN n := Any.Buffer_String_at Tryz.laysM182 T R B b q l w h
def Tryz.lays264_ren : Go.Shelf.Ren := ⟨fun | 264 => 142 | n => n, fun | 53 => 51 | 46 => 67 | n => n, fun | n => n⟩
theorem Tryz.lays264 : Go.Proofs.Lays.n264 Tryz.prog Tryz.lays264_ren := {
  mixed := by kernel_rfl
  f264 := Tryz.func142.trans (congrArg some (by kernel_rfl))
  t46 := Tryz.underlying67
  a46 := Tryz.isAgg67
  z46 := Tryz.sizeOf67
  v46 := Tryz.zeroValue67
  t53 := Tryz.underlying51
  a53 := Tryz.isAgg51
  z53 := Tryz.sizeOf51
  v53 := Tryz.zeroValue51 }
open Go.RowKit Go.Lib in
theorem Tryz.bits_Mul64 (x y : Nat) (hx : x < 18446744073709551616) (hy : y < 18446744073709551616) (w : World) :
    Calls Tryz.prog 142 #[.int .u64 x, .int .u64 y] w fun e w' => e = .returned (.tuple #[.int .u64 ((x * y / 18446744073709551616 : Nat) : Int), .int .u64 ((x * y % 18446744073709551616 : Nat) : Int)]) ∧ w' = w := Any.bits_Mul64 Tryz.lays264 x y hx hy w
def Tryz.lays260_ren : Go.Shelf.Ren := ⟨fun | 260 => 178 | n => n, fun | 9 => 9 | 21 => 21 | 3 => 3 | 4 => 4 | 5 => 5 | 119 => 155 | 0 => 0 | 46 => 67 | 139 => 158 | 138 => 157 | n => n, fun | 3 => 6 | 4 => 7 | n => n⟩
theorem Tryz.lays260 : Go.Proofs.Lays.n260 Tryz.prog Tryz.lays260_ren := {
  mixed := by kernel_rfl
  f260 := Tryz.func178.trans (congrArg some (by kernel_rfl))
  t0 := Tryz.underlying0
  a0 := Tryz.isAgg0
  z0 := Tryz.sizeOf0
  v0 := Tryz.zeroValue0
  t3 := Tryz.underlying3
  a3 := Tryz.isAgg3
  z3 := Tryz.sizeOf3
  v3 := Tryz.zeroValue3
  t4 := Tryz.underlying4
  a4 := Tryz.isAgg4
  z4 := Tryz.sizeOf4
  v4 := Tryz.zeroValue4
  t5 := Tryz.underlying5
  a5 := Tryz.isAgg5
  z5 := Tryz.sizeOf5
  v5 := Tryz.zeroValue5
  t9 := Tryz.underlying9
  a9 := Tryz.isAgg9
  z9 := Tryz.sizeOf9
  v9 := Tryz.zeroValue9
  t21 := Tryz.underlying21
  a21 := Tryz.isAgg21
  z21 := Tryz.sizeOf21
  v21 := Tryz.zeroValue21
  t46 := Tryz.underlying67
  a46 := Tryz.isAgg67
  z46 := Tryz.sizeOf67
  v46 := Tryz.zeroValue67
  t119 := Tryz.underlying155
  a119 := Tryz.isAgg155
  z119 := Tryz.sizeOf155
  t138 := Tryz.underlying157
  a138 := Tryz.isAgg157
  z138 := Tryz.sizeOf157
  v138 := Tryz.zeroValue157
  t139 := Tryz.underlying158
  a139 := Tryz.isAgg158
  z139 := Tryz.sizeOf158
  v139 := Tryz.zeroValue158
  g3 := by kernel_rfl
  g4 := by kernel_rfl }
open Go.RowKit Go.Lib in
theorem Tryz.utf8_decodeRuneInStringSlow (s : ByteArray) (w : World) (hT : Lib.Utf8Tabs 6 7 w) :
    Calls Tryz.prog 178 #[.string s] w fun e w' => e = .returned (.tuple #[.int .i32 (Lib.decodeGo s).1, .int .i64 (Lib.decodeGo s).2]) ∧ Below w.heap.size w w' := Any.utf8_decodeRuneInStringSlow Tryz.lays260 s w hT
end Go.Proofs
