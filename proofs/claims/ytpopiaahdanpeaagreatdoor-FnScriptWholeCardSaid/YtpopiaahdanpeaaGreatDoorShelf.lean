/-
  DERIVED: THE SHELF's CONTRACTS AT THIS DUMP, IN PLAIN WORDS (tools/lay-plain.mjs out of 'TryzShelf.lean', which tools/lay-shelf.mjs wrote): THE SAME DECLARATIONS UNDER THE SAME NAMES: 'import', 'namespace', 'open', 'def', 'theorem' AND NOTHING ELSE: no command of the shelf's: FOR A HAND-IN. Each laying: the table of numbers ('.._ren') and one theorem, a field a fact of the dump's own or the kernel's comparison; each contract: ONE APPLICATION.
-/
import Derived.Shelf.Small.Bits
import Derived.Shelf.Small.Wraps
import Derived.Shelf.Strconv.Itoa0
import Derived.Shelf.Strconv.Itoa1
import Derived.Shelf.LaysM
import Derived.Shelf.Strconv.Itoa2
import Derived.Shelf.Strconv.Itoa3
import Derived.Shelf.Strings.Prefix
import Derived.Shelf.Slices.Equal
import Derived.Shelf.Slices.Empties2
import Derived.Ground.SlgmProg
import Derived.Shelf.SortM.Plain
import Derived.Shelf.SortM.SortNone
import Derived.Test.YtpopiaahdanpeaaGreatDoorProg
namespace Go.Proofs
open Go.Shelf
def Tryz.lays128_ren : Go.Shelf.Ren := ⟨fun | 128 => 68 | n => n, fun | 51 => 117 | 3 => 3 | 4 => 4 | 46 => 93 | 5 => 5 | 9 => 9 | n => n, fun | n => n⟩
theorem Tryz.lays128 : Go.Proofs.Lays.n128 Tryz.prog Tryz.lays128_ren := {
  mixed := by kernel_rfl
  f128 := Tryz.func68.trans (congrArg some (by kernel_rfl))
  t3 := Tryz.underlying3
  a3 := Tryz.isAgg3
  z3 := Tryz.sizeOf3
  v3 := Tryz.zeroValue3
  t4 := Tryz.underlying4
  a4 := Tryz.isAgg4
  z4 := Tryz.sizeOf4
  v4 := Tryz.zeroValue4
  t5 := Tryz.underlying5
  a5 := Tryz.isAgg5
  z5 := Tryz.sizeOf5
  v5 := Tryz.zeroValue5
  t9 := Tryz.underlying9
  a9 := Tryz.isAgg9
  z9 := Tryz.sizeOf9
  v9 := Tryz.zeroValue9
  t46 := Tryz.underlying93
  a46 := Tryz.isAgg93
  z46 := Tryz.sizeOf93
  v46 := Tryz.zeroValue93
  t51 := Tryz.underlying117
  a51 := Tryz.isAgg117
  z51 := Tryz.sizeOf117
  v51 := Tryz.zeroValue117 }
/-- bits.Len32: "Len32 returns the minimum number of bits required to represent x; the result is 0 for x == 0.": IT RETURNS 'Lib.bitLen x'; the world is as it was. ('h0', 'h1': x is a uint32.) (LAID: no walk: one application.) -/
theorem Tryz.bits_Len32 (x : Int) (w : World) (h0 : 0 ≤ x) (h1 : x ≤ 4294967295) :
    Calls Tryz.prog 68 #[.int .u32 x] w fun e w' => e = .returned (.int .i64 (Lib.bitLen x.toNat)) ∧ w' = w := Any.bits_Len32 Tryz.lays128 x w h0 h1
def Tryz.lays125_ren : Go.Shelf.Ren := ⟨fun | 125 => 53 | 128 => 68 | 129 => 69 | n => n, fun | 46 => 93 | 3 => 3 | 51 => 117 | 53 => 104 | 4 => 4 | 5 => 5 | 9 => 9 | n => n, fun | n => n⟩
theorem Tryz.lays125 : Go.Proofs.Lays.n125 Tryz.prog Tryz.lays125_ren := {
  mixed := by kernel_rfl
  f125 := Tryz.func53.trans (congrArg some (by kernel_rfl))
  f128 := Tryz.func68.trans (congrArg some (by kernel_rfl))
  f129 := Tryz.func69.trans (congrArg some (by kernel_rfl))
  t3 := Tryz.underlying3
  a3 := Tryz.isAgg3
  z3 := Tryz.sizeOf3
  v3 := Tryz.zeroValue3
  t4 := Tryz.underlying4
  a4 := Tryz.isAgg4
  z4 := Tryz.sizeOf4
  v4 := Tryz.zeroValue4
  t5 := Tryz.underlying5
  a5 := Tryz.isAgg5
  z5 := Tryz.sizeOf5
  v5 := Tryz.zeroValue5
  t9 := Tryz.underlying9
  a9 := Tryz.isAgg9
  z9 := Tryz.sizeOf9
  v9 := Tryz.zeroValue9
  t46 := Tryz.underlying93
  a46 := Tryz.isAgg93
  z46 := Tryz.sizeOf93
  v46 := Tryz.zeroValue93
  t51 := Tryz.underlying117
  a51 := Tryz.isAgg117
  z51 := Tryz.sizeOf117
  v51 := Tryz.zeroValue117
  t53 := Tryz.underlying104
  a53 := Tryz.isAgg104
  z53 := Tryz.sizeOf104
  v53 := Tryz.zeroValue104 }
/-- bits.Len: "Len returns the minimum number of bits required to represent x; the result is 0 for x == 0.": IT RETURNS 'Lib.bitLen x'; the world is as it was. (A uint has 64 bits in the model.) ITS CALLEE bits.Len64 IS MET BY ITS OWN CONTRACT OFF THE SHELF (lay that first). (LAID: no walk: one application.) -/
theorem Tryz.bits_Len (x : Int) (w : World) (h0 : 0 ≤ x) (h1 : x ≤ 18446744073709551615) :
    Calls Tryz.prog 53 #[.int .u64 x] w fun e w' => e = .returned (.int .i64 (Lib.bitLen x.toNat)) ∧ w' = w := Any.bits_Len Tryz.lays125 x w h0 h1
def Tryz.lays214_ren : Go.Shelf.Ren := ⟨fun | 214 => 31 | n => n, fun | 4 => 4 | 9 => 9 | n => n, fun | n => n⟩
theorem Tryz.lays214 : Go.Proofs.Lays.n214 Tryz.prog Tryz.lays214_ren := {
  mixed := by kernel_rfl
  f214 := Tryz.func31.trans (congrArg some (by kernel_rfl))
  t4 := Tryz.underlying4
  a4 := Tryz.isAgg4
  z4 := Tryz.sizeOf4
  v4 := Tryz.zeroValue4
  t9 := Tryz.underlying9
  a9 := Tryz.isAgg9
  z9 := Tryz.sizeOf9
  v9 := Tryz.zeroValue9 }
open Go.RowKit in
/-- internal/strconv.FormatBool (what strconv.FormatBool calls). (LAID: no walk: one application.) -/
theorem Tryz.internal_strconv_FormatBool (b : Bool) (w : World) :
    Calls Tryz.prog 31 #[.bool b] w fun e w' => e = .returned (.string ⟨(Lib.formatBool b).toArray⟩) ∧ w' = w := Any.internal_strconv_FormatBool Tryz.lays214 b w
def Tryz.lays121_ren : Go.Shelf.Ren := ⟨fun | 121 => 15 | 214 => 31 | n => n, fun | 4 => 4 | 9 => 9 | n => n, fun | n => n⟩
theorem Tryz.lays121 : Go.Proofs.Lays.n121 Tryz.prog Tryz.lays121_ren := {
  mixed := by kernel_rfl
  f121 := Tryz.func15.trans (congrArg some (by kernel_rfl))
  f214 := Tryz.func31.trans (congrArg some (by kernel_rfl))
  t4 := Tryz.underlying4
  a4 := Tryz.isAgg4
  z4 := Tryz.sizeOf4
  v4 := Tryz.zeroValue4
  t9 := Tryz.underlying9
  a9 := Tryz.isAgg9
  z9 := Tryz.sizeOf9
  v9 := Tryz.zeroValue9 }
open Go.RowKit in
/-- strconv.FormatBool: "FormatBool returns "true" or "false" according to the value of b.": IT RETURNS 'Lib.formatBool b'; the world is as it was. (LAID: no walk: one application.) -/
theorem Tryz.strconv_FormatBool (b : Bool) (w : World) :
    Calls Tryz.prog 15 #[.bool b] w fun e w' => e = .returned (.string ⟨(Lib.formatBool b).toArray⟩) ∧ w' = w := Any.strconv_FormatBool Tryz.lays121 b w
def Tryz.lays129_ren : Go.Shelf.Ren := ⟨fun | 129 => 69 | n => n, fun | 53 => 104 | 3 => 3 | 4 => 4 | 46 => 93 | 5 => 5 | 9 => 9 | n => n, fun | n => n⟩
theorem Tryz.lays129 : Go.Proofs.Lays.n129 Tryz.prog Tryz.lays129_ren := {
  mixed := by kernel_rfl
  f129 := Tryz.func69.trans (congrArg some (by kernel_rfl))
  t3 := Tryz.underlying3
  a3 := Tryz.isAgg3
  z3 := Tryz.sizeOf3
  v3 := Tryz.zeroValue3
  t4 := Tryz.underlying4
  a4 := Tryz.isAgg4
  z4 := Tryz.sizeOf4
  v4 := Tryz.zeroValue4
  t5 := Tryz.underlying5
  a5 := Tryz.isAgg5
  z5 := Tryz.sizeOf5
  v5 := Tryz.zeroValue5
  t9 := Tryz.underlying9
  a9 := Tryz.isAgg9
  z9 := Tryz.sizeOf9
  v9 := Tryz.zeroValue9
  t46 := Tryz.underlying93
  a46 := Tryz.isAgg93
  z46 := Tryz.sizeOf93
  v46 := Tryz.zeroValue93
  t53 := Tryz.underlying104
  a53 := Tryz.isAgg104
  z53 := Tryz.sizeOf104
  v53 := Tryz.zeroValue104 }
/-- bits.Len64: "Len64 returns the minimum number of bits required to represent x; the result is 0 for x == 0.": IT RETURNS 'Lib.bitLen x'; the world is as it was. ('h0', 'h1': x is a uint64.) (LAID: no walk: one application.) -/
theorem Tryz.bits_Len64 (x : Int) (w : World) (h0 : 0 ≤ x) (h1 : x ≤ 18446744073709551615) :
    Calls Tryz.prog 69 #[.int .u64 x] w fun e w' => e = .returned (.int .i64 (Lib.bitLen x.toNat)) ∧ w' = w := Any.bits_Len64 Tryz.lays129 x w h0 h1
def Tryz.lays317_ren : Go.Shelf.Ren := ⟨fun | 317 => 70 | n => n, fun | 3 => 3 | 46 => 93 | n => n, fun | n => n⟩
theorem Tryz.lays317 : Go.Proofs.Lays.n317 Tryz.prog Tryz.lays317_ren := {
  mixed := by kernel_rfl
  f317 := Tryz.func70.trans (congrArg some (by kernel_rfl))
  t3 := Tryz.underlying3
  a3 := Tryz.isAgg3
  z3 := Tryz.sizeOf3
  v3 := Tryz.zeroValue3
  t46 := Tryz.underlying93
  a46 := Tryz.isAgg93
  z46 := Tryz.sizeOf93
  v46 := Tryz.zeroValue93 }
open Go.Lib in
/-- internal/strconv.log10Pow2: "log10Pow2(x) returns ⌊log₁₀ 2**x⌋ = ⌊x * log₁₀ 2⌋.": '(x * 78913) >> 18', at an x up to 64 (a length in bits). The world is as it was. (LAID: no walk: one application.) -/
theorem Tryz.internal_strconv_log10Pow2 (x : Nat) (h : x ≤ 64) (w : World) :
    Calls Tryz.prog 70 #[.int .i64 x] w fun e w' => e = .returned (.int .i64 (Lib.l10 x)) ∧ w' = w := Any.internal_strconv_log10Pow2 Tryz.lays317 x h w
def Tryz.lays318_ren : Go.Shelf.Ren := ⟨fun | 318 => 71 | n => n, fun | 3 => 3 | 4 => 4 | n => n, fun | n => n⟩
theorem Tryz.lays318 : Go.Proofs.Lays.n318 Tryz.prog Tryz.lays318_ren := {
  mixed := by kernel_rfl
  f318 := Tryz.func71.trans (congrArg some (by kernel_rfl))
  t3 := Tryz.underlying3
  a3 := Tryz.isAgg3
  z3 := Tryz.sizeOf3
  v3 := Tryz.zeroValue3
  t4 := Tryz.underlying4
  a4 := Tryz.isAgg4
  z4 := Tryz.sizeOf4
  v4 := Tryz.zeroValue4 }
open Go.Lib in
/-- internal/strconv.bool2: "bool2 converts b to an integer: 1 for true, 0 for false." The world is as it was. (LAID: no walk: one application.) -/
theorem Tryz.internal_strconv_bool2_int (b : Bool) (w : World) :
    Calls Tryz.prog 71 #[.bool b] w fun e w' => e = .returned (.int .i64 (if b then 1 else 0)) ∧ w' = w := Any.internal_strconv_bool2_int Tryz.lays318 b w
def Tryz.lays283_ren : Go.Shelf.Ren := ⟨fun | 283 => 55 | n => n, fun | 3 => 3 | 9 => 9 | 4 => 4 | n => n, fun | n => n⟩
theorem Tryz.lays283 : Go.Proofs.Lays.n283 Tryz.prog Tryz.lays283_ren := {
  mixed := by kernel_rfl
  f283 := Tryz.func55.trans (congrArg some (by kernel_rfl))
  t3 := Tryz.underlying3
  a3 := Tryz.isAgg3
  z3 := Tryz.sizeOf3
  v3 := Tryz.zeroValue3
  t4 := Tryz.underlying4
  a4 := Tryz.isAgg4
  z4 := Tryz.sizeOf4
  v4 := Tryz.zeroValue4
  t9 := Tryz.underlying9
  a9 := Tryz.isAgg9
  z9 := Tryz.sizeOf9
  v9 := Tryz.zeroValue9 }
open Go.Lib in
/-- internal/strconv.small: "small returns the string for an i with 0 <= i < nSmalls.": i's decimal numeral. The world is as it was. (LAID: no walk: one application.) -/
theorem Tryz.internal_strconv_small (i : Nat) (h : i < 100) (w : World) :
    Calls Tryz.prog 55 #[.int .i64 i] w fun e w' => e = .returned (.string ⟨(Lib.decDigits i).toArray⟩) ∧ w' = w := Any.internal_strconv_small Tryz.lays283 i h w
def Tryz.laysM284_ren : Go.Shelf.Ren := ⟨fun | 284 => 56 | 129 => 69 | 317 => 70 | 318 => 71 | n => n, fun | 53 => 104 | 3 => 3 | 212 => 120 | 0 => 0 | 4 => 4 | 46 => 93 | 5 => 5 | 9 => 9 | n => n, fun | 17 => 0 | n => n⟩
theorem Tryz.laysM284 : Go.Proofs.LaysM.n284 Tryz.prog Tryz.laysM284_ren := {
  mixed := by kernel_rfl
  f129 := Tryz.func69.trans (congrArg some (by kernel_rfl))
  f284 := Tryz.func56.trans (congrArg some (by kernel_rfl))
  f317 := Tryz.func70.trans (congrArg some (by kernel_rfl))
  f318 := Tryz.func71.trans (congrArg some (by kernel_rfl))
  t0 := Tryz.underlying0
  a0 := Tryz.isAgg0
  z0 := Tryz.sizeOf0
  v0 := Tryz.zeroValue0
  t3 := Tryz.underlying3
  a3 := Tryz.isAgg3
  z3 := Tryz.sizeOf3
  v3 := Tryz.zeroValue3
  t4 := Tryz.underlying4
  a4 := Tryz.isAgg4
  z4 := Tryz.sizeOf4
  v4 := Tryz.zeroValue4
  t5 := Tryz.underlying5
  a5 := Tryz.isAgg5
  z5 := Tryz.sizeOf5
  v5 := Tryz.zeroValue5
  t9 := Tryz.underlying9
  a9 := Tryz.isAgg9
  z9 := Tryz.sizeOf9
  v9 := Tryz.zeroValue9
  t46 := Tryz.underlying93
  a46 := Tryz.isAgg93
  z46 := Tryz.sizeOf93
  v46 := Tryz.zeroValue93
  t53 := Tryz.underlying104
  a53 := Tryz.isAgg104
  z53 := Tryz.sizeOf104
  v53 := Tryz.zeroValue104
  t212 := Tryz.underlying120
  a212 := Tryz.isAgg120
  z212 := Tryz.sizeOf120
  v212 := Tryz.zeroValue120
  g17 := by kernel_rfl
  i0 := by kernel_rfl
  i3 := by kernel_rfl
  i4 := by kernel_rfl
  i5 := by kernel_rfl
  i9 := by kernel_rfl
  i46 := by kernel_rfl
  i53 := by kernel_rfl
  i212 := by kernel_rfl
  m17 := by kernel_rfl }
open Go.Lib in
/-- internal/strconv.numDigits, at a d that is not 0: THE NUMBER OF d's DECIMAL DIGITS. The world is as it was. (LAID: no walk: one application.) -/
theorem Tryz.internal_strconv_numDigits (u : Nat) (h1 : 1 ≤ u) (h2 : u < 18446744073709551616) (w : World) (htab : Lib.TabIs Tryz.prog w "internal/strconv.uint64pow10" .u64 Lib.pow10Tab) :
    Calls Tryz.prog 56 #[.int .u64 u] w fun e w' => e = .returned (.int .i64 (Lib.nDigits u)) ∧ w' = w := Any.internal_strconv_numDigits Tryz.laysM284 u h1 h2 w htab
def Tryz.lays285_ren : Go.Shelf.Ren := ⟨fun | 285 => 57 | n => n, fun | 37 => 22 | 53 => 104 | 3 => 3 | 4 => 4 | 51 => 117 | 9 => 9 | 5 => 5 | 0 => 0 | n => n, fun | n => n⟩
theorem Tryz.lays285 : Go.Proofs.Lays.n285 Tryz.prog Tryz.lays285_ren := {
  mixed := by kernel_rfl
  f285 := Tryz.func57.trans (congrArg some (by kernel_rfl))
  t0 := Tryz.underlying0
  a0 := Tryz.isAgg0
  z0 := Tryz.sizeOf0
  v0 := Tryz.zeroValue0
  t3 := Tryz.underlying3
  a3 := Tryz.isAgg3
  z3 := Tryz.sizeOf3
  v3 := Tryz.zeroValue3
  t4 := Tryz.underlying4
  a4 := Tryz.isAgg4
  z4 := Tryz.sizeOf4
  v4 := Tryz.zeroValue4
  t5 := Tryz.underlying5
  a5 := Tryz.isAgg5
  z5 := Tryz.sizeOf5
  v5 := Tryz.zeroValue5
  t9 := Tryz.underlying9
  a9 := Tryz.isAgg9
  z9 := Tryz.sizeOf9
  v9 := Tryz.zeroValue9
  t37 := Tryz.underlying22
  a37 := Tryz.isAgg22
  z37 := Tryz.sizeOf22
  v37 := Tryz.zeroValue22
  t51 := Tryz.underlying117
  a51 := Tryz.isAgg117
  z51 := Tryz.sizeOf117
  v51 := Tryz.zeroValue117
  t53 := Tryz.underlying104
  a53 := Tryz.isAgg104
  z53 := Tryz.sizeOf104
  v53 := Tryz.zeroValue104 }
open Go.RowKit Go.Sort Go.Lib in
/-- internal/strconv.formatBase10: "formatBase10 formats the decimal representation of u into a. The caller is responsible for ensuring that a is big enough to hold u. If a is too big, leading zeros will be filled in as needed.": THE ROW HOLDS u's DIGITS ('FmtInv .. 0 ..': every place t holds 'dg u (len - 1 - t)'); all else is as it was but for the count of draws. (LAID: no walk: one application.) -/
theorem Tryz.internal_strconv_formatBase10 (blk off cap : Nat) (u : Nat) (d : Array UInt8) (w : World) (hH : Holds (fun (b : UInt8) => Value.int .u8 (b.toNat : Int)) w blk off d) (hu : u < 10 ^ d.size) (hu64 : u < 18446744073709551616) (hsz : d.size < 4611686018427387904) :
    Calls Tryz.prog 57 #[.slice (some ⟨blk, off, none⟩) d.size cap, .int .u64 u] w fun e w' =>
      e = .returned (.tuple #[]) ∧ ∃ (n v' : Nat) (dk : Array UInt8), w' = (putRow (fun (b : UInt8) => Value.int .u8 (b.toNat : Int)) w blk off dk).drewN n ∧ FmtInv d.size u 0 v' dk := Any.internal_strconv_formatBase10 Tryz.lays285 blk off cap u d w hH hu hu64 hsz
def Tryz.laysM246_ren : Go.Shelf.Ren := ⟨fun | 246 => 50 | 283 => 55 | 284 => 56 | 285 => 57 | 286 => 58 | 129 => 69 | 317 => 70 | 318 => 71 | 319 => 72 | 320 => 73 | 337 => 80 | 338 => 81 | n => n, fun | 2 => 2 | 3 => 3 | 9 => 9 | 4 => 4 | 171 => 103 | 0 => 0 | 53 => 104 | 37 => 22 | 5 => 5 | 173 => 107 | 212 => 120 | 51 => 117 | 20 => 20 | 213 => 121 | 46 => 93 | 232 => 132 | 233 => 133 | n => n, fun | 17 => 0 | 18 => 1 | 19 => 2 | n => n⟩
theorem Tryz.laysM246 : Go.Proofs.LaysM.n246 Tryz.prog Tryz.laysM246_ren := {
  mixed := by kernel_rfl
  f129 := Tryz.func69.trans (congrArg some (by kernel_rfl))
  f246 := Tryz.func50.trans (congrArg some (by kernel_rfl))
  f283 := Tryz.func55.trans (congrArg some (by kernel_rfl))
  f284 := Tryz.func56.trans (congrArg some (by kernel_rfl))
  f285 := Tryz.func57.trans (congrArg some (by kernel_rfl))
  f286 := Tryz.func58.trans (congrArg some (by kernel_rfl))
  f317 := Tryz.func70.trans (congrArg some (by kernel_rfl))
  f318 := Tryz.func71.trans (congrArg some (by kernel_rfl))
  f319 := Tryz.func72.trans (congrArg some (by kernel_rfl))
  f320 := Tryz.func73.trans (congrArg some (by kernel_rfl))
  f337 := Tryz.func80.trans (congrArg some (by kernel_rfl))
  f338 := Tryz.func81.trans (congrArg some (by kernel_rfl))
  t0 := Tryz.underlying0
  a0 := Tryz.isAgg0
  z0 := Tryz.sizeOf0
  v0 := Tryz.zeroValue0
  t2 := Tryz.underlying2
  a2 := Tryz.isAgg2
  z2 := Tryz.sizeOf2
  v2 := Tryz.zeroValue2
  t3 := Tryz.underlying3
  a3 := Tryz.isAgg3
  z3 := Tryz.sizeOf3
  v3 := Tryz.zeroValue3
  t4 := Tryz.underlying4
  a4 := Tryz.isAgg4
  z4 := Tryz.sizeOf4
  v4 := Tryz.zeroValue4
  t5 := Tryz.underlying5
  a5 := Tryz.isAgg5
  z5 := Tryz.sizeOf5
  v5 := Tryz.zeroValue5
  t9 := Tryz.underlying9
  a9 := Tryz.isAgg9
  z9 := Tryz.sizeOf9
  v9 := Tryz.zeroValue9
  t20 := Tryz.underlying20
  a20 := Tryz.isAgg20
  z20 := Tryz.sizeOf20
  v20 := Tryz.zeroValue20
  t37 := Tryz.underlying22
  a37 := Tryz.isAgg22
  z37 := Tryz.sizeOf22
  v37 := Tryz.zeroValue22
  t46 := Tryz.underlying93
  a46 := Tryz.isAgg93
  z46 := Tryz.sizeOf93
  v46 := Tryz.zeroValue93
  t51 := Tryz.underlying117
  a51 := Tryz.isAgg117
  z51 := Tryz.sizeOf117
  v51 := Tryz.zeroValue117
  t53 := Tryz.underlying104
  a53 := Tryz.isAgg104
  z53 := Tryz.sizeOf104
  v53 := Tryz.zeroValue104
  t171 := Tryz.underlying103
  a171 := Tryz.isAgg103
  z171 := Tryz.sizeOf103
  v171 := Tryz.zeroValue103
  t173 := Tryz.underlying107
  a173 := Tryz.isAgg107
  z173 := Tryz.sizeOf107
  v173 := Tryz.zeroValue107
  t212 := Tryz.underlying120
  a212 := Tryz.isAgg120
  z212 := Tryz.sizeOf120
  v212 := Tryz.zeroValue120
  t213 := Tryz.underlying121
  a213 := Tryz.isAgg121
  z213 := Tryz.sizeOf121
  t232 := Tryz.underlying132
  a232 := Tryz.isAgg132
  z232 := Tryz.sizeOf132
  v232 := Tryz.zeroValue132
  t233 := Tryz.underlying133
  a233 := Tryz.isAgg133
  z233 := Tryz.sizeOf133
  v233 := Tryz.zeroValue133
  g17 := by kernel_rfl
  g18 := by kernel_rfl
  g19 := by kernel_rfl
  i0 := by kernel_rfl
  i2 := by kernel_rfl
  i3 := by kernel_rfl
  i4 := by kernel_rfl
  i5 := by kernel_rfl
  i9 := by kernel_rfl
  i20 := by kernel_rfl
  i37 := by kernel_rfl
  i46 := by kernel_rfl
  i51 := by kernel_rfl
  i53 := by kernel_rfl
  i171 := by kernel_rfl
  i173 := by kernel_rfl
  i212 := by kernel_rfl
  i232 := by kernel_rfl
  i233 := by kernel_rfl
  m17 := by kernel_rfl
  m18 := by kernel_rfl
  m19 := by kernel_rfl }
open Go.RowKit Go.Sort Go.Lib in
/-- internal/strconv.FormatInt: "FormatInt returns the string representation of i in the given base": AT BASE 10: i's decimal numeral, for every int64. The world behind the call: the world before it, new blocks behind the heap, draws. (LAID: no walk: one application.) -/
theorem Tryz.internal_strconv_FormatInt_10 (n : Int) (h0 : -9223372036854775808 ≤ n) (h1 : n ≤ 9223372036854775807) (w : World) (htab : Lib.TabIs Tryz.prog w "internal/strconv.uint64pow10" .u64 Lib.pow10Tab) :
    Calls Tryz.prog 50 #[.int .i64 n, .int .i64 10] w fun e w' => e = .returned (.string ⟨(Lib.itoa n).toArray⟩) ∧ ∃ k os, w' = grow (w.drewN k) os := Any.internal_strconv_FormatInt_10 Tryz.laysM246 n h0 h1 w htab
def Tryz.lays246_ren : Go.Shelf.Ren := ⟨fun | 246 => 50 | 283 => 55 | 284 => 56 | 285 => 57 | 286 => 58 | 129 => 69 | 317 => 70 | 318 => 71 | 319 => 72 | 320 => 73 | 337 => 80 | 338 => 81 | n => n, fun | 2 => 2 | 3 => 3 | 9 => 9 | 4 => 4 | 171 => 103 | 0 => 0 | 53 => 104 | 37 => 22 | 5 => 5 | 173 => 107 | 212 => 120 | 51 => 117 | 20 => 20 | 213 => 121 | 46 => 93 | 232 => 132 | 233 => 133 | n => n, fun | 17 => 0 | 18 => 1 | 19 => 2 | n => n⟩
theorem Tryz.lays246 : Go.Proofs.Lays.n246 Tryz.prog Tryz.lays246_ren := {
  mixed := by kernel_rfl
  f129 := Tryz.func69.trans (congrArg some (by kernel_rfl))
  f246 := Tryz.func50.trans (congrArg some (by kernel_rfl))
  f283 := Tryz.func55.trans (congrArg some (by kernel_rfl))
  f284 := Tryz.func56.trans (congrArg some (by kernel_rfl))
  f285 := Tryz.func57.trans (congrArg some (by kernel_rfl))
  f286 := Tryz.func58.trans (congrArg some (by kernel_rfl))
  f317 := Tryz.func70.trans (congrArg some (by kernel_rfl))
  f318 := Tryz.func71.trans (congrArg some (by kernel_rfl))
  f319 := Tryz.func72.trans (congrArg some (by kernel_rfl))
  f320 := Tryz.func73.trans (congrArg some (by kernel_rfl))
  f337 := Tryz.func80.trans (congrArg some (by kernel_rfl))
  f338 := Tryz.func81.trans (congrArg some (by kernel_rfl))
  t0 := Tryz.underlying0
  a0 := Tryz.isAgg0
  z0 := Tryz.sizeOf0
  v0 := Tryz.zeroValue0
  t2 := Tryz.underlying2
  a2 := Tryz.isAgg2
  z2 := Tryz.sizeOf2
  v2 := Tryz.zeroValue2
  t3 := Tryz.underlying3
  a3 := Tryz.isAgg3
  z3 := Tryz.sizeOf3
  v3 := Tryz.zeroValue3
  t4 := Tryz.underlying4
  a4 := Tryz.isAgg4
  z4 := Tryz.sizeOf4
  v4 := Tryz.zeroValue4
  t5 := Tryz.underlying5
  a5 := Tryz.isAgg5
  z5 := Tryz.sizeOf5
  v5 := Tryz.zeroValue5
  t9 := Tryz.underlying9
  a9 := Tryz.isAgg9
  z9 := Tryz.sizeOf9
  v9 := Tryz.zeroValue9
  t20 := Tryz.underlying20
  a20 := Tryz.isAgg20
  z20 := Tryz.sizeOf20
  v20 := Tryz.zeroValue20
  t37 := Tryz.underlying22
  a37 := Tryz.isAgg22
  z37 := Tryz.sizeOf22
  v37 := Tryz.zeroValue22
  t46 := Tryz.underlying93
  a46 := Tryz.isAgg93
  z46 := Tryz.sizeOf93
  v46 := Tryz.zeroValue93
  t51 := Tryz.underlying117
  a51 := Tryz.isAgg117
  z51 := Tryz.sizeOf117
  v51 := Tryz.zeroValue117
  t53 := Tryz.underlying104
  a53 := Tryz.isAgg104
  z53 := Tryz.sizeOf104
  v53 := Tryz.zeroValue104
  t171 := Tryz.underlying103
  a171 := Tryz.isAgg103
  z171 := Tryz.sizeOf103
  v171 := Tryz.zeroValue103
  t173 := Tryz.underlying107
  a173 := Tryz.isAgg107
  z173 := Tryz.sizeOf107
  v173 := Tryz.zeroValue107
  t212 := Tryz.underlying120
  a212 := Tryz.isAgg120
  z212 := Tryz.sizeOf120
  v212 := Tryz.zeroValue120
  t213 := Tryz.underlying121
  a213 := Tryz.isAgg121
  z213 := Tryz.sizeOf121
  t232 := Tryz.underlying132
  a232 := Tryz.isAgg132
  z232 := Tryz.sizeOf132
  v232 := Tryz.zeroValue132
  t233 := Tryz.underlying133
  a233 := Tryz.isAgg133
  z233 := Tryz.sizeOf133
  v233 := Tryz.zeroValue133
  g17 := by kernel_rfl
  g18 := by kernel_rfl
  g19 := by kernel_rfl }
open Go.RowKit Go.Sort Go.Lib in
/-- THE ROAD WITHOUT THE TABLE: 0 <= i < 100: two constants are read, nothing is laid: no premise on the world, and the world is as it was. (LAID: no walk: one application.) -/
theorem Tryz.internal_strconv_FormatInt_10_small (i : Nat) (hi : i < 100) (w : World) :
    Calls Tryz.prog 50 #[.int .i64 i, .int .i64 10] w fun e w' => e = .returned (.string ⟨(Lib.decDigits i).toArray⟩) ∧ w' = w := Any.internal_strconv_FormatInt_10_small Tryz.lays246 i hi w
def Tryz.laysM243_ren : Go.Shelf.Ren := ⟨fun | 243 => 32 | 246 => 50 | 283 => 55 | 284 => 56 | 285 => 57 | 286 => 58 | 129 => 69 | 317 => 70 | 318 => 71 | 319 => 72 | 320 => 73 | 337 => 80 | 338 => 81 | n => n, fun | 3 => 3 | 9 => 9 | 2 => 2 | 4 => 4 | 171 => 103 | 0 => 0 | 53 => 104 | 37 => 22 | 5 => 5 | 173 => 107 | 212 => 120 | 51 => 117 | 20 => 20 | 213 => 121 | 46 => 93 | 232 => 132 | 233 => 133 | n => n, fun | 17 => 0 | 18 => 1 | 19 => 2 | n => n⟩
theorem Tryz.laysM243 : Go.Proofs.LaysM.n243 Tryz.prog Tryz.laysM243_ren := {
  mixed := by kernel_rfl
  f129 := Tryz.func69.trans (congrArg some (by kernel_rfl))
  f243 := Tryz.func32.trans (congrArg some (by kernel_rfl))
  f246 := Tryz.func50.trans (congrArg some (by kernel_rfl))
  f283 := Tryz.func55.trans (congrArg some (by kernel_rfl))
  f284 := Tryz.func56.trans (congrArg some (by kernel_rfl))
  f285 := Tryz.func57.trans (congrArg some (by kernel_rfl))
  f286 := Tryz.func58.trans (congrArg some (by kernel_rfl))
  f317 := Tryz.func70.trans (congrArg some (by kernel_rfl))
  f318 := Tryz.func71.trans (congrArg some (by kernel_rfl))
  f319 := Tryz.func72.trans (congrArg some (by kernel_rfl))
  f320 := Tryz.func73.trans (congrArg some (by kernel_rfl))
  f337 := Tryz.func80.trans (congrArg some (by kernel_rfl))
  f338 := Tryz.func81.trans (congrArg some (by kernel_rfl))
  t0 := Tryz.underlying0
  a0 := Tryz.isAgg0
  z0 := Tryz.sizeOf0
  v0 := Tryz.zeroValue0
  t2 := Tryz.underlying2
  a2 := Tryz.isAgg2
  z2 := Tryz.sizeOf2
  v2 := Tryz.zeroValue2
  t3 := Tryz.underlying3
  a3 := Tryz.isAgg3
  z3 := Tryz.sizeOf3
  v3 := Tryz.zeroValue3
  t4 := Tryz.underlying4
  a4 := Tryz.isAgg4
  z4 := Tryz.sizeOf4
  v4 := Tryz.zeroValue4
  t5 := Tryz.underlying5
  a5 := Tryz.isAgg5
  z5 := Tryz.sizeOf5
  v5 := Tryz.zeroValue5
  t9 := Tryz.underlying9
  a9 := Tryz.isAgg9
  z9 := Tryz.sizeOf9
  v9 := Tryz.zeroValue9
  t20 := Tryz.underlying20
  a20 := Tryz.isAgg20
  z20 := Tryz.sizeOf20
  v20 := Tryz.zeroValue20
  t37 := Tryz.underlying22
  a37 := Tryz.isAgg22
  z37 := Tryz.sizeOf22
  v37 := Tryz.zeroValue22
  t46 := Tryz.underlying93
  a46 := Tryz.isAgg93
  z46 := Tryz.sizeOf93
  v46 := Tryz.zeroValue93
  t51 := Tryz.underlying117
  a51 := Tryz.isAgg117
  z51 := Tryz.sizeOf117
  v51 := Tryz.zeroValue117
  t53 := Tryz.underlying104
  a53 := Tryz.isAgg104
  z53 := Tryz.sizeOf104
  v53 := Tryz.zeroValue104
  t171 := Tryz.underlying103
  a171 := Tryz.isAgg103
  z171 := Tryz.sizeOf103
  v171 := Tryz.zeroValue103
  t173 := Tryz.underlying107
  a173 := Tryz.isAgg107
  z173 := Tryz.sizeOf107
  v173 := Tryz.zeroValue107
  t212 := Tryz.underlying120
  a212 := Tryz.isAgg120
  z212 := Tryz.sizeOf120
  v212 := Tryz.zeroValue120
  t213 := Tryz.underlying121
  a213 := Tryz.isAgg121
  z213 := Tryz.sizeOf121
  t232 := Tryz.underlying132
  a232 := Tryz.isAgg132
  z232 := Tryz.sizeOf132
  v232 := Tryz.zeroValue132
  t233 := Tryz.underlying133
  a233 := Tryz.isAgg133
  z233 := Tryz.sizeOf133
  v233 := Tryz.zeroValue133
  g17 := by kernel_rfl
  g18 := by kernel_rfl
  g19 := by kernel_rfl
  i0 := by kernel_rfl
  i2 := by kernel_rfl
  i3 := by kernel_rfl
  i4 := by kernel_rfl
  i5 := by kernel_rfl
  i9 := by kernel_rfl
  i20 := by kernel_rfl
  i37 := by kernel_rfl
  i46 := by kernel_rfl
  i51 := by kernel_rfl
  i53 := by kernel_rfl
  i171 := by kernel_rfl
  i173 := by kernel_rfl
  i212 := by kernel_rfl
  i232 := by kernel_rfl
  i233 := by kernel_rfl
  m17 := by kernel_rfl
  m18 := by kernel_rfl
  m19 := by kernel_rfl }
open Go.RowKit Go.Sort Go.Lib in
/-- internal/strconv.Itoa: "Itoa is equivalent to FormatInt(int64(i), 10).": i's decimal numeral, for every int. (LAID: no walk: one application.) -/
theorem Tryz.internal_strconv_Itoa (n : Int) (h0 : -9223372036854775808 ≤ n) (h1 : n ≤ 9223372036854775807) (w : World) (htab : Lib.TabIs Tryz.prog w "internal/strconv.uint64pow10" .u64 Lib.pow10Tab) :
    Calls Tryz.prog 32 #[.int .i64 n] w fun e w' => e = .returned (.string ⟨(Lib.itoa n).toArray⟩) ∧ ∃ k os, w' = grow (w.drewN k) os := Any.internal_strconv_Itoa Tryz.laysM243 n h0 h1 w htab
def Tryz.lays243_ren : Go.Shelf.Ren := ⟨fun | 243 => 32 | 246 => 50 | 283 => 55 | 284 => 56 | 285 => 57 | 286 => 58 | 129 => 69 | 317 => 70 | 318 => 71 | 319 => 72 | 320 => 73 | 337 => 80 | 338 => 81 | n => n, fun | 3 => 3 | 9 => 9 | 2 => 2 | 4 => 4 | 171 => 103 | 0 => 0 | 53 => 104 | 37 => 22 | 5 => 5 | 173 => 107 | 212 => 120 | 51 => 117 | 20 => 20 | 213 => 121 | 46 => 93 | 232 => 132 | 233 => 133 | n => n, fun | 17 => 0 | 18 => 1 | 19 => 2 | n => n⟩
theorem Tryz.lays243 : Go.Proofs.Lays.n243 Tryz.prog Tryz.lays243_ren := {
  mixed := by kernel_rfl
  f129 := Tryz.func69.trans (congrArg some (by kernel_rfl))
  f243 := Tryz.func32.trans (congrArg some (by kernel_rfl))
  f246 := Tryz.func50.trans (congrArg some (by kernel_rfl))
  f283 := Tryz.func55.trans (congrArg some (by kernel_rfl))
  f284 := Tryz.func56.trans (congrArg some (by kernel_rfl))
  f285 := Tryz.func57.trans (congrArg some (by kernel_rfl))
  f286 := Tryz.func58.trans (congrArg some (by kernel_rfl))
  f317 := Tryz.func70.trans (congrArg some (by kernel_rfl))
  f318 := Tryz.func71.trans (congrArg some (by kernel_rfl))
  f319 := Tryz.func72.trans (congrArg some (by kernel_rfl))
  f320 := Tryz.func73.trans (congrArg some (by kernel_rfl))
  f337 := Tryz.func80.trans (congrArg some (by kernel_rfl))
  f338 := Tryz.func81.trans (congrArg some (by kernel_rfl))
  t0 := Tryz.underlying0
  a0 := Tryz.isAgg0
  z0 := Tryz.sizeOf0
  v0 := Tryz.zeroValue0
  t2 := Tryz.underlying2
  a2 := Tryz.isAgg2
  z2 := Tryz.sizeOf2
  v2 := Tryz.zeroValue2
  t3 := Tryz.underlying3
  a3 := Tryz.isAgg3
  z3 := Tryz.sizeOf3
  v3 := Tryz.zeroValue3
  t4 := Tryz.underlying4
  a4 := Tryz.isAgg4
  z4 := Tryz.sizeOf4
  v4 := Tryz.zeroValue4
  t5 := Tryz.underlying5
  a5 := Tryz.isAgg5
  z5 := Tryz.sizeOf5
  v5 := Tryz.zeroValue5
  t9 := Tryz.underlying9
  a9 := Tryz.isAgg9
  z9 := Tryz.sizeOf9
  v9 := Tryz.zeroValue9
  t20 := Tryz.underlying20
  a20 := Tryz.isAgg20
  z20 := Tryz.sizeOf20
  v20 := Tryz.zeroValue20
  t37 := Tryz.underlying22
  a37 := Tryz.isAgg22
  z37 := Tryz.sizeOf22
  v37 := Tryz.zeroValue22
  t46 := Tryz.underlying93
  a46 := Tryz.isAgg93
  z46 := Tryz.sizeOf93
  v46 := Tryz.zeroValue93
  t51 := Tryz.underlying117
  a51 := Tryz.isAgg117
  z51 := Tryz.sizeOf117
  v51 := Tryz.zeroValue117
  t53 := Tryz.underlying104
  a53 := Tryz.isAgg104
  z53 := Tryz.sizeOf104
  v53 := Tryz.zeroValue104
  t171 := Tryz.underlying103
  a171 := Tryz.isAgg103
  z171 := Tryz.sizeOf103
  v171 := Tryz.zeroValue103
  t173 := Tryz.underlying107
  a173 := Tryz.isAgg107
  z173 := Tryz.sizeOf107
  v173 := Tryz.zeroValue107
  t212 := Tryz.underlying120
  a212 := Tryz.isAgg120
  z212 := Tryz.sizeOf120
  v212 := Tryz.zeroValue120
  t213 := Tryz.underlying121
  a213 := Tryz.isAgg121
  z213 := Tryz.sizeOf121
  t232 := Tryz.underlying132
  a232 := Tryz.isAgg132
  z232 := Tryz.sizeOf132
  v232 := Tryz.zeroValue132
  t233 := Tryz.underlying133
  a233 := Tryz.isAgg133
  z233 := Tryz.sizeOf133
  v233 := Tryz.zeroValue133
  g17 := by kernel_rfl
  g18 := by kernel_rfl
  g19 := by kernel_rfl }
open Go.RowKit Go.Sort Go.Lib in
/-- THE ROAD WITHOUT THE TABLE: 0 <= i < 100. (LAID: no walk: one application.) -/
theorem Tryz.internal_strconv_Itoa_small (i : Nat) (hi : i < 100) (w : World) :
    Calls Tryz.prog 32 #[.int .i64 i] w fun e w' => e = .returned (.string ⟨(Lib.decDigits i).toArray⟩) ∧ w' = w := Any.internal_strconv_Itoa_small Tryz.lays243 i hi w
def Tryz.laysM171_ren : Go.Shelf.Ren := ⟨fun | 171 => 16 | 243 => 32 | 246 => 50 | 283 => 55 | 284 => 56 | 285 => 57 | 286 => 58 | 129 => 69 | 317 => 70 | 318 => 71 | 319 => 72 | 320 => 73 | 337 => 80 | 338 => 81 | n => n, fun | 3 => 3 | 9 => 9 | 2 => 2 | 4 => 4 | 171 => 103 | 0 => 0 | 53 => 104 | 37 => 22 | 5 => 5 | 173 => 107 | 212 => 120 | 51 => 117 | 20 => 20 | 213 => 121 | 46 => 93 | 232 => 132 | 233 => 133 | n => n, fun | 17 => 0 | 18 => 1 | 19 => 2 | n => n⟩
theorem Tryz.laysM171 : Go.Proofs.LaysM.n171 Tryz.prog Tryz.laysM171_ren := {
  mixed := by kernel_rfl
  f129 := Tryz.func69.trans (congrArg some (by kernel_rfl))
  f171 := Tryz.func16.trans (congrArg some (by kernel_rfl))
  f243 := Tryz.func32.trans (congrArg some (by kernel_rfl))
  f246 := Tryz.func50.trans (congrArg some (by kernel_rfl))
  f283 := Tryz.func55.trans (congrArg some (by kernel_rfl))
  f284 := Tryz.func56.trans (congrArg some (by kernel_rfl))
  f285 := Tryz.func57.trans (congrArg some (by kernel_rfl))
  f286 := Tryz.func58.trans (congrArg some (by kernel_rfl))
  f317 := Tryz.func70.trans (congrArg some (by kernel_rfl))
  f318 := Tryz.func71.trans (congrArg some (by kernel_rfl))
  f319 := Tryz.func72.trans (congrArg some (by kernel_rfl))
  f320 := Tryz.func73.trans (congrArg some (by kernel_rfl))
  f337 := Tryz.func80.trans (congrArg some (by kernel_rfl))
  f338 := Tryz.func81.trans (congrArg some (by kernel_rfl))
  t0 := Tryz.underlying0
  a0 := Tryz.isAgg0
  z0 := Tryz.sizeOf0
  v0 := Tryz.zeroValue0
  t2 := Tryz.underlying2
  a2 := Tryz.isAgg2
  z2 := Tryz.sizeOf2
  v2 := Tryz.zeroValue2
  t3 := Tryz.underlying3
  a3 := Tryz.isAgg3
  z3 := Tryz.sizeOf3
  v3 := Tryz.zeroValue3
  t4 := Tryz.underlying4
  a4 := Tryz.isAgg4
  z4 := Tryz.sizeOf4
  v4 := Tryz.zeroValue4
  t5 := Tryz.underlying5
  a5 := Tryz.isAgg5
  z5 := Tryz.sizeOf5
  v5 := Tryz.zeroValue5
  t9 := Tryz.underlying9
  a9 := Tryz.isAgg9
  z9 := Tryz.sizeOf9
  v9 := Tryz.zeroValue9
  t20 := Tryz.underlying20
  a20 := Tryz.isAgg20
  z20 := Tryz.sizeOf20
  v20 := Tryz.zeroValue20
  t37 := Tryz.underlying22
  a37 := Tryz.isAgg22
  z37 := Tryz.sizeOf22
  v37 := Tryz.zeroValue22
  t46 := Tryz.underlying93
  a46 := Tryz.isAgg93
  z46 := Tryz.sizeOf93
  v46 := Tryz.zeroValue93
  t51 := Tryz.underlying117
  a51 := Tryz.isAgg117
  z51 := Tryz.sizeOf117
  v51 := Tryz.zeroValue117
  t53 := Tryz.underlying104
  a53 := Tryz.isAgg104
  z53 := Tryz.sizeOf104
  v53 := Tryz.zeroValue104
  t171 := Tryz.underlying103
  a171 := Tryz.isAgg103
  z171 := Tryz.sizeOf103
  v171 := Tryz.zeroValue103
  t173 := Tryz.underlying107
  a173 := Tryz.isAgg107
  z173 := Tryz.sizeOf107
  v173 := Tryz.zeroValue107
  t212 := Tryz.underlying120
  a212 := Tryz.isAgg120
  z212 := Tryz.sizeOf120
  v212 := Tryz.zeroValue120
  t213 := Tryz.underlying121
  a213 := Tryz.isAgg121
  z213 := Tryz.sizeOf121
  t232 := Tryz.underlying132
  a232 := Tryz.isAgg132
  z232 := Tryz.sizeOf132
  v232 := Tryz.zeroValue132
  t233 := Tryz.underlying133
  a233 := Tryz.isAgg133
  z233 := Tryz.sizeOf133
  v233 := Tryz.zeroValue133
  g17 := by kernel_rfl
  g18 := by kernel_rfl
  g19 := by kernel_rfl
  i0 := by kernel_rfl
  i2 := by kernel_rfl
  i3 := by kernel_rfl
  i4 := by kernel_rfl
  i5 := by kernel_rfl
  i9 := by kernel_rfl
  i20 := by kernel_rfl
  i37 := by kernel_rfl
  i46 := by kernel_rfl
  i51 := by kernel_rfl
  i53 := by kernel_rfl
  i171 := by kernel_rfl
  i173 := by kernel_rfl
  i212 := by kernel_rfl
  i232 := by kernel_rfl
  i233 := by kernel_rfl
  m17 := by kernel_rfl
  m18 := by kernel_rfl
  m19 := by kernel_rfl }
open Go.RowKit Go.Sort Go.Lib in
/-- strconv.Itoa: "Itoa is equivalent to FormatInt(int64(i), 10).": i's DECIMAL NUMERAL ('Lib.itoa': a '-' where i is negative, then the digits), FOR EVERY int. The world behind the call: the world before it, new blocks behind the heap (the library's 'var a [24]byte'), draws. (LAID: no walk: one application.) -/
theorem Tryz.strconv_Itoa (n : Int) (h0 : -9223372036854775808 ≤ n) (h1 : n ≤ 9223372036854775807) (w : World) (htab : Lib.TabIs Tryz.prog w "internal/strconv.uint64pow10" .u64 Lib.pow10Tab) :
    Calls Tryz.prog 16 #[.int .i64 n] w fun e w' => e = .returned (.string ⟨(Lib.itoa n).toArray⟩) ∧ ∃ k os, w' = grow (w.drewN k) os := Any.strconv_Itoa Tryz.laysM171 n h0 h1 w htab
def Tryz.lays171_ren : Go.Shelf.Ren := ⟨fun | 171 => 16 | 243 => 32 | 246 => 50 | 283 => 55 | 284 => 56 | 285 => 57 | 286 => 58 | 129 => 69 | 317 => 70 | 318 => 71 | 319 => 72 | 320 => 73 | 337 => 80 | 338 => 81 | n => n, fun | 3 => 3 | 9 => 9 | 2 => 2 | 4 => 4 | 171 => 103 | 0 => 0 | 53 => 104 | 37 => 22 | 5 => 5 | 173 => 107 | 212 => 120 | 51 => 117 | 20 => 20 | 213 => 121 | 46 => 93 | 232 => 132 | 233 => 133 | n => n, fun | 17 => 0 | 18 => 1 | 19 => 2 | n => n⟩
theorem Tryz.lays171 : Go.Proofs.Lays.n171 Tryz.prog Tryz.lays171_ren := {
  mixed := by kernel_rfl
  f129 := Tryz.func69.trans (congrArg some (by kernel_rfl))
  f171 := Tryz.func16.trans (congrArg some (by kernel_rfl))
  f243 := Tryz.func32.trans (congrArg some (by kernel_rfl))
  f246 := Tryz.func50.trans (congrArg some (by kernel_rfl))
  f283 := Tryz.func55.trans (congrArg some (by kernel_rfl))
  f284 := Tryz.func56.trans (congrArg some (by kernel_rfl))
  f285 := Tryz.func57.trans (congrArg some (by kernel_rfl))
  f286 := Tryz.func58.trans (congrArg some (by kernel_rfl))
  f317 := Tryz.func70.trans (congrArg some (by kernel_rfl))
  f318 := Tryz.func71.trans (congrArg some (by kernel_rfl))
  f319 := Tryz.func72.trans (congrArg some (by kernel_rfl))
  f320 := Tryz.func73.trans (congrArg some (by kernel_rfl))
  f337 := Tryz.func80.trans (congrArg some (by kernel_rfl))
  f338 := Tryz.func81.trans (congrArg some (by kernel_rfl))
  t0 := Tryz.underlying0
  a0 := Tryz.isAgg0
  z0 := Tryz.sizeOf0
  v0 := Tryz.zeroValue0
  t2 := Tryz.underlying2
  a2 := Tryz.isAgg2
  z2 := Tryz.sizeOf2
  v2 := Tryz.zeroValue2
  t3 := Tryz.underlying3
  a3 := Tryz.isAgg3
  z3 := Tryz.sizeOf3
  v3 := Tryz.zeroValue3
  t4 := Tryz.underlying4
  a4 := Tryz.isAgg4
  z4 := Tryz.sizeOf4
  v4 := Tryz.zeroValue4
  t5 := Tryz.underlying5
  a5 := Tryz.isAgg5
  z5 := Tryz.sizeOf5
  v5 := Tryz.zeroValue5
  t9 := Tryz.underlying9
  a9 := Tryz.isAgg9
  z9 := Tryz.sizeOf9
  v9 := Tryz.zeroValue9
  t20 := Tryz.underlying20
  a20 := Tryz.isAgg20
  z20 := Tryz.sizeOf20
  v20 := Tryz.zeroValue20
  t37 := Tryz.underlying22
  a37 := Tryz.isAgg22
  z37 := Tryz.sizeOf22
  v37 := Tryz.zeroValue22
  t46 := Tryz.underlying93
  a46 := Tryz.isAgg93
  z46 := Tryz.sizeOf93
  v46 := Tryz.zeroValue93
  t51 := Tryz.underlying117
  a51 := Tryz.isAgg117
  z51 := Tryz.sizeOf117
  v51 := Tryz.zeroValue117
  t53 := Tryz.underlying104
  a53 := Tryz.isAgg104
  z53 := Tryz.sizeOf104
  v53 := Tryz.zeroValue104
  t171 := Tryz.underlying103
  a171 := Tryz.isAgg103
  z171 := Tryz.sizeOf103
  v171 := Tryz.zeroValue103
  t173 := Tryz.underlying107
  a173 := Tryz.isAgg107
  z173 := Tryz.sizeOf107
  v173 := Tryz.zeroValue107
  t212 := Tryz.underlying120
  a212 := Tryz.isAgg120
  z212 := Tryz.sizeOf120
  v212 := Tryz.zeroValue120
  t213 := Tryz.underlying121
  a213 := Tryz.isAgg121
  z213 := Tryz.sizeOf121
  t232 := Tryz.underlying132
  a232 := Tryz.isAgg132
  z232 := Tryz.sizeOf132
  v232 := Tryz.zeroValue132
  t233 := Tryz.underlying133
  a233 := Tryz.isAgg133
  z233 := Tryz.sizeOf133
  v233 := Tryz.zeroValue133
  g17 := by kernel_rfl
  g18 := by kernel_rfl
  g19 := by kernel_rfl }
open Go.RowKit Go.Sort Go.Lib in
/-- THE ROAD WITHOUT THE TABLE: 0 <= i < 100: NO PREMISE ON THE WORLD, AND THE WORLD IS AS IT WAS: a row that keeps its argument in that range need list no table ('laid = []'). (LAID: no walk: one application.) -/
theorem Tryz.strconv_Itoa_small (i : Nat) (hi : i < 100) (w : World) :
    Calls Tryz.prog 16 #[.int .i64 i] w fun e w' => e = .returned (.string ⟨(Lib.decDigits i).toArray⟩) ∧ w' = w := Any.strconv_Itoa_small Tryz.lays171 i hi w
def Tryz.lays206_ren : Go.Shelf.Ren := ⟨fun | 206 => 36 | n => n, fun | 9 => 9 | 4 => 4 | 3 => 3 | n => n, fun | n => n⟩
theorem Tryz.lays206 : Go.Proofs.Lays.n206 Tryz.prog Tryz.lays206_ren := {
  mixed := by kernel_rfl
  f206 := Tryz.func36.trans (congrArg some (by kernel_rfl))
  t3 := Tryz.underlying3
  a3 := Tryz.isAgg3
  z3 := Tryz.sizeOf3
  v3 := Tryz.zeroValue3
  t4 := Tryz.underlying4
  a4 := Tryz.isAgg4
  z4 := Tryz.sizeOf4
  v4 := Tryz.zeroValue4
  t9 := Tryz.underlying9
  a9 := Tryz.isAgg9
  z9 := Tryz.sizeOf9
  v9 := Tryz.zeroValue9 }
open Go.RowKit Go.Lib in
/-- internal/stringslite.HasPrefix (what strings.HasPrefix calls). (LAID: no walk: one application.) -/
theorem Tryz.stringslite_HasPrefix (s p : ByteArray) (w : World) :
    Calls Tryz.prog 36 #[.string s, .string p] w fun e w' => e = .returned (.bool (Lib.hasPrefix s.data.toList p.data.toList)) ∧ w' = w := Any.stringslite_HasPrefix Tryz.lays206 s p w
def Tryz.lays99_ren : Go.Shelf.Ren := ⟨fun | 99 => 19 | 206 => 36 | n => n, fun | 9 => 9 | 4 => 4 | 3 => 3 | n => n, fun | n => n⟩
theorem Tryz.lays99 : Go.Proofs.Lays.n99 Tryz.prog Tryz.lays99_ren := {
  mixed := by kernel_rfl
  f99 := Tryz.func19.trans (congrArg some (by kernel_rfl))
  f206 := Tryz.func36.trans (congrArg some (by kernel_rfl))
  t3 := Tryz.underlying3
  a3 := Tryz.isAgg3
  z3 := Tryz.sizeOf3
  v3 := Tryz.zeroValue3
  t4 := Tryz.underlying4
  a4 := Tryz.isAgg4
  z4 := Tryz.sizeOf4
  v4 := Tryz.zeroValue4
  t9 := Tryz.underlying9
  a9 := Tryz.isAgg9
  z9 := Tryz.sizeOf9
  v9 := Tryz.zeroValue9 }
open Go.RowKit Go.Lib in
/-- strings.HasPrefix: "HasPrefix reports whether the string s begins with prefix.": IT RETURNS 'Lib.hasPrefix s prefix'; the world is as it was. (LAID: no walk: one application.) -/
theorem Tryz.strings_HasPrefix (s p : ByteArray) (w : World) :
    Calls Tryz.prog 19 #[.string s, .string p] w fun e w' => e = .returned (.bool (Lib.hasPrefix s.data.toList p.data.toList)) ∧ w' = w := Any.strings_HasPrefix Tryz.lays99 s p w
def Tryz.lays193_ren : Go.Shelf.Ren := ⟨fun | 193 => 8 | n => n, fun | 31 => 24 | 9 => 9 | 4 => 4 | 3 => 3 | 0 => 0 | n => n, fun | n => n⟩
theorem Tryz.lays193 : Go.Proofs.Lays.n193 Tryz.prog Tryz.lays193_ren := {
  mixed := by kernel_rfl
  f193 := Tryz.func8.trans (congrArg some (by kernel_rfl))
  t0 := Tryz.underlying0
  a0 := Tryz.isAgg0
  z0 := Tryz.sizeOf0
  v0 := Tryz.zeroValue0
  t3 := Tryz.underlying3
  a3 := Tryz.isAgg3
  z3 := Tryz.sizeOf3
  v3 := Tryz.zeroValue3
  t4 := Tryz.underlying4
  a4 := Tryz.isAgg4
  z4 := Tryz.sizeOf4
  v4 := Tryz.zeroValue4
  t9 := Tryz.underlying9
  a9 := Tryz.isAgg9
  z9 := Tryz.sizeOf9
  v9 := Tryz.zeroValue9
  t31 := Tryz.underlying24
  a31 := Tryz.isAgg24
  z31 := Tryz.sizeOf24
  v31 := Tryz.zeroValue24 }
open Go.RowKit Go.Lib in
/-- slices.Equal at []string: "Equal reports whether two slices are equal: the same length and all elements equal. If the lengths are different, Equal returns false. Otherwise, the elements are compared in increasing index order, and the comparison stops at the first unequal pair. Empty and nil slices are considered equal.": IT RETURNS WHETHER THE TWO LISTS OF ELEMENTS ARE ONE; the world is as it was but for the count of draws (the test 's1[i] != s2[i]' has two reads, whose order the model draws, once a round). 'xs', 'ys': what the cells behind the two addresses hold (the spare capacity too, if you have it); 'xs.take n', 'ys.take m': the elements. THE TWO SLICES MAY OVERLAP. (LAID: no walk: one application.) -/
theorem Tryz.slices_Equal_string (b1 o1 n c b2 o2 m d : Nat) (xs ys : List ByteArray) (w : World) (hx : n ≤ xs.length) (hy : m ≤ ys.length) (hbig : n ≤ 9223372036854775807) (hbig2 : m ≤ 9223372036854775807) (hc1 : ∀ j, j < xs.length → w.cell? ⟨b1, o1 + j, none⟩ = some (.string (xs.getD j ByteArray.empty))) (hc2 : ∀ j, j < ys.length → w.cell? ⟨b2, o2 + j, none⟩ = some (.string (ys.getD j ByteArray.empty))) :
    Calls Tryz.prog 8 #[.slice (some ⟨b1, o1, none⟩) n c, .slice (some ⟨b2, o2, none⟩) m d] w fun e w' => e = .returned (.bool (decide (xs.take n = ys.take m))) ∧ ∃ q, w' = w.drewN q := Any.slices_Equal_string Tryz.lays193 b1 o1 n c b2 o2 m d xs ys w hx hy hbig hbig2 hc1 hc2
open Go.RowKit Go.Lib in
/-- The same where the first is of length 0 (a nil one too): no cell is asked for. (LAID: no walk: one application.) -/
theorem Tryz.slices_Equal_string_empty (a1 a2 : Option Addr) (c m d : Nat) (w : World) (hbig2 : m ≤ 9223372036854775807) :
    Calls Tryz.prog 8 #[.slice a1 0 c, .slice a2 m d] w fun e w' => e = .returned (.bool (decide (m = 0))) ∧ w' = w := Any.slices_Equal_string_empty Tryz.lays193 a1 a2 c m d w hbig2
open Go.RowKit Go.Lib in
theorem Tryz.slices_Equal_string_lens (a1 a2 : Option Addr) (n c m d : Nat) (w : World) (hnm : n ≠ m) :
    Calls Tryz.prog 8 #[.slice a1 n c, .slice a2 m d] w fun e w' => e = .returned (.bool false) ∧ w' = w := Any.slices_Equal_string_lens Tryz.lays193 a1 a2 n c m d w hnm
def Tryz.laysSlM6_f34_ren : Go.Shelf.Ren := ⟨fun | 6 => 34 | 8 => 53 | 9 => 52 | 19 => 68 | 20 => 69 | 21 => 59 | 22 => 60 | 23 => 61 | 24 => 62 | 25 => 63 | 26 => 64 | 27 => 65 | 28 => 66 | 29 => 67 | 36 => 74 | 31 => 75 | 32 => 76 | 37 => 77 | 38 => 78 | 39 => 79 | 41 => 82 | n => n, fun | 27 => 24 | 29 => 9 | 3 => 3 | 32 => 93 | 26 => 24 | 0 => 0 | 44 => 117 | 46 => 104 | 4 => 4 | 36 => 111 | 35 => 110 | 41 => 44 | 5 => 5 | 9 => 9 | 53 => 123 | 57 => 127 | 63 => 129 | 64 => 130 | n => n, fun | n => n⟩
theorem Tryz.laysSlM6_f34 : Go.Proofs.SlLaysM.n6 Tryz.prog Tryz.laysSlM6_f34_ren := {
  mixed := by kernel_rfl
  f6 := ⟨Tryz.f34.name, by decide, Tryz.func34.trans (congrArg some (by kernel_rfl))⟩
  f8 := Tryz.func53.trans (congrArg some (by kernel_rfl))
  f9 := ⟨Tryz.f52.name, by decide, Tryz.func52.trans (congrArg some (by kernel_rfl))⟩
  f19 := Tryz.func68.trans (congrArg some (by kernel_rfl))
  f20 := Tryz.func69.trans (congrArg some (by kernel_rfl))
  f21 := ⟨Tryz.f59.name, by decide, Tryz.func59.trans (congrArg some (by kernel_rfl))⟩
  f22 := ⟨Tryz.f60.name, by decide, Tryz.func60.trans (congrArg some (by kernel_rfl))⟩
  f23 := ⟨Tryz.f61.name, by decide, Tryz.func61.trans (congrArg some (by kernel_rfl))⟩
  f24 := ⟨Tryz.f62.name, by decide, Tryz.func62.trans (congrArg some (by kernel_rfl))⟩
  f25 := ⟨Tryz.f63.name, by decide, Tryz.func63.trans (congrArg some (by kernel_rfl))⟩
  f26 := ⟨Tryz.f64.name, by decide, Tryz.func64.trans (congrArg some (by kernel_rfl))⟩
  f27 := ⟨Tryz.f65.name, by decide, Tryz.func65.trans (congrArg some (by kernel_rfl))⟩
  f28 := ⟨Tryz.f66.name, by decide, Tryz.func66.trans (congrArg some (by kernel_rfl))⟩
  f29 := ⟨Tryz.f67.name, by decide, Tryz.func67.trans (congrArg some (by kernel_rfl))⟩
  f31 := Tryz.func75.trans (congrArg some (by kernel_rfl))
  f32 := Tryz.func76.trans (congrArg some (by kernel_rfl))
  f36 := ⟨Tryz.f74.name, by decide, Tryz.func74.trans (congrArg some (by kernel_rfl))⟩
  f37 := ⟨Tryz.f77.name, by decide, Tryz.func77.trans (congrArg some (by kernel_rfl))⟩
  f38 := ⟨Tryz.f78.name, by decide, Tryz.func78.trans (congrArg some (by kernel_rfl))⟩
  f39 := ⟨Tryz.f79.name, by decide, Tryz.func79.trans (congrArg some (by kernel_rfl))⟩
  f41 := ⟨Tryz.f82.name, by decide, Tryz.func82.trans (congrArg some (by kernel_rfl))⟩
  t0 := Tryz.underlying0
  a0 := Tryz.isAgg0
  z0 := Tryz.sizeOf0
  v0 := Tryz.zeroValue0
  t3 := Tryz.underlying3
  a3 := Tryz.isAgg3
  z3 := Tryz.sizeOf3
  v3 := Tryz.zeroValue3
  t4 := Tryz.underlying4
  a4 := Tryz.isAgg4
  z4 := Tryz.sizeOf4
  v4 := Tryz.zeroValue4
  t5 := Tryz.underlying5
  a5 := Tryz.isAgg5
  z5 := Tryz.sizeOf5
  v5 := Tryz.zeroValue5
  t9 := Tryz.underlying9
  a9 := Tryz.isAgg9
  z9 := Tryz.sizeOf9
  v9 := Tryz.zeroValue9
  t26 := Tryz.underlying24
  a26 := Tryz.isAgg24
  z26 := Tryz.sizeOf24
  v26 := Tryz.zeroValue24
  t27 := Tryz.underlying24
  a27 := Tryz.isAgg24
  z27 := Tryz.sizeOf24
  v27 := Tryz.zeroValue24
  t29 := Tryz.underlying9
  a29 := Tryz.isAgg9
  z29 := Tryz.sizeOf9
  v29 := Tryz.zeroValue9
  t32 := Tryz.underlying93
  a32 := Tryz.isAgg93
  z32 := Tryz.sizeOf93
  v32 := Tryz.zeroValue93
  t35 := Tryz.underlying110
  a35 := Tryz.isAgg110
  z35 := Tryz.sizeOf110
  v35 := Tryz.zeroValue110
  t36 := Tryz.underlying111
  a36 := Tryz.isAgg111
  z36 := Tryz.sizeOf111
  v36 := Tryz.zeroValue111
  t41 := Tryz.underlying44
  a41 := Tryz.isAgg44
  z41 := Tryz.sizeOf44
  v41 := Tryz.zeroValue44
  t44 := Tryz.underlying117
  a44 := Tryz.isAgg117
  z44 := Tryz.sizeOf117
  v44 := Tryz.zeroValue117
  t46 := Tryz.underlying104
  a46 := Tryz.isAgg104
  z46 := Tryz.sizeOf104
  v46 := Tryz.zeroValue104
  t53 := Tryz.underlying123
  a53 := Tryz.isAgg123
  z53 := Tryz.sizeOf123
  v53 := Tryz.zeroValue123
  t57 := Tryz.underlying127
  a57 := Tryz.isAgg127
  z57 := Tryz.sizeOf127
  v57 := Tryz.zeroValue127
  t63 := Tryz.underlying129
  a63 := Tryz.isAgg129
  z63 := Tryz.sizeOf129
  v63 := Tryz.zeroValue129
  t64 := Tryz.underlying130
  a64 := Tryz.isAgg130
  z64 := Tryz.sizeOf130
  v64 := Tryz.zeroValue130 }
open Go.Sort Go.RowKit in
theorem Tryz.slices_Sort_string (blk off cap : Nat) (ss : List (List UInt8)) (w : World) (hH : Holds encStr w blk off ss.toArray) (hblk : blk < w.heap.size) (hsz : ss.length < 4611686018427387904) :
    Calls Tryz.prog 34 #[.slice (some ⟨blk, off, none⟩) ss.length cap] w fun e w' =>
      e = .returned (.tuple #[]) ∧ ∃ n os, w' = grow (putRow encStr (Sort.ahead w n) blk off (ss.mergeSort fun x y => decide (x ≤ y)).toArray) os := AnyM.slices_Sort_string Tryz.laysSlM6_f34 blk off cap ss w hH hblk hsz
open Go.RowKit Go.Sort in
/-- .. and plain. (LAID AT THE INSTANCE 'slices.Sort[[]string,string]': no walk: one application.) -/
theorem Tryz.slices_Sort_string_none (p : Option Addr) (cap : Nat) (w : World) :
    Calls Tryz.prog 34 #[.slice p 0 cap] w fun e w' => e = .returned (.tuple #[]) ∧ w' = w := AnyM.slices_Sort_string_none Tryz.laysSlM6_f34 p cap w
end Go.Proofs
