/-
  DERIVED: THE SHELF's CONTRACTS AT THIS DUMP, IN PLAIN WORDS (tools/lay-plain.mjs out of 'TryzShelf.lean', which tools/lay-shelf.mjs wrote): THE SAME DECLARATIONS UNDER THE SAME NAMES: 'import', 'namespace', 'open', 'def', 'theorem' AND NOTHING ELSE: no command of the shelf's: FOR A HAND-IN. Each laying: the table of numbers ('.._ren') and one theorem, a field a fact of the dump's own or the kernel's comparison; each contract: ONE APPLICATION.
-/
import Derived.Shelf.Small.Bits
import Derived.Shelf.Strconv.Itoa0
import Derived.Shelf.Strconv.Itoa1
import Derived.Shelf.LaysM
import Derived.Shelf.Strconv.Itoa2
import Derived.Shelf.Strconv.Itoa3
import Derived.Shelf.Sort.Plain
import Derived.Shelf.Strings.Fold
import Derived.Shelf.Unicode.Decode
import Derived.Shelf.Bits.Mul64
import Derived.Shelf.Unicode.DecodeSlow
import Derived.Shelf.Unicode.DecodeAny
import Derived.Shelf.Unicode.CaseLookup
import Derived.Shelf.Unicode.CaseConvert
import Derived.Ground.Names2Prog
import Derived.Shelf.Slices.Clone
import Derived.Shelf.Slices.CompactS
import Derived.Shelf.Slices.Cells
import Derived.Shelf.Slices.In.SortNone
import Derived.Ground.SlgnProg
import Derived.Shelf.SlicesE.Clone
import Derived.Test.YtedhdkadpibaeaaGreatDoorProg
namespace Go.Proofs
open Go.Shelf
def Tryz.lays128_ren : Go.Shelf.Ren := ⟨fun | 128 => 61 | n => n, fun | 51 => 68 | 3 => 3 | 4 => 4 | 46 => 66 | 5 => 5 | 9 => 9 | n => n, fun | n => n⟩
theorem Tryz.lays128 : Go.Proofs.Lays.n128 Tryz.prog Tryz.lays128_ren := {
  mixed := by kernel_rfl
  f128 := Tryz.func61.trans (congrArg some (by kernel_rfl))
  t3 := Tryz.underlying3
  a3 := Tryz.isAgg3
  z3 := Tryz.sizeOf3
  v3 := Tryz.zeroValue3
  t4 := Tryz.underlying4
  a4 := Tryz.isAgg4
  z4 := Tryz.sizeOf4
  v4 := Tryz.zeroValue4
  t5 := Tryz.underlying5
  a5 := Tryz.isAgg5
  z5 := Tryz.sizeOf5
  v5 := Tryz.zeroValue5
  t9 := Tryz.underlying9
  a9 := Tryz.isAgg9
  z9 := Tryz.sizeOf9
  v9 := Tryz.zeroValue9
  t46 := Tryz.underlying66
  a46 := Tryz.isAgg66
  z46 := Tryz.sizeOf66
  v46 := Tryz.zeroValue66
  t51 := Tryz.underlying68
  a51 := Tryz.isAgg68
  z51 := Tryz.sizeOf68
  v51 := Tryz.zeroValue68 }
/-- bits.Len32: "Len32 returns the minimum number of bits required to represent x; the result is 0 for x == 0.": IT RETURNS 'Lib.bitLen x'; the world is as it was. ('h0', 'h1': x is a uint32.) (LAID: no walk: one application.) -/
theorem Tryz.bits_Len32 (x : Int) (w : World) (h0 : 0 ≤ x) (h1 : x ≤ 4294967295) :
    Calls Tryz.prog 61 #[.int .u32 x] w fun e w' => e = .returned (.int .i64 (Lib.bitLen x.toNat)) ∧ w' = w := Any.bits_Len32 Tryz.lays128 x w h0 h1
def Tryz.lays125_ren : Go.Shelf.Ren := ⟨fun | 125 => 44 | 128 => 61 | 129 => 62 | n => n, fun | 46 => 66 | 3 => 3 | 51 => 68 | 53 => 56 | 4 => 4 | 5 => 5 | 9 => 9 | n => n, fun | n => n⟩
theorem Tryz.lays125 : Go.Proofs.Lays.n125 Tryz.prog Tryz.lays125_ren := {
  mixed := by kernel_rfl
  f125 := Tryz.func44.trans (congrArg some (by kernel_rfl))
  f128 := Tryz.func61.trans (congrArg some (by kernel_rfl))
  f129 := Tryz.func62.trans (congrArg some (by kernel_rfl))
  t3 := Tryz.underlying3
  a3 := Tryz.isAgg3
  z3 := Tryz.sizeOf3
  v3 := Tryz.zeroValue3
  t4 := Tryz.underlying4
  a4 := Tryz.isAgg4
  z4 := Tryz.sizeOf4
  v4 := Tryz.zeroValue4
  t5 := Tryz.underlying5
  a5 := Tryz.isAgg5
  z5 := Tryz.sizeOf5
  v5 := Tryz.zeroValue5
  t9 := Tryz.underlying9
  a9 := Tryz.isAgg9
  z9 := Tryz.sizeOf9
  v9 := Tryz.zeroValue9
  t46 := Tryz.underlying66
  a46 := Tryz.isAgg66
  z46 := Tryz.sizeOf66
  v46 := Tryz.zeroValue66
  t51 := Tryz.underlying68
  a51 := Tryz.isAgg68
  z51 := Tryz.sizeOf68
  v51 := Tryz.zeroValue68
  t53 := Tryz.underlying56
  a53 := Tryz.isAgg56
  z53 := Tryz.sizeOf56
  v53 := Tryz.zeroValue56 }
/-- bits.Len: "Len returns the minimum number of bits required to represent x; the result is 0 for x == 0.": IT RETURNS 'Lib.bitLen x'; the world is as it was. (A uint has 64 bits in the model.) ITS CALLEE bits.Len64 IS MET BY ITS OWN CONTRACT OFF THE SHELF (lay that first). (LAID: no walk: one application.) -/
theorem Tryz.bits_Len (x : Int) (w : World) (h0 : 0 ≤ x) (h1 : x ≤ 18446744073709551615) :
    Calls Tryz.prog 44 #[.int .u64 x] w fun e w' => e = .returned (.int .i64 (Lib.bitLen x.toNat)) ∧ w' = w := Any.bits_Len Tryz.lays125 x w h0 h1
def Tryz.lays129_ren : Go.Shelf.Ren := ⟨fun | 129 => 62 | n => n, fun | 53 => 56 | 3 => 3 | 4 => 4 | 46 => 66 | 5 => 5 | 9 => 9 | n => n, fun | n => n⟩
theorem Tryz.lays129 : Go.Proofs.Lays.n129 Tryz.prog Tryz.lays129_ren := {
  mixed := by kernel_rfl
  f129 := Tryz.func62.trans (congrArg some (by kernel_rfl))
  t3 := Tryz.underlying3
  a3 := Tryz.isAgg3
  z3 := Tryz.sizeOf3
  v3 := Tryz.zeroValue3
  t4 := Tryz.underlying4
  a4 := Tryz.isAgg4
  z4 := Tryz.sizeOf4
  v4 := Tryz.zeroValue4
  t5 := Tryz.underlying5
  a5 := Tryz.isAgg5
  z5 := Tryz.sizeOf5
  v5 := Tryz.zeroValue5
  t9 := Tryz.underlying9
  a9 := Tryz.isAgg9
  z9 := Tryz.sizeOf9
  v9 := Tryz.zeroValue9
  t46 := Tryz.underlying66
  a46 := Tryz.isAgg66
  z46 := Tryz.sizeOf66
  v46 := Tryz.zeroValue66
  t53 := Tryz.underlying56
  a53 := Tryz.isAgg56
  z53 := Tryz.sizeOf56
  v53 := Tryz.zeroValue56 }
/-- bits.Len64: "Len64 returns the minimum number of bits required to represent x; the result is 0 for x == 0.": IT RETURNS 'Lib.bitLen x'; the world is as it was. ('h0', 'h1': x is a uint64.) (LAID: no walk: one application.) -/
theorem Tryz.bits_Len64 (x : Int) (w : World) (h0 : 0 ≤ x) (h1 : x ≤ 18446744073709551615) :
    Calls Tryz.prog 62 #[.int .u64 x] w fun e w' => e = .returned (.int .i64 (Lib.bitLen x.toNat)) ∧ w' = w := Any.bits_Len64 Tryz.lays129 x w h0 h1
def Tryz.lays317_ren : Go.Shelf.Ren := ⟨fun | 317 => 119 | n => n, fun | 3 => 3 | 46 => 66 | n => n, fun | n => n⟩
theorem Tryz.lays317 : Go.Proofs.Lays.n317 Tryz.prog Tryz.lays317_ren := {
  mixed := by kernel_rfl
  f317 := Tryz.func119.trans (congrArg some (by kernel_rfl))
  t3 := Tryz.underlying3
  a3 := Tryz.isAgg3
  z3 := Tryz.sizeOf3
  v3 := Tryz.zeroValue3
  t46 := Tryz.underlying66
  a46 := Tryz.isAgg66
  z46 := Tryz.sizeOf66
  v46 := Tryz.zeroValue66 }
open Go.Lib in
/-- internal/strconv.log10Pow2: "log10Pow2(x) returns ⌊log₁₀ 2**x⌋ = ⌊x * log₁₀ 2⌋.": '(x * 78913) >> 18', at an x up to 64 (a length in bits). The world is as it was. (LAID: no walk: one application.) -/
theorem Tryz.internal_strconv_log10Pow2 (x : Nat) (h : x ≤ 64) (w : World) :
    Calls Tryz.prog 119 #[.int .i64 x] w fun e w' => e = .returned (.int .i64 (Lib.l10 x)) ∧ w' = w := Any.internal_strconv_log10Pow2 Tryz.lays317 x h w
def Tryz.lays318_ren : Go.Shelf.Ren := ⟨fun | 318 => 104 | n => n, fun | 3 => 3 | 4 => 4 | n => n, fun | n => n⟩
theorem Tryz.lays318 : Go.Proofs.Lays.n318 Tryz.prog Tryz.lays318_ren := {
  mixed := by kernel_rfl
  f318 := Tryz.func104.trans (congrArg some (by kernel_rfl))
  t3 := Tryz.underlying3
  a3 := Tryz.isAgg3
  z3 := Tryz.sizeOf3
  v3 := Tryz.zeroValue3
  t4 := Tryz.underlying4
  a4 := Tryz.isAgg4
  z4 := Tryz.sizeOf4
  v4 := Tryz.zeroValue4 }
open Go.Lib in
/-- internal/strconv.bool2: "bool2 converts b to an integer: 1 for true, 0 for false." The world is as it was. (LAID: no walk: one application.) -/
theorem Tryz.internal_strconv_bool2_int (b : Bool) (w : World) :
    Calls Tryz.prog 104 #[.bool b] w fun e w' => e = .returned (.int .i64 (if b then 1 else 0)) ∧ w' = w := Any.internal_strconv_bool2_int Tryz.lays318 b w
def Tryz.lays283_ren : Go.Shelf.Ren := ⟨fun | 283 => 111 | n => n, fun | 3 => 3 | 9 => 9 | 4 => 4 | n => n, fun | n => n⟩
theorem Tryz.lays283 : Go.Proofs.Lays.n283 Tryz.prog Tryz.lays283_ren := {
  mixed := by kernel_rfl
  f283 := Tryz.func111.trans (congrArg some (by kernel_rfl))
  t3 := Tryz.underlying3
  a3 := Tryz.isAgg3
  z3 := Tryz.sizeOf3
  v3 := Tryz.zeroValue3
  t4 := Tryz.underlying4
  a4 := Tryz.isAgg4
  z4 := Tryz.sizeOf4
  v4 := Tryz.zeroValue4
  t9 := Tryz.underlying9
  a9 := Tryz.isAgg9
  z9 := Tryz.sizeOf9
  v9 := Tryz.zeroValue9 }
open Go.Lib in
/-- internal/strconv.small: "small returns the string for an i with 0 <= i < nSmalls.": i's decimal numeral. The world is as it was. (LAID: no walk: one application.) -/
theorem Tryz.internal_strconv_small (i : Nat) (h : i < 100) (w : World) :
    Calls Tryz.prog 111 #[.int .i64 i] w fun e w' => e = .returned (.string ⟨(Lib.decDigits i).toArray⟩) ∧ w' = w := Any.internal_strconv_small Tryz.lays283 i h w
def Tryz.laysM284_ren : Go.Shelf.Ren := ⟨fun | 284 => 112 | 129 => 62 | 317 => 119 | 318 => 104 | n => n, fun | 53 => 56 | 3 => 3 | 212 => 192 | 0 => 0 | 4 => 4 | 46 => 66 | 5 => 5 | 9 => 9 | n => n, fun | 17 => 15 | n => n⟩
theorem Tryz.laysM284 : Go.Proofs.LaysM.n284 Tryz.prog Tryz.laysM284_ren := {
  mixed := by kernel_rfl
  f129 := Tryz.func62.trans (congrArg some (by kernel_rfl))
  f284 := Tryz.func112.trans (congrArg some (by kernel_rfl))
  f317 := Tryz.func119.trans (congrArg some (by kernel_rfl))
  f318 := Tryz.func104.trans (congrArg some (by kernel_rfl))
  t0 := Tryz.underlying0
  a0 := Tryz.isAgg0
  z0 := Tryz.sizeOf0
  v0 := Tryz.zeroValue0
  t3 := Tryz.underlying3
  a3 := Tryz.isAgg3
  z3 := Tryz.sizeOf3
  v3 := Tryz.zeroValue3
  t4 := Tryz.underlying4
  a4 := Tryz.isAgg4
  z4 := Tryz.sizeOf4
  v4 := Tryz.zeroValue4
  t5 := Tryz.underlying5
  a5 := Tryz.isAgg5
  z5 := Tryz.sizeOf5
  v5 := Tryz.zeroValue5
  t9 := Tryz.underlying9
  a9 := Tryz.isAgg9
  z9 := Tryz.sizeOf9
  v9 := Tryz.zeroValue9
  t46 := Tryz.underlying66
  a46 := Tryz.isAgg66
  z46 := Tryz.sizeOf66
  v46 := Tryz.zeroValue66
  t53 := Tryz.underlying56
  a53 := Tryz.isAgg56
  z53 := Tryz.sizeOf56
  v53 := Tryz.zeroValue56
  t212 := Tryz.underlying192
  a212 := Tryz.isAgg192
  z212 := Tryz.sizeOf192
  v212 := Tryz.zeroValue192
  g17 := by kernel_rfl
  i0 := by kernel_rfl
  i3 := by kernel_rfl
  i4 := by kernel_rfl
  i5 := by kernel_rfl
  i9 := by kernel_rfl
  i46 := by kernel_rfl
  i53 := by kernel_rfl
  i212 := by kernel_rfl
  m17 := by kernel_rfl }
open Go.Lib in
/-- internal/strconv.numDigits, at a d that is not 0: THE NUMBER OF d's DECIMAL DIGITS. The world is as it was. (LAID: no walk: one application.) -/
theorem Tryz.internal_strconv_numDigits (u : Nat) (h1 : 1 ≤ u) (h2 : u < 18446744073709551616) (w : World) (htab : Lib.TabIs Tryz.prog w "internal/strconv.uint64pow10" .u64 Lib.pow10Tab) :
    Calls Tryz.prog 112 #[.int .u64 u] w fun e w' => e = .returned (.int .i64 (Lib.nDigits u)) ∧ w' = w := Any.internal_strconv_numDigits Tryz.laysM284 u h1 h2 w htab
def Tryz.lays285_ren : Go.Shelf.Ren := ⟨fun | 285 => 113 | n => n, fun | 37 => 40 | 53 => 56 | 3 => 3 | 4 => 4 | 51 => 68 | 9 => 9 | 5 => 5 | 0 => 0 | n => n, fun | n => n⟩
theorem Tryz.lays285 : Go.Proofs.Lays.n285 Tryz.prog Tryz.lays285_ren := {
  mixed := by kernel_rfl
  f285 := Tryz.func113.trans (congrArg some (by kernel_rfl))
  t0 := Tryz.underlying0
  a0 := Tryz.isAgg0
  z0 := Tryz.sizeOf0
  v0 := Tryz.zeroValue0
  t3 := Tryz.underlying3
  a3 := Tryz.isAgg3
  z3 := Tryz.sizeOf3
  v3 := Tryz.zeroValue3
  t4 := Tryz.underlying4
  a4 := Tryz.isAgg4
  z4 := Tryz.sizeOf4
  v4 := Tryz.zeroValue4
  t5 := Tryz.underlying5
  a5 := Tryz.isAgg5
  z5 := Tryz.sizeOf5
  v5 := Tryz.zeroValue5
  t9 := Tryz.underlying9
  a9 := Tryz.isAgg9
  z9 := Tryz.sizeOf9
  v9 := Tryz.zeroValue9
  t37 := Tryz.underlying40
  a37 := Tryz.isAgg40
  z37 := Tryz.sizeOf40
  v37 := Tryz.zeroValue40
  t51 := Tryz.underlying68
  a51 := Tryz.isAgg68
  z51 := Tryz.sizeOf68
  v51 := Tryz.zeroValue68
  t53 := Tryz.underlying56
  a53 := Tryz.isAgg56
  z53 := Tryz.sizeOf56
  v53 := Tryz.zeroValue56 }
open Go.RowKit Go.Sort Go.Lib in
/-- internal/strconv.formatBase10: "formatBase10 formats the decimal representation of u into a. The caller is responsible for ensuring that a is big enough to hold u. If a is too big, leading zeros will be filled in as needed.": THE ROW HOLDS u's DIGITS ('FmtInv .. 0 ..': every place t holds 'dg u (len - 1 - t)'); all else is as it was but for the count of draws. (LAID: no walk: one application.) -/
theorem Tryz.internal_strconv_formatBase10 (blk off cap : Nat) (u : Nat) (d : Array UInt8) (w : World) (hH : Holds (fun (b : UInt8) => Value.int .u8 (b.toNat : Int)) w blk off d) (hu : u < 10 ^ d.size) (hu64 : u < 18446744073709551616) (hsz : d.size < 4611686018427387904) :
    Calls Tryz.prog 113 #[.slice (some ⟨blk, off, none⟩) d.size cap, .int .u64 u] w fun e w' =>
      e = .returned (.tuple #[]) ∧ ∃ (n v' : Nat) (dk : Array UInt8), w' = (putRow (fun (b : UInt8) => Value.int .u8 (b.toNat : Int)) w blk off dk).drewN n ∧ FmtInv d.size u 0 v' dk := Any.internal_strconv_formatBase10 Tryz.lays285 blk off cap u d w hH hu hu64 hsz
def Tryz.laysM246_ren : Go.Shelf.Ren := ⟨fun | 246 => 97 | 283 => 111 | 284 => 112 | 285 => 113 | 286 => 114 | 129 => 62 | 317 => 119 | 318 => 104 | 319 => 120 | 320 => 121 | 337 => 124 | 338 => 125 | n => n, fun | 2 => 2 | 3 => 3 | 9 => 9 | 4 => 4 | 171 => 181 | 0 => 0 | 53 => 56 | 37 => 40 | 5 => 5 | 173 => 183 | 212 => 192 | 51 => 68 | 20 => 20 | 213 => 193 | 46 => 66 | 232 => 200 | 233 => 201 | n => n, fun | 17 => 15 | 18 => 17 | 19 => 18 | n => n⟩
theorem Tryz.laysM246 : Go.Proofs.LaysM.n246 Tryz.prog Tryz.laysM246_ren := {
  mixed := by kernel_rfl
  f129 := Tryz.func62.trans (congrArg some (by kernel_rfl))
  f246 := Tryz.func97.trans (congrArg some (by kernel_rfl))
  f283 := Tryz.func111.trans (congrArg some (by kernel_rfl))
  f284 := Tryz.func112.trans (congrArg some (by kernel_rfl))
  f285 := Tryz.func113.trans (congrArg some (by kernel_rfl))
  f286 := Tryz.func114.trans (congrArg some (by kernel_rfl))
  f317 := Tryz.func119.trans (congrArg some (by kernel_rfl))
  f318 := Tryz.func104.trans (congrArg some (by kernel_rfl))
  f319 := Tryz.func120.trans (congrArg some (by kernel_rfl))
  f320 := Tryz.func121.trans (congrArg some (by kernel_rfl))
  f337 := Tryz.func124.trans (congrArg some (by kernel_rfl))
  f338 := Tryz.func125.trans (congrArg some (by kernel_rfl))
  t0 := Tryz.underlying0
  a0 := Tryz.isAgg0
  z0 := Tryz.sizeOf0
  v0 := Tryz.zeroValue0
  t2 := Tryz.underlying2
  a2 := Tryz.isAgg2
  z2 := Tryz.sizeOf2
  v2 := Tryz.zeroValue2
  t3 := Tryz.underlying3
  a3 := Tryz.isAgg3
  z3 := Tryz.sizeOf3
  v3 := Tryz.zeroValue3
  t4 := Tryz.underlying4
  a4 := Tryz.isAgg4
  z4 := Tryz.sizeOf4
  v4 := Tryz.zeroValue4
  t5 := Tryz.underlying5
  a5 := Tryz.isAgg5
  z5 := Tryz.sizeOf5
  v5 := Tryz.zeroValue5
  t9 := Tryz.underlying9
  a9 := Tryz.isAgg9
  z9 := Tryz.sizeOf9
  v9 := Tryz.zeroValue9
  t20 := Tryz.underlying20
  a20 := Tryz.isAgg20
  z20 := Tryz.sizeOf20
  v20 := Tryz.zeroValue20
  t37 := Tryz.underlying40
  a37 := Tryz.isAgg40
  z37 := Tryz.sizeOf40
  v37 := Tryz.zeroValue40
  t46 := Tryz.underlying66
  a46 := Tryz.isAgg66
  z46 := Tryz.sizeOf66
  v46 := Tryz.zeroValue66
  t51 := Tryz.underlying68
  a51 := Tryz.isAgg68
  z51 := Tryz.sizeOf68
  v51 := Tryz.zeroValue68
  t53 := Tryz.underlying56
  a53 := Tryz.isAgg56
  z53 := Tryz.sizeOf56
  v53 := Tryz.zeroValue56
  t171 := Tryz.underlying181
  a171 := Tryz.isAgg181
  z171 := Tryz.sizeOf181
  v171 := Tryz.zeroValue181
  t173 := Tryz.underlying183
  a173 := Tryz.isAgg183
  z173 := Tryz.sizeOf183
  v173 := Tryz.zeroValue183
  t212 := Tryz.underlying192
  a212 := Tryz.isAgg192
  z212 := Tryz.sizeOf192
  v212 := Tryz.zeroValue192
  t213 := Tryz.underlying193
  a213 := Tryz.isAgg193
  z213 := Tryz.sizeOf193
  t232 := Tryz.underlying200
  a232 := Tryz.isAgg200
  z232 := Tryz.sizeOf200
  v232 := Tryz.zeroValue200
  t233 := Tryz.underlying201
  a233 := Tryz.isAgg201
  z233 := Tryz.sizeOf201
  v233 := Tryz.zeroValue201
  g17 := by kernel_rfl
  g18 := by kernel_rfl
  g19 := by kernel_rfl
  i0 := by kernel_rfl
  i2 := by kernel_rfl
  i3 := by kernel_rfl
  i4 := by kernel_rfl
  i5 := by kernel_rfl
  i9 := by kernel_rfl
  i20 := by kernel_rfl
  i37 := by kernel_rfl
  i46 := by kernel_rfl
  i51 := by kernel_rfl
  i53 := by kernel_rfl
  i171 := by kernel_rfl
  i173 := by kernel_rfl
  i212 := by kernel_rfl
  i232 := by kernel_rfl
  i233 := by kernel_rfl
  m17 := by kernel_rfl
  m18 := by kernel_rfl
  m19 := by kernel_rfl }
open Go.RowKit Go.Sort Go.Lib in
/-- internal/strconv.FormatInt: "FormatInt returns the string representation of i in the given base": AT BASE 10: i's decimal numeral, for every int64. The world behind the call: the world before it, new blocks behind the heap, draws. (LAID: no walk: one application.) -/
theorem Tryz.internal_strconv_FormatInt_10 (n : Int) (h0 : -9223372036854775808 ≤ n) (h1 : n ≤ 9223372036854775807) (w : World) (htab : Lib.TabIs Tryz.prog w "internal/strconv.uint64pow10" .u64 Lib.pow10Tab) :
    Calls Tryz.prog 97 #[.int .i64 n, .int .i64 10] w fun e w' => e = .returned (.string ⟨(Lib.itoa n).toArray⟩) ∧ ∃ k os, w' = grow (w.drewN k) os := Any.internal_strconv_FormatInt_10 Tryz.laysM246 n h0 h1 w htab
def Tryz.lays246_ren : Go.Shelf.Ren := ⟨fun | 246 => 97 | 283 => 111 | 284 => 112 | 285 => 113 | 286 => 114 | 129 => 62 | 317 => 119 | 318 => 104 | 319 => 120 | 320 => 121 | 337 => 124 | 338 => 125 | n => n, fun | 2 => 2 | 3 => 3 | 9 => 9 | 4 => 4 | 171 => 181 | 0 => 0 | 53 => 56 | 37 => 40 | 5 => 5 | 173 => 183 | 212 => 192 | 51 => 68 | 20 => 20 | 213 => 193 | 46 => 66 | 232 => 200 | 233 => 201 | n => n, fun | 17 => 15 | 18 => 17 | 19 => 18 | n => n⟩
theorem Tryz.lays246 : Go.Proofs.Lays.n246 Tryz.prog Tryz.lays246_ren := {
  mixed := by kernel_rfl
  f129 := Tryz.func62.trans (congrArg some (by kernel_rfl))
  f246 := Tryz.func97.trans (congrArg some (by kernel_rfl))
  f283 := Tryz.func111.trans (congrArg some (by kernel_rfl))
  f284 := Tryz.func112.trans (congrArg some (by kernel_rfl))
  f285 := Tryz.func113.trans (congrArg some (by kernel_rfl))
  f286 := Tryz.func114.trans (congrArg some (by kernel_rfl))
  f317 := Tryz.func119.trans (congrArg some (by kernel_rfl))
  f318 := Tryz.func104.trans (congrArg some (by kernel_rfl))
  f319 := Tryz.func120.trans (congrArg some (by kernel_rfl))
  f320 := Tryz.func121.trans (congrArg some (by kernel_rfl))
  f337 := Tryz.func124.trans (congrArg some (by kernel_rfl))
  f338 := Tryz.func125.trans (congrArg some (by kernel_rfl))
  t0 := Tryz.underlying0
  a0 := Tryz.isAgg0
  z0 := Tryz.sizeOf0
  v0 := Tryz.zeroValue0
  t2 := Tryz.underlying2
  a2 := Tryz.isAgg2
  z2 := Tryz.sizeOf2
  v2 := Tryz.zeroValue2
  t3 := Tryz.underlying3
  a3 := Tryz.isAgg3
  z3 := Tryz.sizeOf3
  v3 := Tryz.zeroValue3
  t4 := Tryz.underlying4
  a4 := Tryz.isAgg4
  z4 := Tryz.sizeOf4
  v4 := Tryz.zeroValue4
  t5 := Tryz.underlying5
  a5 := Tryz.isAgg5
  z5 := Tryz.sizeOf5
  v5 := Tryz.zeroValue5
  t9 := Tryz.underlying9
  a9 := Tryz.isAgg9
  z9 := Tryz.sizeOf9
  v9 := Tryz.zeroValue9
  t20 := Tryz.underlying20
  a20 := Tryz.isAgg20
  z20 := Tryz.sizeOf20
  v20 := Tryz.zeroValue20
  t37 := Tryz.underlying40
  a37 := Tryz.isAgg40
  z37 := Tryz.sizeOf40
  v37 := Tryz.zeroValue40
  t46 := Tryz.underlying66
  a46 := Tryz.isAgg66
  z46 := Tryz.sizeOf66
  v46 := Tryz.zeroValue66
  t51 := Tryz.underlying68
  a51 := Tryz.isAgg68
  z51 := Tryz.sizeOf68
  v51 := Tryz.zeroValue68
  t53 := Tryz.underlying56
  a53 := Tryz.isAgg56
  z53 := Tryz.sizeOf56
  v53 := Tryz.zeroValue56
  t171 := Tryz.underlying181
  a171 := Tryz.isAgg181
  z171 := Tryz.sizeOf181
  v171 := Tryz.zeroValue181
  t173 := Tryz.underlying183
  a173 := Tryz.isAgg183
  z173 := Tryz.sizeOf183
  v173 := Tryz.zeroValue183
  t212 := Tryz.underlying192
  a212 := Tryz.isAgg192
  z212 := Tryz.sizeOf192
  v212 := Tryz.zeroValue192
  t213 := Tryz.underlying193
  a213 := Tryz.isAgg193
  z213 := Tryz.sizeOf193
  t232 := Tryz.underlying200
  a232 := Tryz.isAgg200
  z232 := Tryz.sizeOf200
  v232 := Tryz.zeroValue200
  t233 := Tryz.underlying201
  a233 := Tryz.isAgg201
  z233 := Tryz.sizeOf201
  v233 := Tryz.zeroValue201
  g17 := by kernel_rfl
  g18 := by kernel_rfl
  g19 := by kernel_rfl }
open Go.RowKit Go.Sort Go.Lib in
/-- THE ROAD WITHOUT THE TABLE: 0 <= i < 100: two constants are read, nothing is laid: no premise on the world, and the world is as it was. (LAID: no walk: one application.) -/
theorem Tryz.internal_strconv_FormatInt_10_small (i : Nat) (hi : i < 100) (w : World) :
    Calls Tryz.prog 97 #[.int .i64 i, .int .i64 10] w fun e w' => e = .returned (.string ⟨(Lib.decDigits i).toArray⟩) ∧ w' = w := Any.internal_strconv_FormatInt_10_small Tryz.lays246 i hi w
def Tryz.laysM243_ren : Go.Shelf.Ren := ⟨fun | 243 => 83 | 246 => 97 | 283 => 111 | 284 => 112 | 285 => 113 | 286 => 114 | 129 => 62 | 317 => 119 | 318 => 104 | 319 => 120 | 320 => 121 | 337 => 124 | 338 => 125 | n => n, fun | 3 => 3 | 9 => 9 | 2 => 2 | 4 => 4 | 171 => 181 | 0 => 0 | 53 => 56 | 37 => 40 | 5 => 5 | 173 => 183 | 212 => 192 | 51 => 68 | 20 => 20 | 213 => 193 | 46 => 66 | 232 => 200 | 233 => 201 | n => n, fun | 17 => 15 | 18 => 17 | 19 => 18 | n => n⟩
theorem Tryz.laysM243 : Go.Proofs.LaysM.n243 Tryz.prog Tryz.laysM243_ren := {
  mixed := by kernel_rfl
  f129 := Tryz.func62.trans (congrArg some (by kernel_rfl))
  f243 := Tryz.func83.trans (congrArg some (by kernel_rfl))
  f246 := Tryz.func97.trans (congrArg some (by kernel_rfl))
  f283 := Tryz.func111.trans (congrArg some (by kernel_rfl))
  f284 := Tryz.func112.trans (congrArg some (by kernel_rfl))
  f285 := Tryz.func113.trans (congrArg some (by kernel_rfl))
  f286 := Tryz.func114.trans (congrArg some (by kernel_rfl))
  f317 := Tryz.func119.trans (congrArg some (by kernel_rfl))
  f318 := Tryz.func104.trans (congrArg some (by kernel_rfl))
  f319 := Tryz.func120.trans (congrArg some (by kernel_rfl))
  f320 := Tryz.func121.trans (congrArg some (by kernel_rfl))
  f337 := Tryz.func124.trans (congrArg some (by kernel_rfl))
  f338 := Tryz.func125.trans (congrArg some (by kernel_rfl))
  t0 := Tryz.underlying0
  a0 := Tryz.isAgg0
  z0 := Tryz.sizeOf0
  v0 := Tryz.zeroValue0
  t2 := Tryz.underlying2
  a2 := Tryz.isAgg2
  z2 := Tryz.sizeOf2
  v2 := Tryz.zeroValue2
  t3 := Tryz.underlying3
  a3 := Tryz.isAgg3
  z3 := Tryz.sizeOf3
  v3 := Tryz.zeroValue3
  t4 := Tryz.underlying4
  a4 := Tryz.isAgg4
  z4 := Tryz.sizeOf4
  v4 := Tryz.zeroValue4
  t5 := Tryz.underlying5
  a5 := Tryz.isAgg5
  z5 := Tryz.sizeOf5
  v5 := Tryz.zeroValue5
  t9 := Tryz.underlying9
  a9 := Tryz.isAgg9
  z9 := Tryz.sizeOf9
  v9 := Tryz.zeroValue9
  t20 := Tryz.underlying20
  a20 := Tryz.isAgg20
  z20 := Tryz.sizeOf20
  v20 := Tryz.zeroValue20
  t37 := Tryz.underlying40
  a37 := Tryz.isAgg40
  z37 := Tryz.sizeOf40
  v37 := Tryz.zeroValue40
  t46 := Tryz.underlying66
  a46 := Tryz.isAgg66
  z46 := Tryz.sizeOf66
  v46 := Tryz.zeroValue66
  t51 := Tryz.underlying68
  a51 := Tryz.isAgg68
  z51 := Tryz.sizeOf68
  v51 := Tryz.zeroValue68
  t53 := Tryz.underlying56
  a53 := Tryz.isAgg56
  z53 := Tryz.sizeOf56
  v53 := Tryz.zeroValue56
  t171 := Tryz.underlying181
  a171 := Tryz.isAgg181
  z171 := Tryz.sizeOf181
  v171 := Tryz.zeroValue181
  t173 := Tryz.underlying183
  a173 := Tryz.isAgg183
  z173 := Tryz.sizeOf183
  v173 := Tryz.zeroValue183
  t212 := Tryz.underlying192
  a212 := Tryz.isAgg192
  z212 := Tryz.sizeOf192
  v212 := Tryz.zeroValue192
  t213 := Tryz.underlying193
  a213 := Tryz.isAgg193
  z213 := Tryz.sizeOf193
  t232 := Tryz.underlying200
  a232 := Tryz.isAgg200
  z232 := Tryz.sizeOf200
  v232 := Tryz.zeroValue200
  t233 := Tryz.underlying201
  a233 := Tryz.isAgg201
  z233 := Tryz.sizeOf201
  v233 := Tryz.zeroValue201
  g17 := by kernel_rfl
  g18 := by kernel_rfl
  g19 := by kernel_rfl
  i0 := by kernel_rfl
  i2 := by kernel_rfl
  i3 := by kernel_rfl
  i4 := by kernel_rfl
  i5 := by kernel_rfl
  i9 := by kernel_rfl
  i20 := by kernel_rfl
  i37 := by kernel_rfl
  i46 := by kernel_rfl
  i51 := by kernel_rfl
  i53 := by kernel_rfl
  i171 := by kernel_rfl
  i173 := by kernel_rfl
  i212 := by kernel_rfl
  i232 := by kernel_rfl
  i233 := by kernel_rfl
  m17 := by kernel_rfl
  m18 := by kernel_rfl
  m19 := by kernel_rfl }
open Go.RowKit Go.Sort Go.Lib in
/-- internal/strconv.Itoa: "Itoa is equivalent to FormatInt(int64(i), 10).": i's decimal numeral, for every int. (LAID: no walk: one application.) -/
theorem Tryz.internal_strconv_Itoa (n : Int) (h0 : -9223372036854775808 ≤ n) (h1 : n ≤ 9223372036854775807) (w : World) (htab : Lib.TabIs Tryz.prog w "internal/strconv.uint64pow10" .u64 Lib.pow10Tab) :
    Calls Tryz.prog 83 #[.int .i64 n] w fun e w' => e = .returned (.string ⟨(Lib.itoa n).toArray⟩) ∧ ∃ k os, w' = grow (w.drewN k) os := Any.internal_strconv_Itoa Tryz.laysM243 n h0 h1 w htab
def Tryz.lays243_ren : Go.Shelf.Ren := ⟨fun | 243 => 83 | 246 => 97 | 283 => 111 | 284 => 112 | 285 => 113 | 286 => 114 | 129 => 62 | 317 => 119 | 318 => 104 | 319 => 120 | 320 => 121 | 337 => 124 | 338 => 125 | n => n, fun | 3 => 3 | 9 => 9 | 2 => 2 | 4 => 4 | 171 => 181 | 0 => 0 | 53 => 56 | 37 => 40 | 5 => 5 | 173 => 183 | 212 => 192 | 51 => 68 | 20 => 20 | 213 => 193 | 46 => 66 | 232 => 200 | 233 => 201 | n => n, fun | 17 => 15 | 18 => 17 | 19 => 18 | n => n⟩
theorem Tryz.lays243 : Go.Proofs.Lays.n243 Tryz.prog Tryz.lays243_ren := {
  mixed := by kernel_rfl
  f129 := Tryz.func62.trans (congrArg some (by kernel_rfl))
  f243 := Tryz.func83.trans (congrArg some (by kernel_rfl))
  f246 := Tryz.func97.trans (congrArg some (by kernel_rfl))
  f283 := Tryz.func111.trans (congrArg some (by kernel_rfl))
  f284 := Tryz.func112.trans (congrArg some (by kernel_rfl))
  f285 := Tryz.func113.trans (congrArg some (by kernel_rfl))
  f286 := Tryz.func114.trans (congrArg some (by kernel_rfl))
  f317 := Tryz.func119.trans (congrArg some (by kernel_rfl))
  f318 := Tryz.func104.trans (congrArg some (by kernel_rfl))
  f319 := Tryz.func120.trans (congrArg some (by kernel_rfl))
  f320 := Tryz.func121.trans (congrArg some (by kernel_rfl))
  f337 := Tryz.func124.trans (congrArg some (by kernel_rfl))
  f338 := Tryz.func125.trans (congrArg some (by kernel_rfl))
  t0 := Tryz.underlying0
  a0 := Tryz.isAgg0
  z0 := Tryz.sizeOf0
  v0 := Tryz.zeroValue0
  t2 := Tryz.underlying2
  a2 := Tryz.isAgg2
  z2 := Tryz.sizeOf2
  v2 := Tryz.zeroValue2
  t3 := Tryz.underlying3
  a3 := Tryz.isAgg3
  z3 := Tryz.sizeOf3
  v3 := Tryz.zeroValue3
  t4 := Tryz.underlying4
  a4 := Tryz.isAgg4
  z4 := Tryz.sizeOf4
  v4 := Tryz.zeroValue4
  t5 := Tryz.underlying5
  a5 := Tryz.isAgg5
  z5 := Tryz.sizeOf5
  v5 := Tryz.zeroValue5
  t9 := Tryz.underlying9
  a9 := Tryz.isAgg9
  z9 := Tryz.sizeOf9
  v9 := Tryz.zeroValue9
  t20 := Tryz.underlying20
  a20 := Tryz.isAgg20
  z20 := Tryz.sizeOf20
  v20 := Tryz.zeroValue20
  t37 := Tryz.underlying40
  a37 := Tryz.isAgg40
  z37 := Tryz.sizeOf40
  v37 := Tryz.zeroValue40
  t46 := Tryz.underlying66
  a46 := Tryz.isAgg66
  z46 := Tryz.sizeOf66
  v46 := Tryz.zeroValue66
  t51 := Tryz.underlying68
  a51 := Tryz.isAgg68
  z51 := Tryz.sizeOf68
  v51 := Tryz.zeroValue68
  t53 := Tryz.underlying56
  a53 := Tryz.isAgg56
  z53 := Tryz.sizeOf56
  v53 := Tryz.zeroValue56
  t171 := Tryz.underlying181
  a171 := Tryz.isAgg181
  z171 := Tryz.sizeOf181
  v171 := Tryz.zeroValue181
  t173 := Tryz.underlying183
  a173 := Tryz.isAgg183
  z173 := Tryz.sizeOf183
  v173 := Tryz.zeroValue183
  t212 := Tryz.underlying192
  a212 := Tryz.isAgg192
  z212 := Tryz.sizeOf192
  v212 := Tryz.zeroValue192
  t213 := Tryz.underlying193
  a213 := Tryz.isAgg193
  z213 := Tryz.sizeOf193
  t232 := Tryz.underlying200
  a232 := Tryz.isAgg200
  z232 := Tryz.sizeOf200
  v232 := Tryz.zeroValue200
  t233 := Tryz.underlying201
  a233 := Tryz.isAgg201
  z233 := Tryz.sizeOf201
  v233 := Tryz.zeroValue201
  g17 := by kernel_rfl
  g18 := by kernel_rfl
  g19 := by kernel_rfl }
open Go.RowKit Go.Sort Go.Lib in
/-- THE ROAD WITHOUT THE TABLE: 0 <= i < 100. (LAID: no walk: one application.) -/
theorem Tryz.internal_strconv_Itoa_small (i : Nat) (hi : i < 100) (w : World) :
    Calls Tryz.prog 83 #[.int .i64 i] w fun e w' => e = .returned (.string ⟨(Lib.decDigits i).toArray⟩) ∧ w' = w := Any.internal_strconv_Itoa_small Tryz.lays243 i hi w
def Tryz.laysM171_ren : Go.Shelf.Ren := ⟨fun | 171 => 79 | 243 => 83 | 246 => 97 | 283 => 111 | 284 => 112 | 285 => 113 | 286 => 114 | 129 => 62 | 317 => 119 | 318 => 104 | 319 => 120 | 320 => 121 | 337 => 124 | 338 => 125 | n => n, fun | 3 => 3 | 9 => 9 | 2 => 2 | 4 => 4 | 171 => 181 | 0 => 0 | 53 => 56 | 37 => 40 | 5 => 5 | 173 => 183 | 212 => 192 | 51 => 68 | 20 => 20 | 213 => 193 | 46 => 66 | 232 => 200 | 233 => 201 | n => n, fun | 17 => 15 | 18 => 17 | 19 => 18 | n => n⟩
theorem Tryz.laysM171 : Go.Proofs.LaysM.n171 Tryz.prog Tryz.laysM171_ren := {
  mixed := by kernel_rfl
  f129 := Tryz.func62.trans (congrArg some (by kernel_rfl))
  f171 := Tryz.func79.trans (congrArg some (by kernel_rfl))
  f243 := Tryz.func83.trans (congrArg some (by kernel_rfl))
  f246 := Tryz.func97.trans (congrArg some (by kernel_rfl))
  f283 := Tryz.func111.trans (congrArg some (by kernel_rfl))
  f284 := Tryz.func112.trans (congrArg some (by kernel_rfl))
  f285 := Tryz.func113.trans (congrArg some (by kernel_rfl))
  f286 := Tryz.func114.trans (congrArg some (by kernel_rfl))
  f317 := Tryz.func119.trans (congrArg some (by kernel_rfl))
  f318 := Tryz.func104.trans (congrArg some (by kernel_rfl))
  f319 := Tryz.func120.trans (congrArg some (by kernel_rfl))
  f320 := Tryz.func121.trans (congrArg some (by kernel_rfl))
  f337 := Tryz.func124.trans (congrArg some (by kernel_rfl))
  f338 := Tryz.func125.trans (congrArg some (by kernel_rfl))
  t0 := Tryz.underlying0
  a0 := Tryz.isAgg0
  z0 := Tryz.sizeOf0
  v0 := Tryz.zeroValue0
  t2 := Tryz.underlying2
  a2 := Tryz.isAgg2
  z2 := Tryz.sizeOf2
  v2 := Tryz.zeroValue2
  t3 := Tryz.underlying3
  a3 := Tryz.isAgg3
  z3 := Tryz.sizeOf3
  v3 := Tryz.zeroValue3
  t4 := Tryz.underlying4
  a4 := Tryz.isAgg4
  z4 := Tryz.sizeOf4
  v4 := Tryz.zeroValue4
  t5 := Tryz.underlying5
  a5 := Tryz.isAgg5
  z5 := Tryz.sizeOf5
  v5 := Tryz.zeroValue5
  t9 := Tryz.underlying9
  a9 := Tryz.isAgg9
  z9 := Tryz.sizeOf9
  v9 := Tryz.zeroValue9
  t20 := Tryz.underlying20
  a20 := Tryz.isAgg20
  z20 := Tryz.sizeOf20
  v20 := Tryz.zeroValue20
  t37 := Tryz.underlying40
  a37 := Tryz.isAgg40
  z37 := Tryz.sizeOf40
  v37 := Tryz.zeroValue40
  t46 := Tryz.underlying66
  a46 := Tryz.isAgg66
  z46 := Tryz.sizeOf66
  v46 := Tryz.zeroValue66
  t51 := Tryz.underlying68
  a51 := Tryz.isAgg68
  z51 := Tryz.sizeOf68
  v51 := Tryz.zeroValue68
  t53 := Tryz.underlying56
  a53 := Tryz.isAgg56
  z53 := Tryz.sizeOf56
  v53 := Tryz.zeroValue56
  t171 := Tryz.underlying181
  a171 := Tryz.isAgg181
  z171 := Tryz.sizeOf181
  v171 := Tryz.zeroValue181
  t173 := Tryz.underlying183
  a173 := Tryz.isAgg183
  z173 := Tryz.sizeOf183
  v173 := Tryz.zeroValue183
  t212 := Tryz.underlying192
  a212 := Tryz.isAgg192
  z212 := Tryz.sizeOf192
  v212 := Tryz.zeroValue192
  t213 := Tryz.underlying193
  a213 := Tryz.isAgg193
  z213 := Tryz.sizeOf193
  t232 := Tryz.underlying200
  a232 := Tryz.isAgg200
  z232 := Tryz.sizeOf200
  v232 := Tryz.zeroValue200
  t233 := Tryz.underlying201
  a233 := Tryz.isAgg201
  z233 := Tryz.sizeOf201
  v233 := Tryz.zeroValue201
  g17 := by kernel_rfl
  g18 := by kernel_rfl
  g19 := by kernel_rfl
  i0 := by kernel_rfl
  i2 := by kernel_rfl
  i3 := by kernel_rfl
  i4 := by kernel_rfl
  i5 := by kernel_rfl
  i9 := by kernel_rfl
  i20 := by kernel_rfl
  i37 := by kernel_rfl
  i46 := by kernel_rfl
  i51 := by kernel_rfl
  i53 := by kernel_rfl
  i171 := by kernel_rfl
  i173 := by kernel_rfl
  i212 := by kernel_rfl
  i232 := by kernel_rfl
  i233 := by kernel_rfl
  m17 := by kernel_rfl
  m18 := by kernel_rfl
  m19 := by kernel_rfl }
open Go.RowKit Go.Sort Go.Lib in
/-- strconv.Itoa: "Itoa is equivalent to FormatInt(int64(i), 10).": i's DECIMAL NUMERAL ('Lib.itoa': a '-' where i is negative, then the digits), FOR EVERY int. The world behind the call: the world before it, new blocks behind the heap (the library's 'var a [24]byte'), draws. (LAID: no walk: one application.) -/
theorem Tryz.strconv_Itoa (n : Int) (h0 : -9223372036854775808 ≤ n) (h1 : n ≤ 9223372036854775807) (w : World) (htab : Lib.TabIs Tryz.prog w "internal/strconv.uint64pow10" .u64 Lib.pow10Tab) :
    Calls Tryz.prog 79 #[.int .i64 n] w fun e w' => e = .returned (.string ⟨(Lib.itoa n).toArray⟩) ∧ ∃ k os, w' = grow (w.drewN k) os := Any.strconv_Itoa Tryz.laysM171 n h0 h1 w htab
def Tryz.lays171_ren : Go.Shelf.Ren := ⟨fun | 171 => 79 | 243 => 83 | 246 => 97 | 283 => 111 | 284 => 112 | 285 => 113 | 286 => 114 | 129 => 62 | 317 => 119 | 318 => 104 | 319 => 120 | 320 => 121 | 337 => 124 | 338 => 125 | n => n, fun | 3 => 3 | 9 => 9 | 2 => 2 | 4 => 4 | 171 => 181 | 0 => 0 | 53 => 56 | 37 => 40 | 5 => 5 | 173 => 183 | 212 => 192 | 51 => 68 | 20 => 20 | 213 => 193 | 46 => 66 | 232 => 200 | 233 => 201 | n => n, fun | 17 => 15 | 18 => 17 | 19 => 18 | n => n⟩
theorem Tryz.lays171 : Go.Proofs.Lays.n171 Tryz.prog Tryz.lays171_ren := {
  mixed := by kernel_rfl
  f129 := Tryz.func62.trans (congrArg some (by kernel_rfl))
  f171 := Tryz.func79.trans (congrArg some (by kernel_rfl))
  f243 := Tryz.func83.trans (congrArg some (by kernel_rfl))
  f246 := Tryz.func97.trans (congrArg some (by kernel_rfl))
  f283 := Tryz.func111.trans (congrArg some (by kernel_rfl))
  f284 := Tryz.func112.trans (congrArg some (by kernel_rfl))
  f285 := Tryz.func113.trans (congrArg some (by kernel_rfl))
  f286 := Tryz.func114.trans (congrArg some (by kernel_rfl))
  f317 := Tryz.func119.trans (congrArg some (by kernel_rfl))
  f318 := Tryz.func104.trans (congrArg some (by kernel_rfl))
  f319 := Tryz.func120.trans (congrArg some (by kernel_rfl))
  f320 := Tryz.func121.trans (congrArg some (by kernel_rfl))
  f337 := Tryz.func124.trans (congrArg some (by kernel_rfl))
  f338 := Tryz.func125.trans (congrArg some (by kernel_rfl))
  t0 := Tryz.underlying0
  a0 := Tryz.isAgg0
  z0 := Tryz.sizeOf0
  v0 := Tryz.zeroValue0
  t2 := Tryz.underlying2
  a2 := Tryz.isAgg2
  z2 := Tryz.sizeOf2
  v2 := Tryz.zeroValue2
  t3 := Tryz.underlying3
  a3 := Tryz.isAgg3
  z3 := Tryz.sizeOf3
  v3 := Tryz.zeroValue3
  t4 := Tryz.underlying4
  a4 := Tryz.isAgg4
  z4 := Tryz.sizeOf4
  v4 := Tryz.zeroValue4
  t5 := Tryz.underlying5
  a5 := Tryz.isAgg5
  z5 := Tryz.sizeOf5
  v5 := Tryz.zeroValue5
  t9 := Tryz.underlying9
  a9 := Tryz.isAgg9
  z9 := Tryz.sizeOf9
  v9 := Tryz.zeroValue9
  t20 := Tryz.underlying20
  a20 := Tryz.isAgg20
  z20 := Tryz.sizeOf20
  v20 := Tryz.zeroValue20
  t37 := Tryz.underlying40
  a37 := Tryz.isAgg40
  z37 := Tryz.sizeOf40
  v37 := Tryz.zeroValue40
  t46 := Tryz.underlying66
  a46 := Tryz.isAgg66
  z46 := Tryz.sizeOf66
  v46 := Tryz.zeroValue66
  t51 := Tryz.underlying68
  a51 := Tryz.isAgg68
  z51 := Tryz.sizeOf68
  v51 := Tryz.zeroValue68
  t53 := Tryz.underlying56
  a53 := Tryz.isAgg56
  z53 := Tryz.sizeOf56
  v53 := Tryz.zeroValue56
  t171 := Tryz.underlying181
  a171 := Tryz.isAgg181
  z171 := Tryz.sizeOf181
  v171 := Tryz.zeroValue181
  t173 := Tryz.underlying183
  a173 := Tryz.isAgg183
  z173 := Tryz.sizeOf183
  v173 := Tryz.zeroValue183
  t212 := Tryz.underlying192
  a212 := Tryz.isAgg192
  z212 := Tryz.sizeOf192
  v212 := Tryz.zeroValue192
  t213 := Tryz.underlying193
  a213 := Tryz.isAgg193
  z213 := Tryz.sizeOf193
  t232 := Tryz.underlying200
  a232 := Tryz.isAgg200
  z232 := Tryz.sizeOf200
  v232 := Tryz.zeroValue200
  t233 := Tryz.underlying201
  a233 := Tryz.isAgg201
  z233 := Tryz.sizeOf201
  v233 := Tryz.zeroValue201
  g17 := by kernel_rfl
  g18 := by kernel_rfl
  g19 := by kernel_rfl }
open Go.RowKit Go.Sort Go.Lib in
/-- THE ROAD WITHOUT THE TABLE: 0 <= i < 100: NO PREMISE ON THE WORLD, AND THE WORLD IS AS IT WAS: a row that keeps its argument in that range need list no table ('laid = []'). (LAID: no walk: one application.) -/
theorem Tryz.strconv_Itoa_small (i : Nat) (hi : i < 100) (w : World) :
    Calls Tryz.prog 79 #[.int .i64 i] w fun e w' => e = .returned (.string ⟨(Lib.decDigits i).toArray⟩) ∧ w' = w := Any.strconv_Itoa_small Tryz.lays171 i hi w
def Tryz.lays190_ren : Go.Shelf.Ren := ⟨fun | 190 => 34 | 125 => 44 | 258 => 43 | 128 => 61 | 129 => 62 | 302 => 52 | 303 => 53 | 304 => 54 | 305 => 55 | 306 => 56 | 307 => 57 | 308 => 58 | 309 => 59 | 310 => 60 | 333 => 69 | 329 => 70 | 330 => 71 | 334 => 72 | 335 => 73 | 336 => 74 | 344 => 82 | n => n, fun | 31 => 24 | 9 => 9 | 3 => 3 | 46 => 66 | 0 => 0 | 51 => 68 | 53 => 56 | 4 => 4 | 183 => 95 | 182 => 94 | 131 => 41 | 5 => 5 | 218 => 118 | 222 => 122 | 228 => 132 | 229 => 133 | n => n, fun | n => n⟩
theorem Tryz.lays190 : Go.Proofs.Lays.n190 Tryz.prog Tryz.lays190_ren := {
  mixed := by kernel_rfl
  f125 := Tryz.func44.trans (congrArg some (by kernel_rfl))
  f128 := Tryz.func61.trans (congrArg some (by kernel_rfl))
  f129 := Tryz.func62.trans (congrArg some (by kernel_rfl))
  f190 := Tryz.func34.trans (congrArg some (by kernel_rfl))
  f258 := Tryz.func43.trans (congrArg some (by kernel_rfl))
  f302 := Tryz.func52.trans (congrArg some (by kernel_rfl))
  f303 := Tryz.func53.trans (congrArg some (by kernel_rfl))
  f304 := Tryz.func54.trans (congrArg some (by kernel_rfl))
  f305 := Tryz.func55.trans (congrArg some (by kernel_rfl))
  f306 := Tryz.func56.trans (congrArg some (by kernel_rfl))
  f307 := Tryz.func57.trans (congrArg some (by kernel_rfl))
  f308 := Tryz.func58.trans (congrArg some (by kernel_rfl))
  f309 := Tryz.func59.trans (congrArg some (by kernel_rfl))
  f310 := Tryz.func60.trans (congrArg some (by kernel_rfl))
  f329 := Tryz.func70.trans (congrArg some (by kernel_rfl))
  f330 := Tryz.func71.trans (congrArg some (by kernel_rfl))
  f333 := Tryz.func69.trans (congrArg some (by kernel_rfl))
  f334 := Tryz.func72.trans (congrArg some (by kernel_rfl))
  f335 := Tryz.func73.trans (congrArg some (by kernel_rfl))
  f336 := Tryz.func74.trans (congrArg some (by kernel_rfl))
  f344 := Tryz.func82.trans (congrArg some (by kernel_rfl))
  t0 := Tryz.underlying0
  a0 := Tryz.isAgg0
  z0 := Tryz.sizeOf0
  v0 := Tryz.zeroValue0
  t3 := Tryz.underlying3
  a3 := Tryz.isAgg3
  z3 := Tryz.sizeOf3
  v3 := Tryz.zeroValue3
  t4 := Tryz.underlying4
  a4 := Tryz.isAgg4
  z4 := Tryz.sizeOf4
  v4 := Tryz.zeroValue4
  t5 := Tryz.underlying5
  a5 := Tryz.isAgg5
  z5 := Tryz.sizeOf5
  v5 := Tryz.zeroValue5
  t9 := Tryz.underlying9
  a9 := Tryz.isAgg9
  z9 := Tryz.sizeOf9
  v9 := Tryz.zeroValue9
  t31 := Tryz.underlying24
  a31 := Tryz.isAgg24
  z31 := Tryz.sizeOf24
  v31 := Tryz.zeroValue24
  t46 := Tryz.underlying66
  a46 := Tryz.isAgg66
  z46 := Tryz.sizeOf66
  v46 := Tryz.zeroValue66
  t51 := Tryz.underlying68
  a51 := Tryz.isAgg68
  z51 := Tryz.sizeOf68
  v51 := Tryz.zeroValue68
  t53 := Tryz.underlying56
  a53 := Tryz.isAgg56
  z53 := Tryz.sizeOf56
  v53 := Tryz.zeroValue56
  t131 := Tryz.underlying41
  a131 := Tryz.isAgg41
  z131 := Tryz.sizeOf41
  v131 := Tryz.zeroValue41
  t182 := Tryz.underlying94
  a182 := Tryz.isAgg94
  z182 := Tryz.sizeOf94
  v182 := Tryz.zeroValue94
  t183 := Tryz.underlying95
  a183 := Tryz.isAgg95
  z183 := Tryz.sizeOf95
  v183 := Tryz.zeroValue95
  t218 := Tryz.underlying118
  a218 := Tryz.isAgg118
  z218 := Tryz.sizeOf118
  v218 := Tryz.zeroValue118
  t222 := Tryz.underlying122
  a222 := Tryz.isAgg122
  z222 := Tryz.sizeOf122
  v222 := Tryz.zeroValue122
  t228 := Tryz.underlying132
  a228 := Tryz.isAgg132
  z228 := Tryz.sizeOf132
  v228 := Tryz.zeroValue132
  t229 := Tryz.underlying133
  a229 := Tryz.isAgg133
  z229 := Tryz.sizeOf133
  v229 := Tryz.zeroValue133 }
open Go.Sort Go.RowKit in
theorem Tryz.slices_Sort_string (blk off cap : Nat) (ss : List (List UInt8)) (w : World) (hH : Holds encStr w blk off ss.toArray) (hblk : blk < w.heap.size) (hsz : ss.length < 4611686018427387904) :
    Calls Tryz.prog 34 #[.slice (some ⟨blk, off, none⟩) ss.length cap] w fun e w' =>
      e = .returned (.tuple #[]) ∧ ∃ n os, w' = grow (putRow encStr (Sort.ahead w n) blk off (ss.mergeSort fun x y => decide (x ≤ y)).toArray) os := Any.slices_Sort_string Tryz.lays190 blk off cap ss w hH hblk hsz
def Tryz.lays164_ren : Go.Shelf.Ren := ⟨fun | 164 => 25 | 197 => 37 | 239 => 38 | 260 => 45 | 274 => 46 | 275 => 47 | n => n, fun | 9 => 9 | 4 => 4 | 3 => 3 | 5 => 5 | 0 => 0 | 21 => 21 | 105 => 61 | 156 => 83 | 49 => 67 | 157 => 84 | 46 => 66 | 159 => 86 | 162 => 89 | 160 => 87 | 119 => 102 | 139 => 105 | 138 => 104 | 208 => 109 | 51 => 68 | 206 => 107 | n => n, fun | 11 => 1 | 12 => 2 | 13 => 3 | 3 => 4 | 4 => 5 | n => n⟩
theorem Tryz.lays164 : Go.Proofs.Lays.n164 Tryz.prog Tryz.lays164_ren := {
  mixed := by kernel_rfl
  f164 := Tryz.func25.trans (congrArg some (by kernel_rfl))
  f197 := Tryz.func37.trans (congrArg some (by kernel_rfl))
  f239 := Tryz.func38.trans (congrArg some (by kernel_rfl))
  f260 := Tryz.func45.trans (congrArg some (by kernel_rfl))
  f274 := Tryz.func46.trans (congrArg some (by kernel_rfl))
  f275 := Tryz.func47.trans (congrArg some (by kernel_rfl))
  t0 := Tryz.underlying0
  a0 := Tryz.isAgg0
  z0 := Tryz.sizeOf0
  v0 := Tryz.zeroValue0
  t3 := Tryz.underlying3
  a3 := Tryz.isAgg3
  z3 := Tryz.sizeOf3
  v3 := Tryz.zeroValue3
  t4 := Tryz.underlying4
  a4 := Tryz.isAgg4
  z4 := Tryz.sizeOf4
  v4 := Tryz.zeroValue4
  t5 := Tryz.underlying5
  a5 := Tryz.isAgg5
  z5 := Tryz.sizeOf5
  v5 := Tryz.zeroValue5
  t9 := Tryz.underlying9
  a9 := Tryz.isAgg9
  z9 := Tryz.sizeOf9
  v9 := Tryz.zeroValue9
  t21 := Tryz.underlying21
  a21 := Tryz.isAgg21
  z21 := Tryz.sizeOf21
  v21 := Tryz.zeroValue21
  t46 := Tryz.underlying66
  a46 := Tryz.isAgg66
  z46 := Tryz.sizeOf66
  v46 := Tryz.zeroValue66
  t49 := Tryz.underlying67
  a49 := Tryz.isAgg67
  z49 := Tryz.sizeOf67
  v49 := Tryz.zeroValue67
  t51 := Tryz.underlying68
  a51 := Tryz.isAgg68
  z51 := Tryz.sizeOf68
  v51 := Tryz.zeroValue68
  t105 := Tryz.underlying61
  a105 := Tryz.isAgg61
  z105 := Tryz.sizeOf61
  v105 := Tryz.zeroValue61
  t119 := Tryz.underlying102
  a119 := Tryz.isAgg102
  z119 := Tryz.sizeOf102
  t138 := Tryz.underlying104
  a138 := Tryz.isAgg104
  z138 := Tryz.sizeOf104
  v138 := Tryz.zeroValue104
  t139 := Tryz.underlying105
  a139 := Tryz.isAgg105
  z139 := Tryz.sizeOf105
  v139 := Tryz.zeroValue105
  t156 := Tryz.underlying83
  a156 := Tryz.isAgg83
  z156 := Tryz.sizeOf83
  t157 := Tryz.underlying84
  a157 := Tryz.isAgg84
  z157 := Tryz.sizeOf84
  v157 := Tryz.zeroValue84
  t159 := Tryz.underlying86
  a159 := Tryz.isAgg86
  z159 := Tryz.sizeOf86
  v159 := Tryz.zeroValue86
  t160 := Tryz.underlying87
  a160 := Tryz.isAgg87
  z160 := Tryz.sizeOf87
  v160 := Tryz.zeroValue87
  t162 := Tryz.underlying89
  a162 := Tryz.isAgg89
  z162 := Tryz.sizeOf89
  v162 := Tryz.zeroValue89
  t206 := Tryz.underlying107
  a206 := Tryz.isAgg107
  z206 := Tryz.sizeOf107
  v206 := Tryz.zeroValue107
  t208 := Tryz.underlying109
  a208 := Tryz.isAgg109
  z208 := Tryz.sizeOf109
  v208 := Tryz.zeroValue109
  g3 := by kernel_rfl
  g4 := by kernel_rfl
  g11 := by kernel_rfl
  g12 := by kernel_rfl
  g13 := by kernel_rfl }
open Go.RowKit Go.Lib in
theorem Tryz.strings_EqualFold (s t : ByteArray) (w : World) (hs : s.size < 4294967281) (has : ∀ (j : Nat) b, s.data.toList[j]? = some b → b.toNat < 128) (hat : ∀ (j : Nat) b, t.data.toList[j]? = some b → b.toNat < 128) :
    Calls Tryz.prog 25 #[.string s, .string t] w fun e w' => e = .returned (.bool (Lib.equalFold s.data.toList t.data.toList)) ∧ w' = w := Any.strings_EqualFold Tryz.lays164 s t w hs has hat
def Tryz.lays197_ren : Go.Shelf.Ren := ⟨fun | 197 => 37 | 260 => 45 | n => n, fun | 9 => 9 | 21 => 21 | 3 => 3 | 4 => 4 | 5 => 5 | 105 => 61 | 119 => 102 | 0 => 0 | 46 => 66 | 139 => 105 | 138 => 104 | n => n, fun | 3 => 4 | 4 => 5 | n => n⟩
theorem Tryz.lays197 : Go.Proofs.Lays.n197 Tryz.prog Tryz.lays197_ren := {
  mixed := by kernel_rfl
  f197 := Tryz.func37.trans (congrArg some (by kernel_rfl))
  f260 := Tryz.func45.trans (congrArg some (by kernel_rfl))
  t0 := Tryz.underlying0
  a0 := Tryz.isAgg0
  z0 := Tryz.sizeOf0
  v0 := Tryz.zeroValue0
  t3 := Tryz.underlying3
  a3 := Tryz.isAgg3
  z3 := Tryz.sizeOf3
  v3 := Tryz.zeroValue3
  t4 := Tryz.underlying4
  a4 := Tryz.isAgg4
  z4 := Tryz.sizeOf4
  v4 := Tryz.zeroValue4
  t5 := Tryz.underlying5
  a5 := Tryz.isAgg5
  z5 := Tryz.sizeOf5
  v5 := Tryz.zeroValue5
  t9 := Tryz.underlying9
  a9 := Tryz.isAgg9
  z9 := Tryz.sizeOf9
  v9 := Tryz.zeroValue9
  t21 := Tryz.underlying21
  a21 := Tryz.isAgg21
  z21 := Tryz.sizeOf21
  v21 := Tryz.zeroValue21
  t46 := Tryz.underlying66
  a46 := Tryz.isAgg66
  z46 := Tryz.sizeOf66
  v46 := Tryz.zeroValue66
  t105 := Tryz.underlying61
  a105 := Tryz.isAgg61
  z105 := Tryz.sizeOf61
  v105 := Tryz.zeroValue61
  t119 := Tryz.underlying102
  a119 := Tryz.isAgg102
  z119 := Tryz.sizeOf102
  t138 := Tryz.underlying104
  a138 := Tryz.isAgg104
  z138 := Tryz.sizeOf104
  v138 := Tryz.zeroValue104
  t139 := Tryz.underlying105
  a139 := Tryz.isAgg105
  z139 := Tryz.sizeOf105
  v139 := Tryz.zeroValue105
  g3 := by kernel_rfl
  g4 := by kernel_rfl }
open Go.RowKit Go.Lib in
/-- unicode/utf8.DecodeRuneInString: "DecodeRuneInString is like DecodeRune but its input is a string.": ("DecodeRune unpacks the first UTF-8 encoding in p and returns the rune and its width in bytes."): WHERE s BEGINS WITH AN ASCII BYTE x: (x, 1). (LAID: no walk: one application.) -/
theorem Tryz.utf8_DecodeRuneInString_ascii (s : ByteArray) (x : UInt8) (w : World) (h0 : s.data.toList[0]? = some x) (hx : x.toNat < 128) :
    Calls Tryz.prog 37 #[.string s] w fun e w' => e = .returned (.tuple #[.int .i32 x.toNat, .int .i64 1]) ∧ w' = w := Any.utf8_DecodeRuneInString_ascii Tryz.lays197 s x w h0 hx
def Tryz.lays264_ren : Go.Shelf.Ren := ⟨fun | 264 => 115 | n => n, fun | 53 => 56 | 46 => 66 | n => n, fun | n => n⟩
theorem Tryz.lays264 : Go.Proofs.Lays.n264 Tryz.prog Tryz.lays264_ren := {
  mixed := by kernel_rfl
  f264 := Tryz.func115.trans (congrArg some (by kernel_rfl))
  t46 := Tryz.underlying66
  a46 := Tryz.isAgg66
  z46 := Tryz.sizeOf66
  v46 := Tryz.zeroValue66
  t53 := Tryz.underlying56
  a53 := Tryz.isAgg56
  z53 := Tryz.sizeOf56
  v53 := Tryz.zeroValue56 }
open Go.RowKit Go.Lib in
theorem Tryz.bits_Mul64 (x y : Nat) (hx : x < 18446744073709551616) (hy : y < 18446744073709551616) (w : World) :
    Calls Tryz.prog 115 #[.int .u64 x, .int .u64 y] w fun e w' => e = .returned (.tuple #[.int .u64 ((x * y / 18446744073709551616 : Nat) : Int), .int .u64 ((x * y % 18446744073709551616 : Nat) : Int)]) ∧ w' = w := Any.bits_Mul64 Tryz.lays264 x y hx hy w
def Tryz.lays260_ren : Go.Shelf.Ren := ⟨fun | 260 => 45 | n => n, fun | 9 => 9 | 21 => 21 | 3 => 3 | 4 => 4 | 5 => 5 | 119 => 102 | 0 => 0 | 46 => 66 | 139 => 105 | 138 => 104 | n => n, fun | 3 => 4 | 4 => 5 | n => n⟩
theorem Tryz.lays260 : Go.Proofs.Lays.n260 Tryz.prog Tryz.lays260_ren := {
  mixed := by kernel_rfl
  f260 := Tryz.func45.trans (congrArg some (by kernel_rfl))
  t0 := Tryz.underlying0
  a0 := Tryz.isAgg0
  z0 := Tryz.sizeOf0
  v0 := Tryz.zeroValue0
  t3 := Tryz.underlying3
  a3 := Tryz.isAgg3
  z3 := Tryz.sizeOf3
  v3 := Tryz.zeroValue3
  t4 := Tryz.underlying4
  a4 := Tryz.isAgg4
  z4 := Tryz.sizeOf4
  v4 := Tryz.zeroValue4
  t5 := Tryz.underlying5
  a5 := Tryz.isAgg5
  z5 := Tryz.sizeOf5
  v5 := Tryz.zeroValue5
  t9 := Tryz.underlying9
  a9 := Tryz.isAgg9
  z9 := Tryz.sizeOf9
  v9 := Tryz.zeroValue9
  t21 := Tryz.underlying21
  a21 := Tryz.isAgg21
  z21 := Tryz.sizeOf21
  v21 := Tryz.zeroValue21
  t46 := Tryz.underlying66
  a46 := Tryz.isAgg66
  z46 := Tryz.sizeOf66
  v46 := Tryz.zeroValue66
  t119 := Tryz.underlying102
  a119 := Tryz.isAgg102
  z119 := Tryz.sizeOf102
  t138 := Tryz.underlying104
  a138 := Tryz.isAgg104
  z138 := Tryz.sizeOf104
  v138 := Tryz.zeroValue104
  t139 := Tryz.underlying105
  a139 := Tryz.isAgg105
  z139 := Tryz.sizeOf105
  v139 := Tryz.zeroValue105
  g3 := by kernel_rfl
  g4 := by kernel_rfl }
open Go.RowKit Go.Lib in
theorem Tryz.utf8_decodeRuneInStringSlow (s : ByteArray) (w : World) (hT : Lib.Utf8Tabs 4 5 w) :
    Calls Tryz.prog 45 #[.string s] w fun e w' => e = .returned (.tuple #[.int .i32 (Lib.decodeGo s).1, .int .i64 (Lib.decodeGo s).2]) ∧ Below w.heap.size w w' := Any.utf8_decodeRuneInStringSlow Tryz.lays260 s w hT
open Go.RowKit Go.Lib in
/-- **unicode/utf8.DecodeRuneInString AT EVERY STRING.** (LAID: no walk: one application.) -/
theorem Tryz.utf8_DecodeRuneInString (s : ByteArray) (w : World) (hT : Lib.Utf8Tabs 4 5 w) :
    Calls Tryz.prog 37 #[.string s] w fun e w' => e = .returned (.tuple #[.int .i32 (Lib.decodeGo s).1, .int .i64 (Lib.decodeGo s).2]) ∧ Below w.heap.size w w' := Any.utf8_DecodeRuneInString Tryz.lays197 s w hT
def Tryz.lays274_ren : Go.Shelf.Ren := ⟨fun | 274 => 46 | n => n, fun | 21 => 21 | 162 => 89 | 160 => 87 | 3 => 3 | 4 => 4 | 46 => 66 | 0 => 0 | 208 => 109 | 51 => 68 | 206 => 107 | n => n, fun | n => n⟩
theorem Tryz.lays274 : Go.Proofs.Lays.n274 Tryz.prog Tryz.lays274_ren := {
  mixed := by kernel_rfl
  f274 := Tryz.func46.trans (congrArg some (by kernel_rfl))
  t0 := Tryz.underlying0
  a0 := Tryz.isAgg0
  z0 := Tryz.sizeOf0
  v0 := Tryz.zeroValue0
  t3 := Tryz.underlying3
  a3 := Tryz.isAgg3
  z3 := Tryz.sizeOf3
  v3 := Tryz.zeroValue3
  t4 := Tryz.underlying4
  a4 := Tryz.isAgg4
  z4 := Tryz.sizeOf4
  v4 := Tryz.zeroValue4
  t21 := Tryz.underlying21
  a21 := Tryz.isAgg21
  z21 := Tryz.sizeOf21
  v21 := Tryz.zeroValue21
  t46 := Tryz.underlying66
  a46 := Tryz.isAgg66
  z46 := Tryz.sizeOf66
  v46 := Tryz.zeroValue66
  t51 := Tryz.underlying68
  a51 := Tryz.isAgg68
  z51 := Tryz.sizeOf68
  v51 := Tryz.zeroValue68
  t160 := Tryz.underlying87
  a160 := Tryz.isAgg87
  z160 := Tryz.sizeOf87
  v160 := Tryz.zeroValue87
  t162 := Tryz.underlying89
  a162 := Tryz.isAgg89
  z162 := Tryz.sizeOf89
  v162 := Tryz.zeroValue89
  t208 := Tryz.underlying109
  a208 := Tryz.isAgg109
  z208 := Tryz.sizeOf109
  v208 := Tryz.zeroValue109 }
open Go.RowKit Go.Lib in
theorem Tryz.unicode_lookupCaseRange (T : Array CaseRow) (R oR cap : Nat) (r : Int) (w : World) (hT : CaseTab R oR T w) (hok : CaseOk T) (hn : T.size ≤ 1000000000) :
    Calls Tryz.prog 46 #[.int .i32 r, .slice (some ⟨R, oR, none⟩) T.size cap] w fun e w' =>
      e = .returned (match lookupIdx T r (T.size + 1) 0 T.size with | some i => .pointer (some ⟨R, oR + i * 5, none⟩) | none => .pointer none) ∧ w' = w := Any.unicode_lookupCaseRange Tryz.lays274 T R oR cap r w hT hok hn
def Tryz.lays275_ren : Go.Shelf.Ren := ⟨fun | 275 => 47 | n => n, fun | 3 => 3 | 21 => 21 | 160 => 87 | 0 => 0 | 208 => 109 | 206 => 107 | 4 => 4 | 51 => 68 | n => n, fun | n => n⟩
theorem Tryz.lays275 : Go.Proofs.Lays.n275 Tryz.prog Tryz.lays275_ren := {
  mixed := by kernel_rfl
  f275 := Tryz.func47.trans (congrArg some (by kernel_rfl))
  t0 := Tryz.underlying0
  a0 := Tryz.isAgg0
  z0 := Tryz.sizeOf0
  v0 := Tryz.zeroValue0
  t3 := Tryz.underlying3
  a3 := Tryz.isAgg3
  z3 := Tryz.sizeOf3
  v3 := Tryz.zeroValue3
  t4 := Tryz.underlying4
  a4 := Tryz.isAgg4
  z4 := Tryz.sizeOf4
  v4 := Tryz.zeroValue4
  t21 := Tryz.underlying21
  a21 := Tryz.isAgg21
  z21 := Tryz.sizeOf21
  v21 := Tryz.zeroValue21
  t51 := Tryz.underlying68
  a51 := Tryz.isAgg68
  z51 := Tryz.sizeOf68
  v51 := Tryz.zeroValue68
  t160 := Tryz.underlying87
  a160 := Tryz.isAgg87
  z160 := Tryz.sizeOf87
  v160 := Tryz.zeroValue87
  t206 := Tryz.underlying107
  a206 := Tryz.isAgg107
  z206 := Tryz.sizeOf107
  v206 := Tryz.zeroValue107
  t208 := Tryz.underlying109
  a208 := Tryz.isAgg109
  z208 := Tryz.sizeOf109
  v208 := Tryz.zeroValue109 }
open Go.RowKit Go.Lib in
theorem Tryz.unicode_convertCase (c : Nat) (hc : c < 3) (r : Int) (A o : Nat) (x : CaseRow) (w : World) (hlo : (x.1 : Int) ≤ r) (hhi : r ≤ (x.2.1 : Int)) (hH : x.2.1 < 2147483647) (c0 : w.cell? ⟨A, o, none⟩ = some (.int .u32 x.1)) (cD : w.cell? ⟨A, o + 2 + c, none⟩ = some (.int .i32 (x.delta c))) :
    Calls Tryz.prog 47 #[.int .i64 c, .int .i32 r, .pointer (some ⟨A, o, none⟩)] w fun e w' => e = .returned (.int .i32 (wrap32 (convertR c r x))) ∧ ∃ q, w' = w.drewN q := Any.unicode_convertCase Tryz.lays275 c hc r A o x w hlo hhi hH c0 cD
def Tryz.laysNm216_ren : Go.Shelf.Ren := ⟨fun | 16 => 33 | n => n, fun | 24 => 24 | 9 => 9 | 4 => 4 | n => n, fun | n => n⟩
theorem Tryz.laysNm216 : Go.Proofs.Lays2.n16 Tryz.prog Tryz.laysNm216_ren := {
  mixed := by kernel_rfl
  f16 := Tryz.func33.trans (congrArg some (by kernel_rfl))
  t4 := Tryz.underlying4
  a4 := Tryz.isAgg4
  z4 := Tryz.sizeOf4
  v4 := Tryz.zeroValue4
  t9 := Tryz.underlying9
  a9 := Tryz.isAgg9
  z9 := Tryz.sizeOf9
  v9 := Tryz.zeroValue9
  t24 := Tryz.underlying24
  a24 := Tryz.isAgg24
  z24 := Tryz.sizeOf24
  v24 := Tryz.zeroValue24
  i9 := by kernel_rfl }
open Go.RowKit Go.Lib in
/-- slices.Clone at []string: "Clone returns a copy of the slice. The elements are copied using assignment, so this is a shallow clone. The result may have additional unused capacity. The result preserves the nilness of s.": OF A SLICE THAT IS NOT nil IT RETURNS A SLICE THAT IS NOT nil, OF THE SAME ELEMENTS, IN MEMORY OF THE CALL's OWN: in the how-to's words (6f): 'w'.ownsRow B e 1 v' n cells': v' begins at the head of a row among the blocks from B on (B: the heap's size at the call), not frozen, whose first cells are the elements · 'Below B w w'': below B all is as it was. The capacity is whatever the run-time gives. 'zs': what the cells behind the slice's address hold; 'zs.take n': its elements. (LAID: no walk: one application.) -/
theorem Tryz.slices_Clone_string (b off n c : Nat) (zs : List ByteArray) (w : World) (hz : n ≤ zs.length) (hbig : n * 16 ≤ 140737488355328) (hc : ∀ j, j < zs.length → w.cell? ⟨b, off + j, none⟩ = some (.string (zs.getD j ByteArray.empty))) :
    Calls Tryz.prog 33 #[.slice (some ⟨b, off, none⟩) n c] w fun e w' => ∃ v', e = .returned v' ∧ w'.ownsRow w.heap.size 9 1 v' n ((zs.take n).map (Value.string)) ∧ v' ≠ .slice none 0 0 ∧ Below w.heap.size w w' := Any.slices_Clone_string Tryz.laysNm216 b off n c zs w hz hbig hc
open Go.RowKit Go.Lib in
/-- The same at nil: nil comes back; the world is as it was. (LAID: no walk: one application.) -/
theorem Tryz.slices_Clone_string_nil (n c : Nat) (w : World) :
    Calls Tryz.prog 33 #[.slice none n c] w fun e w' => e = .returned (.slice none 0 0) ∧ w' = w := Any.slices_Clone_string_nil Tryz.laysNm216 n c w
open Go.RowKit Go.Lib in
/-- The same at a slice of length 0 that is not nil, WHATEVER ITS ADDRESS (no cell is asked for): a slice that is not nil and owns nothing comes back. (LAID: no walk: one application.) -/
theorem Tryz.slices_Clone_string_zero (a : Addr) (c : Nat) (w : World) :
    Calls Tryz.prog 33 #[.slice (some a) 0 c] w fun e w' => ∃ v', e = .returned v' ∧ w'.ownsRow w.heap.size 9 1 v' 0 [] ∧ v' ≠ .slice none 0 0 ∧ Below w.heap.size w w' := Any.slices_Clone_string_zero Tryz.laysNm216 a c w
def Tryz.lays194_ren : Go.Shelf.Ren := ⟨fun | 194 => 35 | n => n, fun | 31 => 24 | 9 => 9 | 3 => 3 | 4 => 4 | 0 => 0 | n => n, fun | n => n⟩
theorem Tryz.lays194 : Go.Proofs.Lays.n194 Tryz.prog Tryz.lays194_ren := {
  mixed := by kernel_rfl
  f194 := Tryz.func35.trans (congrArg some (by kernel_rfl))
  t0 := Tryz.underlying0
  a0 := Tryz.isAgg0
  z0 := Tryz.sizeOf0
  v0 := Tryz.zeroValue0
  t3 := Tryz.underlying3
  a3 := Tryz.isAgg3
  z3 := Tryz.sizeOf3
  v3 := Tryz.zeroValue3
  t4 := Tryz.underlying4
  a4 := Tryz.isAgg4
  z4 := Tryz.sizeOf4
  v4 := Tryz.zeroValue4
  t9 := Tryz.underlying9
  a9 := Tryz.isAgg9
  z9 := Tryz.sizeOf9
  v9 := Tryz.zeroValue9
  t31 := Tryz.underlying24
  a31 := Tryz.isAgg24
  z31 := Tryz.sizeOf24
  v31 := Tryz.zeroValue24 }
open Go.RowKit Go.Lib Go.Sort in
/-- slices.Compact at []string, over an array: the library's two loops are walked. (LAID: no walk: one application.) -/
theorem Tryz.slices_Compact_string_arr (blk off cap : Nat) (d : Array (List UInt8)) (w : World) (hH : Holds encStr w blk off d) (hsz : d.size ≤ 9223372036854775807) (hcap : d.size ≤ cap) :
    Calls Tryz.prog 35 #[.slice (some ⟨blk, off, none⟩) d.size cap] w fun e w' => e = .returned (.slice (some ⟨blk, off, none⟩) (compactUpTo d d.size).length cap) ∧ ∃ q, w' = putRow encStr (Sort.ahead w q) blk off (compactUpTo d d.size ++ List.replicate (d.size - (compactUpTo d d.size).length) []).toArray := Any.slices_Compact_string_arr Tryz.lays194 blk off cap d w hH hsz hcap
open Go.RowKit Go.Lib Go.Sort in
/-- slices.Compact at []string: "Compact replaces consecutive runs of equal elements with a single copy. This is like the uniq command found on Unix. Compact modifies the contents of the slice s and returns the modified slice, which may have a smaller length. Compact zeroes the elements between the new length and the original length. The result preserves the nilness of s.": IT RETURNS THE SLICE CUT TO 'Lib.compact zs'; ITS CELLS HOLD 'Lib.compact zs', THEN ZERO VALUES up to the old length; all else is as it was, but for the count of draws. IN THE WORDS OF slices.Sort's CONTRACT ('Holds', 'putRow'): so the everyday 'slices.Sort(xs); xs = slices.Compact(xs)' goes from the one contract to the other. It asks 'zs.length ≤ cap' (every slice's: the reslicing 's[:k]' looks at it). Length 0, nil: '.._empty'. (LAID: no walk: one application.) -/
theorem Tryz.slices_Compact_string (blk off cap : Nat) (zs : List (List UInt8)) (w : World) (hH : Holds encStr w blk off zs.toArray) (hsz : zs.length ≤ 9223372036854775807) (hcap : zs.length ≤ cap) :
    Calls Tryz.prog 35 #[.slice (some ⟨blk, off, none⟩) zs.length cap] w fun e w' => e = .returned (.slice (some ⟨blk, off, none⟩) (Lib.compact zs).length cap) ∧ ∃ q, w' = putRow encStr (Sort.ahead w q) blk off (Lib.compact zs ++ List.replicate (zs.length - (Lib.compact zs).length) []).toArray := Any.slices_Compact_string Tryz.lays194 blk off cap zs w hH hsz hcap
open Go.RowKit Go.Lib Go.Sort in
/-- The same at a slice of length 0, a nil one too: it comes back as it is. (LAID: no walk: one application.) -/
theorem Tryz.slices_Compact_string_empty (a : Option Addr) (cap : Nat) (w : World) :
    Calls Tryz.prog 35 #[.slice a 0 cap] w fun e w' => e = .returned (.slice a 0 cap) ∧ w' = w := Any.slices_Compact_string_empty Tryz.lays194 a cap w
open Go.RowKit Go.Lib Go.Sort in
/-- slices.Compact at []string, of an argument. (LAID: no walk: one application.) -/
theorem Tryz.slices_Compact_string_cells (b off n c : Nat) (Sx : Nat → ByteArray) (w : World) (hbig : n ≤ 9223372036854775807) (hcap : n ≤ c) (hc : ∀ i, i < n → w.cell? ⟨b, off + i, none⟩ = some (.string (Sx i))) (hf : ∀ j, j < n → w.frozen? ⟨b, off + j, none⟩ = false) :
    Calls Tryz.prog 35 #[.slice (some ⟨b, off, none⟩) n c] w fun e w' => e = .returned (.slice (some ⟨b, off, none⟩) (Lib.compact (Lib.strsOf Sx n)).length c) ∧ ∃ q, w' = (w.drewN q).setCells b off ((Lib.compact (Lib.strsOf Sx n) ++ List.replicate (n - (Lib.compact (Lib.strsOf Sx n)).length) []).map encStr) := Any.slices_Compact_string_cells Tryz.lays194 b off n c Sx w hbig hcap hc hf
open Go.RowKit Go.Sort in
/-- .. and plain. (LAID: no walk: one application.) -/
theorem Tryz.slices_Sort_string_none (p : Option Addr) (cap : Nat) (w : World) :
    Calls Tryz.prog 34 #[.slice p 0 cap] w fun e w' => e = .returned (.tuple #[]) ∧ w' = w := Any.slices_Sort_string_none Tryz.lays190 p cap w
def Tryz.laysSlE041_f33_ren : Go.Shelf.Ren := ⟨fun | 41 => 33 | n => n, fun | 22 => 24 | 23 => 9 | 4 => 4 | n => n, fun | n => n⟩
theorem Tryz.laysSlE041_f33 : Go.Proofs.SlLaysE0.n41 Tryz.prog Tryz.laysSlE041_f33_ren := {
  mixed := by kernel_rfl
  f41 := ⟨Tryz.f33.name, by decide, Tryz.func33.trans (congrArg some (by kernel_rfl))⟩
  t4 := Tryz.underlying4
  a4 := Tryz.isAgg4
  z4 := Tryz.sizeOf4
  v4 := Tryz.zeroValue4
  t22 := Tryz.underlying24
  a22 := Tryz.isAgg24
  z22 := Tryz.sizeOf24
  v22 := Tryz.zeroValue24 }
open Go.RowKit Go.Lib in
/-- slices.Clone: "Clone returns a copy of the slice. The elements are copied using assignment, so this is a shallow clone. The result may have additional unused capacity. The result preserves the nilness of s.": OF A SLICE THAT IS NOT nil IT RETURNS A SLICE THAT IS NOT nil, OF THE SAME CELLS, IN MEMORY OF THE CALL's OWN ('ownsRow': the how-to's 6f); below the heap's size at the call all is as it was. (LAID AT THE INSTANCE 'slices.Clone[[]string,string]': no walk: one application.) -/
theorem Tryz.slices_Clone (i0 : TypeInfo) (z : Value) (size bytes : Nat) (hi : Tryz.prog.info? 9 = some i0) (hz0 : i0.zero = some z) (hz1 : i0.size = size) (hz2 : i0.bytes = bytes) (hzs : z.cells.size = size) (hsz : 0 < size) (z23 : ∀ w, (Go.sizeOf 9).run Tryz.prog w = .ok size w) (b off n c : Nat) (news : List Value) (w : World) (hl : news.length = n * size) (hn : n ≤ maxLen) (hbig : n * bytes ≤ 140737488355328) (hc : ∀ j u, news[j]? = some u → w.cell? ⟨b, off + j, none⟩ = some u) (h1 : ∀ u ∈ news, u.oneCell' = true) :
    Calls Tryz.prog 33 #[.slice (some ⟨b, off, none⟩) n c] w fun e w' => ∃ v', e = .returned v' ∧ w'.ownsRow w.heap.size 9 size v' n news ∧ v' ≠ .slice none 0 0 ∧ Below w.heap.size w w' := AnyE.slices_Clone Tryz.laysSlE041_f33 i0 z size bytes hi hz0 hz1 hz2 hzs hsz z23 b off n c news w hl hn hbig hc h1
open Go.RowKit Go.Lib in
/-- The same at nil: nil comes back; the world is as it was; nothing is asked of the element's type. (LAID AT THE INSTANCE 'slices.Clone[[]string,string]': no walk: one application.) -/
theorem Tryz.slices_Clone_nil (n c : Nat) (w : World) :
    Calls Tryz.prog 33 #[.slice none n c] w fun e w' => e = .returned (.slice none 0 0) ∧ w' = w := AnyE.slices_Clone_nil Tryz.laysSlE041_f33 n c w
end Go.Proofs
