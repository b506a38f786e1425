/-
  DERIVED: THE SHELF's CONTRACTS AT THIS DUMP, IN PLAIN WORDS (tools/lay-plain.mjs out of 'YbafShelf.lean', which tools/lay-shelf.mjs wrote): THE SAME DECLARATIONS UNDER THE SAME NAMES: 'import', 'namespace', 'open', 'def', 'theorem' AND NOTHING ELSE: no command of the shelf's: FOR A HAND-IN. Each laying: the table of numbers ('.._ren') and one theorem, a field a fact of the dump's own or the kernel's comparison; each contract: ONE APPLICATION.
-/
import Derived.Shelf.Strconv.Itoa0
import Derived.Shelf.Strconv.Itoa1
import Derived.Shelf.LaysM
import Derived.Shelf.Strconv.Itoa2
import Derived.Shelf.Strconv.Itoa3
import Derived.Shelf.Slices.Equal
import Derived.Ground.Names2Prog
import Derived.Shelf.Slices.Clone
import Derived.Shelf.Slices.Empties2
import Derived.Test.YbulkditiFmtRows
namespace Go.Proofs
open Go.Shelf
/-- The table's name, as the row lists it. -/
def Ybaf.powName : String := YbulkditiFmt.Rows.lawS5494CWholeRow.named.headD ""
def Ybaf.lays129_ren : Go.Shelf.Ren := ⟨fun | 129 => 18 | n => n, fun | 53 => 41 | 3 => 3 | 4 => 4 | 46 => 52 | 5 => 5 | 9 => 9 | n => n, fun | n => n⟩
theorem Ybaf.lays129 : Go.Proofs.Lays.n129 Ybaf.prog Ybaf.lays129_ren := {
  mixed := by kernel_rfl
  f129 := Ybaf.func18.trans (congrArg some (by kernel_rfl))
  t3 := Ybaf.underlying3
  a3 := Ybaf.isAgg3
  z3 := Ybaf.sizeOf3
  v3 := Ybaf.zeroValue3
  t4 := Ybaf.underlying4
  a4 := Ybaf.isAgg4
  z4 := Ybaf.sizeOf4
  v4 := Ybaf.zeroValue4
  t5 := Ybaf.underlying5
  a5 := Ybaf.isAgg5
  z5 := Ybaf.sizeOf5
  v5 := Ybaf.zeroValue5
  t9 := Ybaf.underlying9
  a9 := Ybaf.isAgg9
  z9 := Ybaf.sizeOf9
  v9 := Ybaf.zeroValue9
  t46 := Ybaf.underlying52
  a46 := Ybaf.isAgg52
  z46 := Ybaf.sizeOf52
  v46 := Ybaf.zeroValue52
  t53 := Ybaf.underlying41
  a53 := Ybaf.isAgg41
  z53 := Ybaf.sizeOf41
  v53 := Ybaf.zeroValue41 }
/-- bits.Len64: "Len64 returns the minimum number of bits required to represent x; the result is 0 for x == 0.": IT RETURNS 'Lib.bitLen x'; the world is as it was. ('h0', 'h1': x is a uint64.) (LAID: no walk: one application.) -/
theorem Ybaf.bits_Len64 (x : Int) (w : World) (h0 : 0 ≤ x) (h1 : x ≤ 18446744073709551615) :
    Calls Ybaf.prog 18 #[.int .u64 x] w fun e w' => e = .returned (.int .i64 (Lib.bitLen x.toNat)) ∧ w' = w := Any.bits_Len64 Ybaf.lays129 x w h0 h1
def Ybaf.lays317_ren : Go.Shelf.Ren := ⟨fun | 317 => 17 | n => n, fun | 3 => 3 | 46 => 52 | n => n, fun | n => n⟩
theorem Ybaf.lays317 : Go.Proofs.Lays.n317 Ybaf.prog Ybaf.lays317_ren := {
  mixed := by kernel_rfl
  f317 := Ybaf.func17.trans (congrArg some (by kernel_rfl))
  t3 := Ybaf.underlying3
  a3 := Ybaf.isAgg3
  z3 := Ybaf.sizeOf3
  v3 := Ybaf.zeroValue3
  t46 := Ybaf.underlying52
  a46 := Ybaf.isAgg52
  z46 := Ybaf.sizeOf52
  v46 := Ybaf.zeroValue52 }
open Go.Lib in
/-- internal/strconv.log10Pow2: "log10Pow2(x) returns ⌊log₁₀ 2**x⌋ = ⌊x * log₁₀ 2⌋.": '(x * 78913) >> 18', at an x up to 64 (a length in bits). The world is as it was. (LAID: no walk: one application.) -/
theorem Ybaf.internal_strconv_log10Pow2 (x : Nat) (h : x ≤ 64) (w : World) :
    Calls Ybaf.prog 17 #[.int .i64 x] w fun e w' => e = .returned (.int .i64 (Lib.l10 x)) ∧ w' = w := Any.internal_strconv_log10Pow2 Ybaf.lays317 x h w
def Ybaf.lays318_ren : Go.Shelf.Ren := ⟨fun | 318 => 19 | n => n, fun | 3 => 3 | 4 => 4 | n => n, fun | n => n⟩
theorem Ybaf.lays318 : Go.Proofs.Lays.n318 Ybaf.prog Ybaf.lays318_ren := {
  mixed := by kernel_rfl
  f318 := Ybaf.func19.trans (congrArg some (by kernel_rfl))
  t3 := Ybaf.underlying3
  a3 := Ybaf.isAgg3
  z3 := Ybaf.sizeOf3
  v3 := Ybaf.zeroValue3
  t4 := Ybaf.underlying4
  a4 := Ybaf.isAgg4
  z4 := Ybaf.sizeOf4
  v4 := Ybaf.zeroValue4 }
open Go.Lib in
/-- internal/strconv.bool2: "bool2 converts b to an integer: 1 for true, 0 for false." The world is as it was. (LAID: no walk: one application.) -/
theorem Ybaf.internal_strconv_bool2_int (b : Bool) (w : World) :
    Calls Ybaf.prog 19 #[.bool b] w fun e w' => e = .returned (.int .i64 (if b then 1 else 0)) ∧ w' = w := Any.internal_strconv_bool2_int Ybaf.lays318 b w
def Ybaf.lays283_ren : Go.Shelf.Ren := ⟨fun | 283 => 13 | n => n, fun | 3 => 3 | 9 => 9 | 4 => 4 | n => n, fun | n => n⟩
theorem Ybaf.lays283 : Go.Proofs.Lays.n283 Ybaf.prog Ybaf.lays283_ren := {
  mixed := by kernel_rfl
  f283 := Ybaf.func13.trans (congrArg some (by kernel_rfl))
  t3 := Ybaf.underlying3
  a3 := Ybaf.isAgg3
  z3 := Ybaf.sizeOf3
  v3 := Ybaf.zeroValue3
  t4 := Ybaf.underlying4
  a4 := Ybaf.isAgg4
  z4 := Ybaf.sizeOf4
  v4 := Ybaf.zeroValue4
  t9 := Ybaf.underlying9
  a9 := Ybaf.isAgg9
  z9 := Ybaf.sizeOf9
  v9 := Ybaf.zeroValue9 }
open Go.Lib in
/-- internal/strconv.small: "small returns the string for an i with 0 <= i < nSmalls.": i's decimal numeral. The world is as it was. (LAID: no walk: one application.) -/
theorem Ybaf.internal_strconv_small (i : Nat) (h : i < 100) (w : World) :
    Calls Ybaf.prog 13 #[.int .i64 i] w fun e w' => e = .returned (.string ⟨(Lib.decDigits i).toArray⟩) ∧ w' = w := Any.internal_strconv_small Ybaf.lays283 i h w
def Ybaf.laysM284_ren : Go.Shelf.Ren := ⟨fun | 284 => 14 | 129 => 18 | 317 => 17 | 318 => 19 | n => n, fun | 53 => 41 | 3 => 3 | 212 => 48 | 0 => 0 | 4 => 4 | 46 => 52 | 5 => 5 | 9 => 9 | n => n, fun | 17 => 0 | n => n⟩
theorem Ybaf.laysM284 : Go.Proofs.LaysM.n284 Ybaf.prog Ybaf.laysM284_ren := {
  mixed := by kernel_rfl
  f129 := Ybaf.func18.trans (congrArg some (by kernel_rfl))
  f284 := Ybaf.func14.trans (congrArg some (by kernel_rfl))
  f317 := Ybaf.func17.trans (congrArg some (by kernel_rfl))
  f318 := Ybaf.func19.trans (congrArg some (by kernel_rfl))
  t0 := Ybaf.underlying0
  a0 := Ybaf.isAgg0
  z0 := Ybaf.sizeOf0
  v0 := Ybaf.zeroValue0
  t3 := Ybaf.underlying3
  a3 := Ybaf.isAgg3
  z3 := Ybaf.sizeOf3
  v3 := Ybaf.zeroValue3
  t4 := Ybaf.underlying4
  a4 := Ybaf.isAgg4
  z4 := Ybaf.sizeOf4
  v4 := Ybaf.zeroValue4
  t5 := Ybaf.underlying5
  a5 := Ybaf.isAgg5
  z5 := Ybaf.sizeOf5
  v5 := Ybaf.zeroValue5
  t9 := Ybaf.underlying9
  a9 := Ybaf.isAgg9
  z9 := Ybaf.sizeOf9
  v9 := Ybaf.zeroValue9
  t46 := Ybaf.underlying52
  a46 := Ybaf.isAgg52
  z46 := Ybaf.sizeOf52
  v46 := Ybaf.zeroValue52
  t53 := Ybaf.underlying41
  a53 := Ybaf.isAgg41
  z53 := Ybaf.sizeOf41
  v53 := Ybaf.zeroValue41
  t212 := Ybaf.underlying48
  a212 := Ybaf.isAgg48
  z212 := Ybaf.sizeOf48
  v212 := Ybaf.zeroValue48
  g17 := by kernel_rfl
  i0 := by kernel_rfl
  i3 := by kernel_rfl
  i4 := by kernel_rfl
  i5 := by kernel_rfl
  i9 := by kernel_rfl
  i46 := by kernel_rfl
  i53 := by kernel_rfl
  i212 := by kernel_rfl
  m17 := by kernel_rfl }
open Go.Lib in
/-- internal/strconv.numDigits, at a d that is not 0: THE NUMBER OF d's DECIMAL DIGITS. The world is as it was. (LAID: no walk: one application.) -/
theorem Ybaf.internal_strconv_numDigits (u : Nat) (h1 : 1 ≤ u) (h2 : u < 18446744073709551616) (w : World) (htab : Lib.TabIs Ybaf.prog w Ybaf.powName .u64 Lib.pow10Tab) :
    Calls Ybaf.prog 14 #[.int .u64 u] w fun e w' => e = .returned (.int .i64 (Lib.nDigits u)) ∧ w' = w := Any.internal_strconv_numDigits Ybaf.laysM284 u h1 h2 w htab
def Ybaf.lays285_ren : Go.Shelf.Ren := ⟨fun | 285 => 15 | n => n, fun | 37 => 38 | 53 => 41 | 3 => 3 | 4 => 4 | 51 => 49 | 9 => 9 | 5 => 5 | 0 => 0 | n => n, fun | n => n⟩
theorem Ybaf.lays285 : Go.Proofs.Lays.n285 Ybaf.prog Ybaf.lays285_ren := {
  mixed := by kernel_rfl
  f285 := Ybaf.func15.trans (congrArg some (by kernel_rfl))
  t0 := Ybaf.underlying0
  a0 := Ybaf.isAgg0
  z0 := Ybaf.sizeOf0
  v0 := Ybaf.zeroValue0
  t3 := Ybaf.underlying3
  a3 := Ybaf.isAgg3
  z3 := Ybaf.sizeOf3
  v3 := Ybaf.zeroValue3
  t4 := Ybaf.underlying4
  a4 := Ybaf.isAgg4
  z4 := Ybaf.sizeOf4
  v4 := Ybaf.zeroValue4
  t5 := Ybaf.underlying5
  a5 := Ybaf.isAgg5
  z5 := Ybaf.sizeOf5
  v5 := Ybaf.zeroValue5
  t9 := Ybaf.underlying9
  a9 := Ybaf.isAgg9
  z9 := Ybaf.sizeOf9
  v9 := Ybaf.zeroValue9
  t37 := Ybaf.underlying38
  a37 := Ybaf.isAgg38
  z37 := Ybaf.sizeOf38
  v37 := Ybaf.zeroValue38
  t51 := Ybaf.underlying49
  a51 := Ybaf.isAgg49
  z51 := Ybaf.sizeOf49
  v51 := Ybaf.zeroValue49
  t53 := Ybaf.underlying41
  a53 := Ybaf.isAgg41
  z53 := Ybaf.sizeOf41
  v53 := Ybaf.zeroValue41 }
open Go.RowKit Go.Sort Go.Lib in
/-- internal/strconv.formatBase10: "formatBase10 formats the decimal representation of u into a. The caller is responsible for ensuring that a is big enough to hold u. If a is too big, leading zeros will be filled in as needed.": THE ROW HOLDS u's DIGITS ('FmtInv .. 0 ..': every place t holds 'dg u (len - 1 - t)'); all else is as it was but for the count of draws. (LAID: no walk: one application.) -/
theorem Ybaf.internal_strconv_formatBase10 (blk off cap : Nat) (u : Nat) (d : Array UInt8) (w : World) (hH : Holds (fun (b : UInt8) => Value.int .u8 (b.toNat : Int)) w blk off d) (hu : u < 10 ^ d.size) (hu64 : u < 18446744073709551616) (hsz : d.size < 4611686018427387904) :
    Calls Ybaf.prog 15 #[.slice (some ⟨blk, off, none⟩) d.size cap, .int .u64 u] w fun e w' =>
      e = .returned (.tuple #[]) ∧ ∃ (n v' : Nat) (dk : Array UInt8), w' = (putRow (fun (b : UInt8) => Value.int .u8 (b.toNat : Int)) w blk off dk).drewN n ∧ FmtInv d.size u 0 v' dk := Any.internal_strconv_formatBase10 Ybaf.lays285 blk off cap u d w hH hu hu64 hsz
def Ybaf.laysM246_ren : Go.Shelf.Ren := ⟨fun | 246 => 12 | 283 => 13 | 284 => 14 | 285 => 15 | 286 => 16 | 129 => 18 | 317 => 17 | 318 => 19 | 319 => 20 | 320 => 21 | 337 => 22 | 338 => 23 | n => n, fun | 2 => 2 | 3 => 3 | 9 => 9 | 4 => 4 | 171 => 40 | 0 => 0 | 53 => 41 | 37 => 38 | 5 => 5 | 173 => 44 | 212 => 48 | 51 => 49 | 20 => 20 | 213 => 50 | 46 => 52 | 232 => 55 | 233 => 56 | n => n, fun | 17 => 0 | 18 => 1 | 19 => 2 | n => n⟩
theorem Ybaf.laysM246 : Go.Proofs.LaysM.n246 Ybaf.prog Ybaf.laysM246_ren := {
  mixed := by kernel_rfl
  f129 := Ybaf.func18.trans (congrArg some (by kernel_rfl))
  f246 := Ybaf.func12.trans (congrArg some (by kernel_rfl))
  f283 := Ybaf.func13.trans (congrArg some (by kernel_rfl))
  f284 := Ybaf.func14.trans (congrArg some (by kernel_rfl))
  f285 := Ybaf.func15.trans (congrArg some (by kernel_rfl))
  f286 := Ybaf.func16.trans (congrArg some (by kernel_rfl))
  f317 := Ybaf.func17.trans (congrArg some (by kernel_rfl))
  f318 := Ybaf.func19.trans (congrArg some (by kernel_rfl))
  f319 := Ybaf.func20.trans (congrArg some (by kernel_rfl))
  f320 := Ybaf.func21.trans (congrArg some (by kernel_rfl))
  f337 := Ybaf.func22.trans (congrArg some (by kernel_rfl))
  f338 := Ybaf.func23.trans (congrArg some (by kernel_rfl))
  t0 := Ybaf.underlying0
  a0 := Ybaf.isAgg0
  z0 := Ybaf.sizeOf0
  v0 := Ybaf.zeroValue0
  t2 := Ybaf.underlying2
  a2 := Ybaf.isAgg2
  z2 := Ybaf.sizeOf2
  v2 := Ybaf.zeroValue2
  t3 := Ybaf.underlying3
  a3 := Ybaf.isAgg3
  z3 := Ybaf.sizeOf3
  v3 := Ybaf.zeroValue3
  t4 := Ybaf.underlying4
  a4 := Ybaf.isAgg4
  z4 := Ybaf.sizeOf4
  v4 := Ybaf.zeroValue4
  t5 := Ybaf.underlying5
  a5 := Ybaf.isAgg5
  z5 := Ybaf.sizeOf5
  v5 := Ybaf.zeroValue5
  t9 := Ybaf.underlying9
  a9 := Ybaf.isAgg9
  z9 := Ybaf.sizeOf9
  v9 := Ybaf.zeroValue9
  t20 := Ybaf.underlying20
  a20 := Ybaf.isAgg20
  z20 := Ybaf.sizeOf20
  v20 := Ybaf.zeroValue20
  t37 := Ybaf.underlying38
  a37 := Ybaf.isAgg38
  z37 := Ybaf.sizeOf38
  v37 := Ybaf.zeroValue38
  t46 := Ybaf.underlying52
  a46 := Ybaf.isAgg52
  z46 := Ybaf.sizeOf52
  v46 := Ybaf.zeroValue52
  t51 := Ybaf.underlying49
  a51 := Ybaf.isAgg49
  z51 := Ybaf.sizeOf49
  v51 := Ybaf.zeroValue49
  t53 := Ybaf.underlying41
  a53 := Ybaf.isAgg41
  z53 := Ybaf.sizeOf41
  v53 := Ybaf.zeroValue41
  t171 := Ybaf.underlying40
  a171 := Ybaf.isAgg40
  z171 := Ybaf.sizeOf40
  v171 := Ybaf.zeroValue40
  t173 := Ybaf.underlying44
  a173 := Ybaf.isAgg44
  z173 := Ybaf.sizeOf44
  v173 := Ybaf.zeroValue44
  t212 := Ybaf.underlying48
  a212 := Ybaf.isAgg48
  z212 := Ybaf.sizeOf48
  v212 := Ybaf.zeroValue48
  t213 := Ybaf.underlying50
  a213 := Ybaf.isAgg50
  z213 := Ybaf.sizeOf50
  t232 := Ybaf.underlying55
  a232 := Ybaf.isAgg55
  z232 := Ybaf.sizeOf55
  v232 := Ybaf.zeroValue55
  t233 := Ybaf.underlying56
  a233 := Ybaf.isAgg56
  z233 := Ybaf.sizeOf56
  v233 := Ybaf.zeroValue56
  g17 := by kernel_rfl
  g18 := by kernel_rfl
  g19 := by kernel_rfl
  i0 := by kernel_rfl
  i2 := by kernel_rfl
  i3 := by kernel_rfl
  i4 := by kernel_rfl
  i5 := by kernel_rfl
  i9 := by kernel_rfl
  i20 := by kernel_rfl
  i37 := by kernel_rfl
  i46 := by kernel_rfl
  i51 := by kernel_rfl
  i53 := by kernel_rfl
  i171 := by kernel_rfl
  i173 := by kernel_rfl
  i212 := by kernel_rfl
  i232 := by kernel_rfl
  i233 := by kernel_rfl
  m17 := by kernel_rfl
  m18 := by kernel_rfl
  m19 := by kernel_rfl }
open Go.RowKit Go.Sort Go.Lib in
/-- internal/strconv.FormatInt: "FormatInt returns the string representation of i in the given base": AT BASE 10: i's decimal numeral, for every int64. The world behind the call: the world before it, new blocks behind the heap, draws. (LAID: no walk: one application.) -/
theorem Ybaf.internal_strconv_FormatInt_10 (n : Int) (h0 : -9223372036854775808 ≤ n) (h1 : n ≤ 9223372036854775807) (w : World) (htab : Lib.TabIs Ybaf.prog w Ybaf.powName .u64 Lib.pow10Tab) :
    Calls Ybaf.prog 12 #[.int .i64 n, .int .i64 10] w fun e w' => e = .returned (.string ⟨(Lib.itoa n).toArray⟩) ∧ ∃ k os, w' = grow (w.drewN k) os := Any.internal_strconv_FormatInt_10 Ybaf.laysM246 n h0 h1 w htab
def Ybaf.lays246_ren : Go.Shelf.Ren := ⟨fun | 246 => 12 | 283 => 13 | 284 => 14 | 285 => 15 | 286 => 16 | 129 => 18 | 317 => 17 | 318 => 19 | 319 => 20 | 320 => 21 | 337 => 22 | 338 => 23 | n => n, fun | 2 => 2 | 3 => 3 | 9 => 9 | 4 => 4 | 171 => 40 | 0 => 0 | 53 => 41 | 37 => 38 | 5 => 5 | 173 => 44 | 212 => 48 | 51 => 49 | 20 => 20 | 213 => 50 | 46 => 52 | 232 => 55 | 233 => 56 | n => n, fun | 17 => 0 | 18 => 1 | 19 => 2 | n => n⟩
theorem Ybaf.lays246 : Go.Proofs.Lays.n246 Ybaf.prog Ybaf.lays246_ren := {
  mixed := by kernel_rfl
  f129 := Ybaf.func18.trans (congrArg some (by kernel_rfl))
  f246 := Ybaf.func12.trans (congrArg some (by kernel_rfl))
  f283 := Ybaf.func13.trans (congrArg some (by kernel_rfl))
  f284 := Ybaf.func14.trans (congrArg some (by kernel_rfl))
  f285 := Ybaf.func15.trans (congrArg some (by kernel_rfl))
  f286 := Ybaf.func16.trans (congrArg some (by kernel_rfl))
  f317 := Ybaf.func17.trans (congrArg some (by kernel_rfl))
  f318 := Ybaf.func19.trans (congrArg some (by kernel_rfl))
  f319 := Ybaf.func20.trans (congrArg some (by kernel_rfl))
  f320 := Ybaf.func21.trans (congrArg some (by kernel_rfl))
  f337 := Ybaf.func22.trans (congrArg some (by kernel_rfl))
  f338 := Ybaf.func23.trans (congrArg some (by kernel_rfl))
  t0 := Ybaf.underlying0
  a0 := Ybaf.isAgg0
  z0 := Ybaf.sizeOf0
  v0 := Ybaf.zeroValue0
  t2 := Ybaf.underlying2
  a2 := Ybaf.isAgg2
  z2 := Ybaf.sizeOf2
  v2 := Ybaf.zeroValue2
  t3 := Ybaf.underlying3
  a3 := Ybaf.isAgg3
  z3 := Ybaf.sizeOf3
  v3 := Ybaf.zeroValue3
  t4 := Ybaf.underlying4
  a4 := Ybaf.isAgg4
  z4 := Ybaf.sizeOf4
  v4 := Ybaf.zeroValue4
  t5 := Ybaf.underlying5
  a5 := Ybaf.isAgg5
  z5 := Ybaf.sizeOf5
  v5 := Ybaf.zeroValue5
  t9 := Ybaf.underlying9
  a9 := Ybaf.isAgg9
  z9 := Ybaf.sizeOf9
  v9 := Ybaf.zeroValue9
  t20 := Ybaf.underlying20
  a20 := Ybaf.isAgg20
  z20 := Ybaf.sizeOf20
  v20 := Ybaf.zeroValue20
  t37 := Ybaf.underlying38
  a37 := Ybaf.isAgg38
  z37 := Ybaf.sizeOf38
  v37 := Ybaf.zeroValue38
  t46 := Ybaf.underlying52
  a46 := Ybaf.isAgg52
  z46 := Ybaf.sizeOf52
  v46 := Ybaf.zeroValue52
  t51 := Ybaf.underlying49
  a51 := Ybaf.isAgg49
  z51 := Ybaf.sizeOf49
  v51 := Ybaf.zeroValue49
  t53 := Ybaf.underlying41
  a53 := Ybaf.isAgg41
  z53 := Ybaf.sizeOf41
  v53 := Ybaf.zeroValue41
  t171 := Ybaf.underlying40
  a171 := Ybaf.isAgg40
  z171 := Ybaf.sizeOf40
  v171 := Ybaf.zeroValue40
  t173 := Ybaf.underlying44
  a173 := Ybaf.isAgg44
  z173 := Ybaf.sizeOf44
  v173 := Ybaf.zeroValue44
  t212 := Ybaf.underlying48
  a212 := Ybaf.isAgg48
  z212 := Ybaf.sizeOf48
  v212 := Ybaf.zeroValue48
  t213 := Ybaf.underlying50
  a213 := Ybaf.isAgg50
  z213 := Ybaf.sizeOf50
  t232 := Ybaf.underlying55
  a232 := Ybaf.isAgg55
  z232 := Ybaf.sizeOf55
  v232 := Ybaf.zeroValue55
  t233 := Ybaf.underlying56
  a233 := Ybaf.isAgg56
  z233 := Ybaf.sizeOf56
  v233 := Ybaf.zeroValue56
  g17 := by kernel_rfl
  g18 := by kernel_rfl
  g19 := by kernel_rfl }
open Go.RowKit Go.Sort Go.Lib in
/-- THE ROAD WITHOUT THE TABLE: 0 <= i < 100: two constants are read, nothing is laid: no premise on the world, and the world is as it was. (LAID: no walk: one application.) -/
theorem Ybaf.internal_strconv_FormatInt_10_small (i : Nat) (hi : i < 100) (w : World) :
    Calls Ybaf.prog 12 #[.int .i64 i, .int .i64 10] w fun e w' => e = .returned (.string ⟨(Lib.decDigits i).toArray⟩) ∧ w' = w := Any.internal_strconv_FormatInt_10_small Ybaf.lays246 i hi w
def Ybaf.laysM243_ren : Go.Shelf.Ren := ⟨fun | 243 => 11 | 246 => 12 | 283 => 13 | 284 => 14 | 285 => 15 | 286 => 16 | 129 => 18 | 317 => 17 | 318 => 19 | 319 => 20 | 320 => 21 | 337 => 22 | 338 => 23 | n => n, fun | 3 => 3 | 9 => 9 | 2 => 2 | 4 => 4 | 171 => 40 | 0 => 0 | 53 => 41 | 37 => 38 | 5 => 5 | 173 => 44 | 212 => 48 | 51 => 49 | 20 => 20 | 213 => 50 | 46 => 52 | 232 => 55 | 233 => 56 | n => n, fun | 17 => 0 | 18 => 1 | 19 => 2 | n => n⟩
theorem Ybaf.laysM243 : Go.Proofs.LaysM.n243 Ybaf.prog Ybaf.laysM243_ren := {
  mixed := by kernel_rfl
  f129 := Ybaf.func18.trans (congrArg some (by kernel_rfl))
  f243 := Ybaf.func11.trans (congrArg some (by kernel_rfl))
  f246 := Ybaf.func12.trans (congrArg some (by kernel_rfl))
  f283 := Ybaf.func13.trans (congrArg some (by kernel_rfl))
  f284 := Ybaf.func14.trans (congrArg some (by kernel_rfl))
  f285 := Ybaf.func15.trans (congrArg some (by kernel_rfl))
  f286 := Ybaf.func16.trans (congrArg some (by kernel_rfl))
  f317 := Ybaf.func17.trans (congrArg some (by kernel_rfl))
  f318 := Ybaf.func19.trans (congrArg some (by kernel_rfl))
  f319 := Ybaf.func20.trans (congrArg some (by kernel_rfl))
  f320 := Ybaf.func21.trans (congrArg some (by kernel_rfl))
  f337 := Ybaf.func22.trans (congrArg some (by kernel_rfl))
  f338 := Ybaf.func23.trans (congrArg some (by kernel_rfl))
  t0 := Ybaf.underlying0
  a0 := Ybaf.isAgg0
  z0 := Ybaf.sizeOf0
  v0 := Ybaf.zeroValue0
  t2 := Ybaf.underlying2
  a2 := Ybaf.isAgg2
  z2 := Ybaf.sizeOf2
  v2 := Ybaf.zeroValue2
  t3 := Ybaf.underlying3
  a3 := Ybaf.isAgg3
  z3 := Ybaf.sizeOf3
  v3 := Ybaf.zeroValue3
  t4 := Ybaf.underlying4
  a4 := Ybaf.isAgg4
  z4 := Ybaf.sizeOf4
  v4 := Ybaf.zeroValue4
  t5 := Ybaf.underlying5
  a5 := Ybaf.isAgg5
  z5 := Ybaf.sizeOf5
  v5 := Ybaf.zeroValue5
  t9 := Ybaf.underlying9
  a9 := Ybaf.isAgg9
  z9 := Ybaf.sizeOf9
  v9 := Ybaf.zeroValue9
  t20 := Ybaf.underlying20
  a20 := Ybaf.isAgg20
  z20 := Ybaf.sizeOf20
  v20 := Ybaf.zeroValue20
  t37 := Ybaf.underlying38
  a37 := Ybaf.isAgg38
  z37 := Ybaf.sizeOf38
  v37 := Ybaf.zeroValue38
  t46 := Ybaf.underlying52
  a46 := Ybaf.isAgg52
  z46 := Ybaf.sizeOf52
  v46 := Ybaf.zeroValue52
  t51 := Ybaf.underlying49
  a51 := Ybaf.isAgg49
  z51 := Ybaf.sizeOf49
  v51 := Ybaf.zeroValue49
  t53 := Ybaf.underlying41
  a53 := Ybaf.isAgg41
  z53 := Ybaf.sizeOf41
  v53 := Ybaf.zeroValue41
  t171 := Ybaf.underlying40
  a171 := Ybaf.isAgg40
  z171 := Ybaf.sizeOf40
  v171 := Ybaf.zeroValue40
  t173 := Ybaf.underlying44
  a173 := Ybaf.isAgg44
  z173 := Ybaf.sizeOf44
  v173 := Ybaf.zeroValue44
  t212 := Ybaf.underlying48
  a212 := Ybaf.isAgg48
  z212 := Ybaf.sizeOf48
  v212 := Ybaf.zeroValue48
  t213 := Ybaf.underlying50
  a213 := Ybaf.isAgg50
  z213 := Ybaf.sizeOf50
  t232 := Ybaf.underlying55
  a232 := Ybaf.isAgg55
  z232 := Ybaf.sizeOf55
  v232 := Ybaf.zeroValue55
  t233 := Ybaf.underlying56
  a233 := Ybaf.isAgg56
  z233 := Ybaf.sizeOf56
  v233 := Ybaf.zeroValue56
  g17 := by kernel_rfl
  g18 := by kernel_rfl
  g19 := by kernel_rfl
  i0 := by kernel_rfl
  i2 := by kernel_rfl
  i3 := by kernel_rfl
  i4 := by kernel_rfl
  i5 := by kernel_rfl
  i9 := by kernel_rfl
  i20 := by kernel_rfl
  i37 := by kernel_rfl
  i46 := by kernel_rfl
  i51 := by kernel_rfl
  i53 := by kernel_rfl
  i171 := by kernel_rfl
  i173 := by kernel_rfl
  i212 := by kernel_rfl
  i232 := by kernel_rfl
  i233 := by kernel_rfl
  m17 := by kernel_rfl
  m18 := by kernel_rfl
  m19 := by kernel_rfl }
open Go.RowKit Go.Sort Go.Lib in
/-- internal/strconv.Itoa: "Itoa is equivalent to FormatInt(int64(i), 10).": i's decimal numeral, for every int. (LAID: no walk: one application.) -/
theorem Ybaf.internal_strconv_Itoa (n : Int) (h0 : -9223372036854775808 ≤ n) (h1 : n ≤ 9223372036854775807) (w : World) (htab : Lib.TabIs Ybaf.prog w Ybaf.powName .u64 Lib.pow10Tab) :
    Calls Ybaf.prog 11 #[.int .i64 n] w fun e w' => e = .returned (.string ⟨(Lib.itoa n).toArray⟩) ∧ ∃ k os, w' = grow (w.drewN k) os := Any.internal_strconv_Itoa Ybaf.laysM243 n h0 h1 w htab
def Ybaf.lays243_ren : Go.Shelf.Ren := ⟨fun | 243 => 11 | 246 => 12 | 283 => 13 | 284 => 14 | 285 => 15 | 286 => 16 | 129 => 18 | 317 => 17 | 318 => 19 | 319 => 20 | 320 => 21 | 337 => 22 | 338 => 23 | n => n, fun | 3 => 3 | 9 => 9 | 2 => 2 | 4 => 4 | 171 => 40 | 0 => 0 | 53 => 41 | 37 => 38 | 5 => 5 | 173 => 44 | 212 => 48 | 51 => 49 | 20 => 20 | 213 => 50 | 46 => 52 | 232 => 55 | 233 => 56 | n => n, fun | 17 => 0 | 18 => 1 | 19 => 2 | n => n⟩
theorem Ybaf.lays243 : Go.Proofs.Lays.n243 Ybaf.prog Ybaf.lays243_ren := {
  mixed := by kernel_rfl
  f129 := Ybaf.func18.trans (congrArg some (by kernel_rfl))
  f243 := Ybaf.func11.trans (congrArg some (by kernel_rfl))
  f246 := Ybaf.func12.trans (congrArg some (by kernel_rfl))
  f283 := Ybaf.func13.trans (congrArg some (by kernel_rfl))
  f284 := Ybaf.func14.trans (congrArg some (by kernel_rfl))
  f285 := Ybaf.func15.trans (congrArg some (by kernel_rfl))
  f286 := Ybaf.func16.trans (congrArg some (by kernel_rfl))
  f317 := Ybaf.func17.trans (congrArg some (by kernel_rfl))
  f318 := Ybaf.func19.trans (congrArg some (by kernel_rfl))
  f319 := Ybaf.func20.trans (congrArg some (by kernel_rfl))
  f320 := Ybaf.func21.trans (congrArg some (by kernel_rfl))
  f337 := Ybaf.func22.trans (congrArg some (by kernel_rfl))
  f338 := Ybaf.func23.trans (congrArg some (by kernel_rfl))
  t0 := Ybaf.underlying0
  a0 := Ybaf.isAgg0
  z0 := Ybaf.sizeOf0
  v0 := Ybaf.zeroValue0
  t2 := Ybaf.underlying2
  a2 := Ybaf.isAgg2
  z2 := Ybaf.sizeOf2
  v2 := Ybaf.zeroValue2
  t3 := Ybaf.underlying3
  a3 := Ybaf.isAgg3
  z3 := Ybaf.sizeOf3
  v3 := Ybaf.zeroValue3
  t4 := Ybaf.underlying4
  a4 := Ybaf.isAgg4
  z4 := Ybaf.sizeOf4
  v4 := Ybaf.zeroValue4
  t5 := Ybaf.underlying5
  a5 := Ybaf.isAgg5
  z5 := Ybaf.sizeOf5
  v5 := Ybaf.zeroValue5
  t9 := Ybaf.underlying9
  a9 := Ybaf.isAgg9
  z9 := Ybaf.sizeOf9
  v9 := Ybaf.zeroValue9
  t20 := Ybaf.underlying20
  a20 := Ybaf.isAgg20
  z20 := Ybaf.sizeOf20
  v20 := Ybaf.zeroValue20
  t37 := Ybaf.underlying38
  a37 := Ybaf.isAgg38
  z37 := Ybaf.sizeOf38
  v37 := Ybaf.zeroValue38
  t46 := Ybaf.underlying52
  a46 := Ybaf.isAgg52
  z46 := Ybaf.sizeOf52
  v46 := Ybaf.zeroValue52
  t51 := Ybaf.underlying49
  a51 := Ybaf.isAgg49
  z51 := Ybaf.sizeOf49
  v51 := Ybaf.zeroValue49
  t53 := Ybaf.underlying41
  a53 := Ybaf.isAgg41
  z53 := Ybaf.sizeOf41
  v53 := Ybaf.zeroValue41
  t171 := Ybaf.underlying40
  a171 := Ybaf.isAgg40
  z171 := Ybaf.sizeOf40
  v171 := Ybaf.zeroValue40
  t173 := Ybaf.underlying44
  a173 := Ybaf.isAgg44
  z173 := Ybaf.sizeOf44
  v173 := Ybaf.zeroValue44
  t212 := Ybaf.underlying48
  a212 := Ybaf.isAgg48
  z212 := Ybaf.sizeOf48
  v212 := Ybaf.zeroValue48
  t213 := Ybaf.underlying50
  a213 := Ybaf.isAgg50
  z213 := Ybaf.sizeOf50
  t232 := Ybaf.underlying55
  a232 := Ybaf.isAgg55
  z232 := Ybaf.sizeOf55
  v232 := Ybaf.zeroValue55
  t233 := Ybaf.underlying56
  a233 := Ybaf.isAgg56
  z233 := Ybaf.sizeOf56
  v233 := Ybaf.zeroValue56
  g17 := by kernel_rfl
  g18 := by kernel_rfl
  g19 := by kernel_rfl }
open Go.RowKit Go.Sort Go.Lib in
/-- THE ROAD WITHOUT THE TABLE: 0 <= i < 100. (LAID: no walk: one application.) -/
theorem Ybaf.internal_strconv_Itoa_small (i : Nat) (hi : i < 100) (w : World) :
    Calls Ybaf.prog 11 #[.int .i64 i] w fun e w' => e = .returned (.string ⟨(Lib.decDigits i).toArray⟩) ∧ w' = w := Any.internal_strconv_Itoa_small Ybaf.lays243 i hi w
def Ybaf.laysM171_ren : Go.Shelf.Ren := ⟨fun | 171 => 10 | 243 => 11 | 246 => 12 | 283 => 13 | 284 => 14 | 285 => 15 | 286 => 16 | 129 => 18 | 317 => 17 | 318 => 19 | 319 => 20 | 320 => 21 | 337 => 22 | 338 => 23 | n => n, fun | 3 => 3 | 9 => 9 | 2 => 2 | 4 => 4 | 171 => 40 | 0 => 0 | 53 => 41 | 37 => 38 | 5 => 5 | 173 => 44 | 212 => 48 | 51 => 49 | 20 => 20 | 213 => 50 | 46 => 52 | 232 => 55 | 233 => 56 | n => n, fun | 17 => 0 | 18 => 1 | 19 => 2 | n => n⟩
theorem Ybaf.laysM171 : Go.Proofs.LaysM.n171 Ybaf.prog Ybaf.laysM171_ren := {
  mixed := by kernel_rfl
  f129 := Ybaf.func18.trans (congrArg some (by kernel_rfl))
  f171 := Ybaf.func10.trans (congrArg some (by kernel_rfl))
  f243 := Ybaf.func11.trans (congrArg some (by kernel_rfl))
  f246 := Ybaf.func12.trans (congrArg some (by kernel_rfl))
  f283 := Ybaf.func13.trans (congrArg some (by kernel_rfl))
  f284 := Ybaf.func14.trans (congrArg some (by kernel_rfl))
  f285 := Ybaf.func15.trans (congrArg some (by kernel_rfl))
  f286 := Ybaf.func16.trans (congrArg some (by kernel_rfl))
  f317 := Ybaf.func17.trans (congrArg some (by kernel_rfl))
  f318 := Ybaf.func19.trans (congrArg some (by kernel_rfl))
  f319 := Ybaf.func20.trans (congrArg some (by kernel_rfl))
  f320 := Ybaf.func21.trans (congrArg some (by kernel_rfl))
  f337 := Ybaf.func22.trans (congrArg some (by kernel_rfl))
  f338 := Ybaf.func23.trans (congrArg some (by kernel_rfl))
  t0 := Ybaf.underlying0
  a0 := Ybaf.isAgg0
  z0 := Ybaf.sizeOf0
  v0 := Ybaf.zeroValue0
  t2 := Ybaf.underlying2
  a2 := Ybaf.isAgg2
  z2 := Ybaf.sizeOf2
  v2 := Ybaf.zeroValue2
  t3 := Ybaf.underlying3
  a3 := Ybaf.isAgg3
  z3 := Ybaf.sizeOf3
  v3 := Ybaf.zeroValue3
  t4 := Ybaf.underlying4
  a4 := Ybaf.isAgg4
  z4 := Ybaf.sizeOf4
  v4 := Ybaf.zeroValue4
  t5 := Ybaf.underlying5
  a5 := Ybaf.isAgg5
  z5 := Ybaf.sizeOf5
  v5 := Ybaf.zeroValue5
  t9 := Ybaf.underlying9
  a9 := Ybaf.isAgg9
  z9 := Ybaf.sizeOf9
  v9 := Ybaf.zeroValue9
  t20 := Ybaf.underlying20
  a20 := Ybaf.isAgg20
  z20 := Ybaf.sizeOf20
  v20 := Ybaf.zeroValue20
  t37 := Ybaf.underlying38
  a37 := Ybaf.isAgg38
  z37 := Ybaf.sizeOf38
  v37 := Ybaf.zeroValue38
  t46 := Ybaf.underlying52
  a46 := Ybaf.isAgg52
  z46 := Ybaf.sizeOf52
  v46 := Ybaf.zeroValue52
  t51 := Ybaf.underlying49
  a51 := Ybaf.isAgg49
  z51 := Ybaf.sizeOf49
  v51 := Ybaf.zeroValue49
  t53 := Ybaf.underlying41
  a53 := Ybaf.isAgg41
  z53 := Ybaf.sizeOf41
  v53 := Ybaf.zeroValue41
  t171 := Ybaf.underlying40
  a171 := Ybaf.isAgg40
  z171 := Ybaf.sizeOf40
  v171 := Ybaf.zeroValue40
  t173 := Ybaf.underlying44
  a173 := Ybaf.isAgg44
  z173 := Ybaf.sizeOf44
  v173 := Ybaf.zeroValue44
  t212 := Ybaf.underlying48
  a212 := Ybaf.isAgg48
  z212 := Ybaf.sizeOf48
  v212 := Ybaf.zeroValue48
  t213 := Ybaf.underlying50
  a213 := Ybaf.isAgg50
  z213 := Ybaf.sizeOf50
  t232 := Ybaf.underlying55
  a232 := Ybaf.isAgg55
  z232 := Ybaf.sizeOf55
  v232 := Ybaf.zeroValue55
  t233 := Ybaf.underlying56
  a233 := Ybaf.isAgg56
  z233 := Ybaf.sizeOf56
  v233 := Ybaf.zeroValue56
  g17 := by kernel_rfl
  g18 := by kernel_rfl
  g19 := by kernel_rfl
  i0 := by kernel_rfl
  i2 := by kernel_rfl
  i3 := by kernel_rfl
  i4 := by kernel_rfl
  i5 := by kernel_rfl
  i9 := by kernel_rfl
  i20 := by kernel_rfl
  i37 := by kernel_rfl
  i46 := by kernel_rfl
  i51 := by kernel_rfl
  i53 := by kernel_rfl
  i171 := by kernel_rfl
  i173 := by kernel_rfl
  i212 := by kernel_rfl
  i232 := by kernel_rfl
  i233 := by kernel_rfl
  m17 := by kernel_rfl
  m18 := by kernel_rfl
  m19 := by kernel_rfl }
open Go.RowKit Go.Sort Go.Lib in
/-- strconv.Itoa: "Itoa is equivalent to FormatInt(int64(i), 10).": i's DECIMAL NUMERAL ('Lib.itoa': a '-' where i is negative, then the digits), FOR EVERY int. The world behind the call: the world before it, new blocks behind the heap (the library's 'var a [24]byte'), draws. (LAID: no walk: one application.) -/
theorem Ybaf.strconv_Itoa (n : Int) (h0 : -9223372036854775808 ≤ n) (h1 : n ≤ 9223372036854775807) (w : World) (htab : Lib.TabIs Ybaf.prog w Ybaf.powName .u64 Lib.pow10Tab) :
    Calls Ybaf.prog 10 #[.int .i64 n] w fun e w' => e = .returned (.string ⟨(Lib.itoa n).toArray⟩) ∧ ∃ k os, w' = grow (w.drewN k) os := Any.strconv_Itoa Ybaf.laysM171 n h0 h1 w htab
def Ybaf.lays171_ren : Go.Shelf.Ren := ⟨fun | 171 => 10 | 243 => 11 | 246 => 12 | 283 => 13 | 284 => 14 | 285 => 15 | 286 => 16 | 129 => 18 | 317 => 17 | 318 => 19 | 319 => 20 | 320 => 21 | 337 => 22 | 338 => 23 | n => n, fun | 3 => 3 | 9 => 9 | 2 => 2 | 4 => 4 | 171 => 40 | 0 => 0 | 53 => 41 | 37 => 38 | 5 => 5 | 173 => 44 | 212 => 48 | 51 => 49 | 20 => 20 | 213 => 50 | 46 => 52 | 232 => 55 | 233 => 56 | n => n, fun | 17 => 0 | 18 => 1 | 19 => 2 | n => n⟩
theorem Ybaf.lays171 : Go.Proofs.Lays.n171 Ybaf.prog Ybaf.lays171_ren := {
  mixed := by kernel_rfl
  f129 := Ybaf.func18.trans (congrArg some (by kernel_rfl))
  f171 := Ybaf.func10.trans (congrArg some (by kernel_rfl))
  f243 := Ybaf.func11.trans (congrArg some (by kernel_rfl))
  f246 := Ybaf.func12.trans (congrArg some (by kernel_rfl))
  f283 := Ybaf.func13.trans (congrArg some (by kernel_rfl))
  f284 := Ybaf.func14.trans (congrArg some (by kernel_rfl))
  f285 := Ybaf.func15.trans (congrArg some (by kernel_rfl))
  f286 := Ybaf.func16.trans (congrArg some (by kernel_rfl))
  f317 := Ybaf.func17.trans (congrArg some (by kernel_rfl))
  f318 := Ybaf.func19.trans (congrArg some (by kernel_rfl))
  f319 := Ybaf.func20.trans (congrArg some (by kernel_rfl))
  f320 := Ybaf.func21.trans (congrArg some (by kernel_rfl))
  f337 := Ybaf.func22.trans (congrArg some (by kernel_rfl))
  f338 := Ybaf.func23.trans (congrArg some (by kernel_rfl))
  t0 := Ybaf.underlying0
  a0 := Ybaf.isAgg0
  z0 := Ybaf.sizeOf0
  v0 := Ybaf.zeroValue0
  t2 := Ybaf.underlying2
  a2 := Ybaf.isAgg2
  z2 := Ybaf.sizeOf2
  v2 := Ybaf.zeroValue2
  t3 := Ybaf.underlying3
  a3 := Ybaf.isAgg3
  z3 := Ybaf.sizeOf3
  v3 := Ybaf.zeroValue3
  t4 := Ybaf.underlying4
  a4 := Ybaf.isAgg4
  z4 := Ybaf.sizeOf4
  v4 := Ybaf.zeroValue4
  t5 := Ybaf.underlying5
  a5 := Ybaf.isAgg5
  z5 := Ybaf.sizeOf5
  v5 := Ybaf.zeroValue5
  t9 := Ybaf.underlying9
  a9 := Ybaf.isAgg9
  z9 := Ybaf.sizeOf9
  v9 := Ybaf.zeroValue9
  t20 := Ybaf.underlying20
  a20 := Ybaf.isAgg20
  z20 := Ybaf.sizeOf20
  v20 := Ybaf.zeroValue20
  t37 := Ybaf.underlying38
  a37 := Ybaf.isAgg38
  z37 := Ybaf.sizeOf38
  v37 := Ybaf.zeroValue38
  t46 := Ybaf.underlying52
  a46 := Ybaf.isAgg52
  z46 := Ybaf.sizeOf52
  v46 := Ybaf.zeroValue52
  t51 := Ybaf.underlying49
  a51 := Ybaf.isAgg49
  z51 := Ybaf.sizeOf49
  v51 := Ybaf.zeroValue49
  t53 := Ybaf.underlying41
  a53 := Ybaf.isAgg41
  z53 := Ybaf.sizeOf41
  v53 := Ybaf.zeroValue41
  t171 := Ybaf.underlying40
  a171 := Ybaf.isAgg40
  z171 := Ybaf.sizeOf40
  v171 := Ybaf.zeroValue40
  t173 := Ybaf.underlying44
  a173 := Ybaf.isAgg44
  z173 := Ybaf.sizeOf44
  v173 := Ybaf.zeroValue44
  t212 := Ybaf.underlying48
  a212 := Ybaf.isAgg48
  z212 := Ybaf.sizeOf48
  v212 := Ybaf.zeroValue48
  t213 := Ybaf.underlying50
  a213 := Ybaf.isAgg50
  z213 := Ybaf.sizeOf50
  t232 := Ybaf.underlying55
  a232 := Ybaf.isAgg55
  z232 := Ybaf.sizeOf55
  v232 := Ybaf.zeroValue55
  t233 := Ybaf.underlying56
  a233 := Ybaf.isAgg56
  z233 := Ybaf.sizeOf56
  v233 := Ybaf.zeroValue56
  g17 := by kernel_rfl
  g18 := by kernel_rfl
  g19 := by kernel_rfl }
open Go.RowKit Go.Sort Go.Lib in
/-- THE ROAD WITHOUT THE TABLE: 0 <= i < 100: NO PREMISE ON THE WORLD, AND THE WORLD IS AS IT WAS: a row that keeps its argument in that range need list no table ('laid = []'). (LAID: no walk: one application.) -/
theorem Ybaf.strconv_Itoa_small (i : Nat) (hi : i < 100) (w : World) :
    Calls Ybaf.prog 10 #[.int .i64 i] w fun e w' => e = .returned (.string ⟨(Lib.decDigits i).toArray⟩) ∧ w' = w := Any.strconv_Itoa_small Ybaf.lays171 i hi w
def Ybaf.lays193_ren : Go.Shelf.Ren := ⟨fun | 193 => 7 | n => n, fun | 31 => 22 | 9 => 9 | 4 => 4 | 3 => 3 | 0 => 0 | n => n, fun | n => n⟩
theorem Ybaf.lays193 : Go.Proofs.Lays.n193 Ybaf.prog Ybaf.lays193_ren := {
  mixed := by kernel_rfl
  f193 := Ybaf.func7.trans (congrArg some (by kernel_rfl))
  t0 := Ybaf.underlying0
  a0 := Ybaf.isAgg0
  z0 := Ybaf.sizeOf0
  v0 := Ybaf.zeroValue0
  t3 := Ybaf.underlying3
  a3 := Ybaf.isAgg3
  z3 := Ybaf.sizeOf3
  v3 := Ybaf.zeroValue3
  t4 := Ybaf.underlying4
  a4 := Ybaf.isAgg4
  z4 := Ybaf.sizeOf4
  v4 := Ybaf.zeroValue4
  t9 := Ybaf.underlying9
  a9 := Ybaf.isAgg9
  z9 := Ybaf.sizeOf9
  v9 := Ybaf.zeroValue9
  t31 := Ybaf.underlying22
  a31 := Ybaf.isAgg22
  z31 := Ybaf.sizeOf22
  v31 := Ybaf.zeroValue22 }
open Go.RowKit Go.Lib in
/-- slices.Equal at []string: "Equal reports whether two slices are equal: the same length and all elements equal. If the lengths are different, Equal returns false. Otherwise, the elements are compared in increasing index order, and the comparison stops at the first unequal pair. Empty and nil slices are considered equal.": IT RETURNS WHETHER THE TWO LISTS OF ELEMENTS ARE ONE; the world is as it was but for the count of draws (the test 's1[i] != s2[i]' has two reads, whose order the model draws, once a round). 'xs', 'ys': what the cells behind the two addresses hold (the spare capacity too, if you have it); 'xs.take n', 'ys.take m': the elements. THE TWO SLICES MAY OVERLAP. (LAID: no walk: one application.) -/
theorem Ybaf.slices_Equal_string (b1 o1 n c b2 o2 m d : Nat) (xs ys : List ByteArray) (w : World) (hx : n ≤ xs.length) (hy : m ≤ ys.length) (hbig : n ≤ 9223372036854775807) (hbig2 : m ≤ 9223372036854775807) (hc1 : ∀ j, j < xs.length → w.cell? ⟨b1, o1 + j, none⟩ = some (.string (xs.getD j ByteArray.empty))) (hc2 : ∀ j, j < ys.length → w.cell? ⟨b2, o2 + j, none⟩ = some (.string (ys.getD j ByteArray.empty))) :
    Calls Ybaf.prog 7 #[.slice (some ⟨b1, o1, none⟩) n c, .slice (some ⟨b2, o2, none⟩) m d] w fun e w' => e = .returned (.bool (decide (xs.take n = ys.take m))) ∧ ∃ q, w' = w.drewN q := Any.slices_Equal_string Ybaf.lays193 b1 o1 n c b2 o2 m d xs ys w hx hy hbig hbig2 hc1 hc2
open Go.RowKit Go.Lib in
/-- The same where the first is of length 0 (a nil one too): no cell is asked for. (LAID: no walk: one application.) -/
theorem Ybaf.slices_Equal_string_empty (a1 a2 : Option Addr) (c m d : Nat) (w : World) (hbig2 : m ≤ 9223372036854775807) :
    Calls Ybaf.prog 7 #[.slice a1 0 c, .slice a2 m d] w fun e w' => e = .returned (.bool (decide (m = 0))) ∧ w' = w := Any.slices_Equal_string_empty Ybaf.lays193 a1 a2 c m d w hbig2
def Ybaf.laysNm216_ren : Go.Shelf.Ren := ⟨fun | 16 => 4 | n => n, fun | 24 => 22 | 9 => 9 | 4 => 4 | n => n, fun | n => n⟩
theorem Ybaf.laysNm216 : Go.Proofs.Lays2.n16 Ybaf.prog Ybaf.laysNm216_ren := {
  mixed := by kernel_rfl
  f16 := Ybaf.func4.trans (congrArg some (by kernel_rfl))
  t4 := Ybaf.underlying4
  a4 := Ybaf.isAgg4
  z4 := Ybaf.sizeOf4
  v4 := Ybaf.zeroValue4
  t9 := Ybaf.underlying9
  a9 := Ybaf.isAgg9
  z9 := Ybaf.sizeOf9
  v9 := Ybaf.zeroValue9
  t24 := Ybaf.underlying22
  a24 := Ybaf.isAgg22
  z24 := Ybaf.sizeOf22
  v24 := Ybaf.zeroValue22
  i9 := by kernel_rfl }
open Go.RowKit Go.Lib in
/-- slices.Clone at []string: "Clone returns a copy of the slice. The elements are copied using assignment, so this is a shallow clone. The result may have additional unused capacity. The result preserves the nilness of s.": OF A SLICE THAT IS NOT nil IT RETURNS A SLICE THAT IS NOT nil, OF THE SAME ELEMENTS, IN MEMORY OF THE CALL's OWN: in the how-to's words (6f): 'w'.ownsRow B e 1 v' n cells': v' begins at the head of a row among the blocks from B on (B: the heap's size at the call), not frozen, whose first cells are the elements · 'Below B w w'': below B all is as it was. The capacity is whatever the run-time gives. 'zs': what the cells behind the slice's address hold; 'zs.take n': its elements. (LAID: no walk: one application.) -/
theorem Ybaf.slices_Clone_string (b off n c : Nat) (zs : List ByteArray) (w : World) (hz : n ≤ zs.length) (hbig : n * 16 ≤ 140737488355328) (hc : ∀ j, j < zs.length → w.cell? ⟨b, off + j, none⟩ = some (.string (zs.getD j ByteArray.empty))) :
    Calls Ybaf.prog 4 #[.slice (some ⟨b, off, none⟩) n c] w fun e w' => ∃ v', e = .returned v' ∧ w'.ownsRow w.heap.size 9 1 v' n ((zs.take n).map (Value.string)) ∧ v' ≠ .slice none 0 0 ∧ Below w.heap.size w w' := Any.slices_Clone_string Ybaf.laysNm216 b off n c zs w hz hbig hc
open Go.RowKit Go.Lib in
/-- The same at nil: nil comes back; the world is as it was. (LAID: no walk: one application.) -/
theorem Ybaf.slices_Clone_string_nil (n c : Nat) (w : World) :
    Calls Ybaf.prog 4 #[.slice none n c] w fun e w' => e = .returned (.slice none 0 0) ∧ w' = w := Any.slices_Clone_string_nil Ybaf.laysNm216 n c w
open Go.RowKit Go.Lib in
/-- The same at a slice of length 0 that is not nil, WHATEVER ITS ADDRESS (no cell is asked for): a slice that is not nil and owns nothing comes back. (LAID: no walk: one application.) -/
theorem Ybaf.slices_Clone_string_zero (a : Addr) (c : Nat) (w : World) :
    Calls Ybaf.prog 4 #[.slice (some a) 0 c] w fun e w' => ∃ v', e = .returned v' ∧ w'.ownsRow w.heap.size 9 1 v' 0 [] ∧ v' ≠ .slice none 0 0 ∧ Below w.heap.size w w' := Any.slices_Clone_string_zero Ybaf.laysNm216 a c w
open Go.RowKit Go.Lib in
theorem Ybaf.slices_Equal_string_lens (a1 a2 : Option Addr) (n c m d : Nat) (w : World) (hnm : n ≠ m) :
    Calls Ybaf.prog 7 #[.slice a1 n c, .slice a2 m d] w fun e w' => e = .returned (.bool false) ∧ w' = w := Any.slices_Equal_string_lens Ybaf.lays193 a1 a2 n c m d w hnm
end Go.Proofs
