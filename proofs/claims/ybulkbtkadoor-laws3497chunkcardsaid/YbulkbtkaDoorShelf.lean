/-
  DERIVED: THE SHELF's CONTRACTS AT THIS DUMP, IN PLAIN WORDS (tools/lay-plain.mjs out of 'YbadShelf.lean', which tools/lay-shelf.mjs wrote): THE SAME DECLARATIONS UNDER THE SAME NAMES: 'import', 'namespace', 'open', 'def', 'theorem' AND NOTHING ELSE: no command of the shelf's: FOR A HAND-IN. Each laying: the table of numbers ('.._ren') and one theorem, a field a fact of the dump's own or the kernel's comparison; each contract: ONE APPLICATION.
-/
import Derived.Shelf.Strconv.Itoa0
import Derived.Shelf.Strconv.Itoa1
import Derived.Shelf.LaysM
import Derived.Shelf.Strconv.Itoa2
import Derived.Shelf.Strconv.AppendUint10
import Derived.Shelf.Strconv.AppendInt10
import Derived.Shelf.Strconv.AppendIntPublic10
import Derived.Shelf.Bytes.SlEqualAll
import Derived.Shelf.Bytes.Small
import Derived.Test.YbulkbtkaDoorProg
namespace Go.Proofs
open Go.Shelf
def Ybad.lays129_ren : Go.Shelf.Ren := ⟨fun | 129 => 20 | n => n, fun | 53 => 40 | 3 => 3 | 4 => 4 | 46 => 54 | 5 => 5 | 9 => 9 | n => n, fun | n => n⟩
theorem Ybad.lays129 : Go.Proofs.Lays.n129 Ybad.prog Ybad.lays129_ren := {
  mixed := by kernel_rfl
  f129 := Ybad.func20.trans (congrArg some (by kernel_rfl))
  t3 := Ybad.underlying3
  a3 := Ybad.isAgg3
  z3 := Ybad.sizeOf3
  v3 := Ybad.zeroValue3
  t4 := Ybad.underlying4
  a4 := Ybad.isAgg4
  z4 := Ybad.sizeOf4
  v4 := Ybad.zeroValue4
  t5 := Ybad.underlying5
  a5 := Ybad.isAgg5
  z5 := Ybad.sizeOf5
  v5 := Ybad.zeroValue5
  t9 := Ybad.underlying9
  a9 := Ybad.isAgg9
  z9 := Ybad.sizeOf9
  v9 := Ybad.zeroValue9
  t46 := Ybad.underlying54
  a46 := Ybad.isAgg54
  z46 := Ybad.sizeOf54
  v46 := Ybad.zeroValue54
  t53 := Ybad.underlying40
  a53 := Ybad.isAgg40
  z53 := Ybad.sizeOf40
  v53 := Ybad.zeroValue40 }
/-- bits.Len64: "Len64 returns the minimum number of bits required to represent x; the result is 0 for x == 0.": IT RETURNS 'Lib.bitLen x'; the world is as it was. ('h0', 'h1': x is a uint64.) (LAID: no walk: one application.) -/
theorem Ybad.bits_Len64 (x : Int) (w : World) (h0 : 0 ≤ x) (h1 : x ≤ 18446744073709551615) :
    Calls Ybad.prog 20 #[.int .u64 x] w fun e w' => e = .returned (.int .i64 (Lib.bitLen x.toNat)) ∧ w' = w := Any.bits_Len64 Ybad.lays129 x w h0 h1
def Ybad.lays317_ren : Go.Shelf.Ren := ⟨fun | 317 => 19 | n => n, fun | 3 => 3 | 46 => 54 | n => n, fun | n => n⟩
theorem Ybad.lays317 : Go.Proofs.Lays.n317 Ybad.prog Ybad.lays317_ren := {
  mixed := by kernel_rfl
  f317 := Ybad.func19.trans (congrArg some (by kernel_rfl))
  t3 := Ybad.underlying3
  a3 := Ybad.isAgg3
  z3 := Ybad.sizeOf3
  v3 := Ybad.zeroValue3
  t46 := Ybad.underlying54
  a46 := Ybad.isAgg54
  z46 := Ybad.sizeOf54
  v46 := Ybad.zeroValue54 }
open Go.Lib in
/-- internal/strconv.log10Pow2: "log10Pow2(x) returns ⌊log₁₀ 2**x⌋ = ⌊x * log₁₀ 2⌋.": '(x * 78913) >> 18', at an x up to 64 (a length in bits). The world is as it was. (LAID: no walk: one application.) -/
theorem Ybad.internal_strconv_log10Pow2 (x : Nat) (h : x ≤ 64) (w : World) :
    Calls Ybad.prog 19 #[.int .i64 x] w fun e w' => e = .returned (.int .i64 (Lib.l10 x)) ∧ w' = w := Any.internal_strconv_log10Pow2 Ybad.lays317 x h w
def Ybad.lays318_ren : Go.Shelf.Ren := ⟨fun | 318 => 21 | n => n, fun | 3 => 3 | 4 => 4 | n => n, fun | n => n⟩
theorem Ybad.lays318 : Go.Proofs.Lays.n318 Ybad.prog Ybad.lays318_ren := {
  mixed := by kernel_rfl
  f318 := Ybad.func21.trans (congrArg some (by kernel_rfl))
  t3 := Ybad.underlying3
  a3 := Ybad.isAgg3
  z3 := Ybad.sizeOf3
  v3 := Ybad.zeroValue3
  t4 := Ybad.underlying4
  a4 := Ybad.isAgg4
  z4 := Ybad.sizeOf4
  v4 := Ybad.zeroValue4 }
open Go.Lib in
/-- internal/strconv.bool2: "bool2 converts b to an integer: 1 for true, 0 for false." The world is as it was. (LAID: no walk: one application.) -/
theorem Ybad.internal_strconv_bool2_int (b : Bool) (w : World) :
    Calls Ybad.prog 21 #[.bool b] w fun e w' => e = .returned (.int .i64 (if b then 1 else 0)) ∧ w' = w := Any.internal_strconv_bool2_int Ybad.lays318 b w
def Ybad.lays283_ren : Go.Shelf.Ren := ⟨fun | 283 => 15 | n => n, fun | 3 => 3 | 9 => 9 | 4 => 4 | n => n, fun | n => n⟩
theorem Ybad.lays283 : Go.Proofs.Lays.n283 Ybad.prog Ybad.lays283_ren := {
  mixed := by kernel_rfl
  f283 := Ybad.func15.trans (congrArg some (by kernel_rfl))
  t3 := Ybad.underlying3
  a3 := Ybad.isAgg3
  z3 := Ybad.sizeOf3
  v3 := Ybad.zeroValue3
  t4 := Ybad.underlying4
  a4 := Ybad.isAgg4
  z4 := Ybad.sizeOf4
  v4 := Ybad.zeroValue4
  t9 := Ybad.underlying9
  a9 := Ybad.isAgg9
  z9 := Ybad.sizeOf9
  v9 := Ybad.zeroValue9 }
open Go.Lib in
/-- internal/strconv.small: "small returns the string for an i with 0 <= i < nSmalls.": i's decimal numeral. The world is as it was. (LAID: no walk: one application.) -/
theorem Ybad.internal_strconv_small (i : Nat) (h : i < 100) (w : World) :
    Calls Ybad.prog 15 #[.int .i64 i] w fun e w' => e = .returned (.string ⟨(Lib.decDigits i).toArray⟩) ∧ w' = w := Any.internal_strconv_small Ybad.lays283 i h w
def Ybad.laysM284_ren : Go.Shelf.Ren := ⟨fun | 284 => 16 | 129 => 20 | 317 => 19 | 318 => 21 | n => n, fun | 53 => 40 | 3 => 3 | 212 => 50 | 0 => 0 | 4 => 4 | 46 => 54 | 5 => 5 | 9 => 9 | n => n, fun | 17 => 0 | n => n⟩
theorem Ybad.laysM284 : Go.Proofs.LaysM.n284 Ybad.prog Ybad.laysM284_ren := {
  mixed := by kernel_rfl
  f129 := Ybad.func20.trans (congrArg some (by kernel_rfl))
  f284 := Ybad.func16.trans (congrArg some (by kernel_rfl))
  f317 := Ybad.func19.trans (congrArg some (by kernel_rfl))
  f318 := Ybad.func21.trans (congrArg some (by kernel_rfl))
  t0 := Ybad.underlying0
  a0 := Ybad.isAgg0
  z0 := Ybad.sizeOf0
  v0 := Ybad.zeroValue0
  t3 := Ybad.underlying3
  a3 := Ybad.isAgg3
  z3 := Ybad.sizeOf3
  v3 := Ybad.zeroValue3
  t4 := Ybad.underlying4
  a4 := Ybad.isAgg4
  z4 := Ybad.sizeOf4
  v4 := Ybad.zeroValue4
  t5 := Ybad.underlying5
  a5 := Ybad.isAgg5
  z5 := Ybad.sizeOf5
  v5 := Ybad.zeroValue5
  t9 := Ybad.underlying9
  a9 := Ybad.isAgg9
  z9 := Ybad.sizeOf9
  v9 := Ybad.zeroValue9
  t46 := Ybad.underlying54
  a46 := Ybad.isAgg54
  z46 := Ybad.sizeOf54
  v46 := Ybad.zeroValue54
  t53 := Ybad.underlying40
  a53 := Ybad.isAgg40
  z53 := Ybad.sizeOf40
  v53 := Ybad.zeroValue40
  t212 := Ybad.underlying50
  a212 := Ybad.isAgg50
  z212 := Ybad.sizeOf50
  v212 := Ybad.zeroValue50
  g17 := by kernel_rfl
  i0 := by kernel_rfl
  i3 := by kernel_rfl
  i4 := by kernel_rfl
  i5 := by kernel_rfl
  i9 := by kernel_rfl
  i46 := by kernel_rfl
  i53 := by kernel_rfl
  i212 := by kernel_rfl
  m17 := by kernel_rfl }
open Go.Lib in
/-- internal/strconv.numDigits, at a d that is not 0: THE NUMBER OF d's DECIMAL DIGITS. The world is as it was. (LAID: no walk: one application.) -/
theorem Ybad.internal_strconv_numDigits (u : Nat) (h1 : 1 ≤ u) (h2 : u < 18446744073709551616) (w : World) (htab : Lib.TabIs Ybad.prog w "internal/strconv.uint64pow10" .u64 Lib.pow10Tab) :
    Calls Ybad.prog 16 #[.int .u64 u] w fun e w' => e = .returned (.int .i64 (Lib.nDigits u)) ∧ w' = w := Any.internal_strconv_numDigits Ybad.laysM284 u h1 h2 w htab
def Ybad.lays285_ren : Go.Shelf.Ren := ⟨fun | 285 => 17 | n => n, fun | 37 => 22 | 53 => 40 | 3 => 3 | 4 => 4 | 51 => 51 | 9 => 9 | 5 => 5 | 0 => 0 | n => n, fun | n => n⟩
theorem Ybad.lays285 : Go.Proofs.Lays.n285 Ybad.prog Ybad.lays285_ren := {
  mixed := by kernel_rfl
  f285 := Ybad.func17.trans (congrArg some (by kernel_rfl))
  t0 := Ybad.underlying0
  a0 := Ybad.isAgg0
  z0 := Ybad.sizeOf0
  v0 := Ybad.zeroValue0
  t3 := Ybad.underlying3
  a3 := Ybad.isAgg3
  z3 := Ybad.sizeOf3
  v3 := Ybad.zeroValue3
  t4 := Ybad.underlying4
  a4 := Ybad.isAgg4
  z4 := Ybad.sizeOf4
  v4 := Ybad.zeroValue4
  t5 := Ybad.underlying5
  a5 := Ybad.isAgg5
  z5 := Ybad.sizeOf5
  v5 := Ybad.zeroValue5
  t9 := Ybad.underlying9
  a9 := Ybad.isAgg9
  z9 := Ybad.sizeOf9
  v9 := Ybad.zeroValue9
  t37 := Ybad.underlying22
  a37 := Ybad.isAgg22
  z37 := Ybad.sizeOf22
  v37 := Ybad.zeroValue22
  t51 := Ybad.underlying51
  a51 := Ybad.isAgg51
  z51 := Ybad.sizeOf51
  v51 := Ybad.zeroValue51
  t53 := Ybad.underlying40
  a53 := Ybad.isAgg40
  z53 := Ybad.sizeOf40
  v53 := Ybad.zeroValue40 }
open Go.RowKit Go.Sort Go.Lib in
/-- internal/strconv.formatBase10: "formatBase10 formats the decimal representation of u into a. The caller is responsible for ensuring that a is big enough to hold u. If a is too big, leading zeros will be filled in as needed.": THE ROW HOLDS u's DIGITS ('FmtInv .. 0 ..': every place t holds 'dg u (len - 1 - t)'); all else is as it was but for the count of draws. (LAID: no walk: one application.) -/
theorem Ybad.internal_strconv_formatBase10 (blk off cap : Nat) (u : Nat) (d : Array UInt8) (w : World) (hH : Holds (fun (b : UInt8) => Value.int .u8 (b.toNat : Int)) w blk off d) (hu : u < 10 ^ d.size) (hu64 : u < 18446744073709551616) (hsz : d.size < 4611686018427387904) :
    Calls Ybad.prog 17 #[.slice (some ⟨blk, off, none⟩) d.size cap, .int .u64 u] w fun e w' =>
      e = .returned (.tuple #[]) ∧ ∃ (n v' : Nat) (dk : Array UInt8), w' = (putRow (fun (b : UInt8) => Value.int .u8 (b.toNat : Int)) w blk off dk).drewN n ∧ FmtInv d.size u 0 v' dk := Any.internal_strconv_formatBase10 Ybad.lays285 blk off cap u d w hH hu hu64 hsz
def Ybad.laysM288_ren : Go.Shelf.Ren := ⟨fun | 288 => 14 | 283 => 15 | 284 => 16 | 285 => 17 | 286 => 18 | 129 => 20 | 317 => 19 | 318 => 21 | 319 => 22 | 320 => 23 | 337 => 24 | 338 => 25 | n => n, fun | 37 => 22 | 53 => 40 | 3 => 3 | 4 => 4 | 9 => 9 | 171 => 43 | 0 => 0 | 173 => 46 | 212 => 50 | 51 => 51 | 5 => 5 | 20 => 20 | 213 => 52 | 46 => 54 | 232 => 57 | 233 => 58 | n => n, fun | 17 => 0 | 18 => 1 | 19 => 2 | n => n⟩
theorem Ybad.laysM288 : Go.Proofs.LaysM.n288 Ybad.prog Ybad.laysM288_ren := {
  mixed := by kernel_rfl
  f129 := Ybad.func20.trans (congrArg some (by kernel_rfl))
  f283 := Ybad.func15.trans (congrArg some (by kernel_rfl))
  f284 := Ybad.func16.trans (congrArg some (by kernel_rfl))
  f285 := Ybad.func17.trans (congrArg some (by kernel_rfl))
  f286 := Ybad.func18.trans (congrArg some (by kernel_rfl))
  f288 := Ybad.func14.trans (congrArg some (by kernel_rfl))
  f317 := Ybad.func19.trans (congrArg some (by kernel_rfl))
  f318 := Ybad.func21.trans (congrArg some (by kernel_rfl))
  f319 := Ybad.func22.trans (congrArg some (by kernel_rfl))
  f320 := Ybad.func23.trans (congrArg some (by kernel_rfl))
  f337 := Ybad.func24.trans (congrArg some (by kernel_rfl))
  f338 := Ybad.func25.trans (congrArg some (by kernel_rfl))
  t0 := Ybad.underlying0
  a0 := Ybad.isAgg0
  z0 := Ybad.sizeOf0
  v0 := Ybad.zeroValue0
  t3 := Ybad.underlying3
  a3 := Ybad.isAgg3
  z3 := Ybad.sizeOf3
  v3 := Ybad.zeroValue3
  t4 := Ybad.underlying4
  a4 := Ybad.isAgg4
  z4 := Ybad.sizeOf4
  v4 := Ybad.zeroValue4
  t5 := Ybad.underlying5
  a5 := Ybad.isAgg5
  z5 := Ybad.sizeOf5
  v5 := Ybad.zeroValue5
  t9 := Ybad.underlying9
  a9 := Ybad.isAgg9
  z9 := Ybad.sizeOf9
  v9 := Ybad.zeroValue9
  t20 := Ybad.underlying20
  a20 := Ybad.isAgg20
  z20 := Ybad.sizeOf20
  v20 := Ybad.zeroValue20
  t37 := Ybad.underlying22
  a37 := Ybad.isAgg22
  z37 := Ybad.sizeOf22
  v37 := Ybad.zeroValue22
  t46 := Ybad.underlying54
  a46 := Ybad.isAgg54
  z46 := Ybad.sizeOf54
  v46 := Ybad.zeroValue54
  t51 := Ybad.underlying51
  a51 := Ybad.isAgg51
  z51 := Ybad.sizeOf51
  v51 := Ybad.zeroValue51
  t53 := Ybad.underlying40
  a53 := Ybad.isAgg40
  z53 := Ybad.sizeOf40
  v53 := Ybad.zeroValue40
  t171 := Ybad.underlying43
  a171 := Ybad.isAgg43
  z171 := Ybad.sizeOf43
  v171 := Ybad.zeroValue43
  t173 := Ybad.underlying46
  a173 := Ybad.isAgg46
  z173 := Ybad.sizeOf46
  v173 := Ybad.zeroValue46
  t212 := Ybad.underlying50
  a212 := Ybad.isAgg50
  z212 := Ybad.sizeOf50
  v212 := Ybad.zeroValue50
  t213 := Ybad.underlying52
  a213 := Ybad.isAgg52
  z213 := Ybad.sizeOf52
  t232 := Ybad.underlying57
  a232 := Ybad.isAgg57
  z232 := Ybad.sizeOf57
  v232 := Ybad.zeroValue57
  t233 := Ybad.underlying58
  a233 := Ybad.isAgg58
  z233 := Ybad.sizeOf58
  v233 := Ybad.zeroValue58
  g17 := by kernel_rfl
  g18 := by kernel_rfl
  g19 := by kernel_rfl
  i0 := by kernel_rfl
  i3 := by kernel_rfl
  i4 := by kernel_rfl
  i5 := by kernel_rfl
  i9 := by kernel_rfl
  i20 := by kernel_rfl
  i37 := by kernel_rfl
  i46 := by kernel_rfl
  i51 := by kernel_rfl
  i53 := by kernel_rfl
  i171 := by kernel_rfl
  i173 := by kernel_rfl
  i212 := by kernel_rfl
  i232 := by kernel_rfl
  i233 := by kernel_rfl
  m17 := by kernel_rfl
  m18 := by kernel_rfl
  m19 := by kernel_rfl }
open Go.RowKit Go.Sort Go.Lib in
/-- internal/strconv.AppendUint(dst, i, 10), i BELOW 100: WHAT COMES BACK OWNS dst's CELLS AND, BEHIND THEM, i's DECIMAL NUMERAL. No table is read. Below the call's own blocks nothing has turned. (LAID: no walk: one application.) -/
theorem Ybad.internal_strconv_AppendUint_10_small (B n u : Nat) (hu : u < 100) (sv : Value) (xs : List Value) (w : World) (hown : w.ownsRow B 5 1 sv n xs) (hBw : B ≤ w.heap.size) (hlim : n + 20 ≤ 140737488355328) :
    Calls Ybad.prog 14 #[sv, .int .u64 u, .int .i64 10] w fun e w' => ∃ v', e = .returned v' ∧ w'.ownsRow B 5 1 v' (n + (Lib.decDigits u).length) (xs ++ Lib.byteCells (Lib.decDigits u)) ∧ Below B w w' ∧ Lib.OthersKept 5 none w w' := Any.internal_strconv_AppendUint_10_small Ybad.laysM288 B n u hu sv xs w hown hBw hlim
open Go.RowKit Go.Sort Go.Lib in
/-- internal/strconv.AppendUint(dst, i, 10), i FROM 100 ON: likewise; the digits are laid in an array of the call's own and appended. (LAID: no walk: one application.) -/
theorem Ybad.internal_strconv_AppendUint_10_big (B n u : Nat) (hu : 100 ≤ u) (hu64 : u < 18446744073709551616) (sv : Value) (xs : List Value) (w : World) (hown : w.ownsRow B 5 1 sv n xs) (hBw : B ≤ w.heap.size) (hlim : n + 20 ≤ 140737488355328) (htab : Lib.TabIs Ybad.prog w "internal/strconv.uint64pow10" .u64 Lib.pow10Tab) :
    Calls Ybad.prog 14 #[sv, .int .u64 u, .int .i64 10] w fun e w' => ∃ v', e = .returned v' ∧ w'.ownsRow B 5 1 v' (n + (Lib.decDigits u).length) (xs ++ Lib.byteCells (Lib.decDigits u)) ∧ Below B w w' ∧ Lib.OthersKept 5 none w w' := Any.internal_strconv_AppendUint_10_big Ybad.laysM288 B n u hu hu64 sv xs w hown hBw hlim htab
open Go.RowKit Go.Sort Go.Lib in
/-- internal/strconv.AppendUint(dst, i, 10): the two contracts as one. NO WALK. (LAID: no walk: one application.) -/
theorem Ybad.internal_strconv_AppendUint_10 (B n u : Nat) (hu64 : u < 18446744073709551616) (sv : Value) (xs : List Value) (w : World) (hown : w.ownsRow B 5 1 sv n xs) (hBw : B ≤ w.heap.size) (hlim : n + 20 ≤ 140737488355328) (htab : Lib.TabIs Ybad.prog w "internal/strconv.uint64pow10" .u64 Lib.pow10Tab) :
    Calls Ybad.prog 14 #[sv, .int .u64 u, .int .i64 10] w fun e w' => ∃ v', e = .returned v' ∧ w'.ownsRow B 5 1 v' (n + (Lib.decDigits u).length) (xs ++ Lib.byteCells (Lib.decDigits u)) ∧ Below B w w' ∧ Lib.OthersKept 5 none w w' := Any.internal_strconv_AppendUint_10 Ybad.laysM288 B n u hu64 sv xs w hown hBw hlim htab
def Ybad.laysM249_ren : Go.Shelf.Ren := ⟨fun | 249 => 13 | 288 => 14 | 283 => 15 | 284 => 16 | 285 => 17 | 286 => 18 | 129 => 20 | 317 => 19 | 318 => 21 | 319 => 22 | 320 => 23 | 337 => 24 | 338 => 25 | n => n, fun | 37 => 22 | 2 => 2 | 3 => 3 | 53 => 40 | 4 => 4 | 9 => 9 | 171 => 43 | 0 => 0 | 173 => 46 | 212 => 50 | 51 => 51 | 5 => 5 | 20 => 20 | 213 => 52 | 46 => 54 | 232 => 57 | 233 => 58 | n => n, fun | 17 => 0 | 18 => 1 | 19 => 2 | n => n⟩
theorem Ybad.laysM249 : Go.Proofs.LaysM.n249 Ybad.prog Ybad.laysM249_ren := {
  mixed := by kernel_rfl
  f129 := Ybad.func20.trans (congrArg some (by kernel_rfl))
  f249 := Ybad.func13.trans (congrArg some (by kernel_rfl))
  f283 := Ybad.func15.trans (congrArg some (by kernel_rfl))
  f284 := Ybad.func16.trans (congrArg some (by kernel_rfl))
  f285 := Ybad.func17.trans (congrArg some (by kernel_rfl))
  f286 := Ybad.func18.trans (congrArg some (by kernel_rfl))
  f288 := Ybad.func14.trans (congrArg some (by kernel_rfl))
  f317 := Ybad.func19.trans (congrArg some (by kernel_rfl))
  f318 := Ybad.func21.trans (congrArg some (by kernel_rfl))
  f319 := Ybad.func22.trans (congrArg some (by kernel_rfl))
  f320 := Ybad.func23.trans (congrArg some (by kernel_rfl))
  f337 := Ybad.func24.trans (congrArg some (by kernel_rfl))
  f338 := Ybad.func25.trans (congrArg some (by kernel_rfl))
  t0 := Ybad.underlying0
  a0 := Ybad.isAgg0
  z0 := Ybad.sizeOf0
  v0 := Ybad.zeroValue0
  t2 := Ybad.underlying2
  a2 := Ybad.isAgg2
  z2 := Ybad.sizeOf2
  v2 := Ybad.zeroValue2
  t3 := Ybad.underlying3
  a3 := Ybad.isAgg3
  z3 := Ybad.sizeOf3
  v3 := Ybad.zeroValue3
  t4 := Ybad.underlying4
  a4 := Ybad.isAgg4
  z4 := Ybad.sizeOf4
  v4 := Ybad.zeroValue4
  t5 := Ybad.underlying5
  a5 := Ybad.isAgg5
  z5 := Ybad.sizeOf5
  v5 := Ybad.zeroValue5
  t9 := Ybad.underlying9
  a9 := Ybad.isAgg9
  z9 := Ybad.sizeOf9
  v9 := Ybad.zeroValue9
  t20 := Ybad.underlying20
  a20 := Ybad.isAgg20
  z20 := Ybad.sizeOf20
  v20 := Ybad.zeroValue20
  t37 := Ybad.underlying22
  a37 := Ybad.isAgg22
  z37 := Ybad.sizeOf22
  v37 := Ybad.zeroValue22
  t46 := Ybad.underlying54
  a46 := Ybad.isAgg54
  z46 := Ybad.sizeOf54
  v46 := Ybad.zeroValue54
  t51 := Ybad.underlying51
  a51 := Ybad.isAgg51
  z51 := Ybad.sizeOf51
  v51 := Ybad.zeroValue51
  t53 := Ybad.underlying40
  a53 := Ybad.isAgg40
  z53 := Ybad.sizeOf40
  v53 := Ybad.zeroValue40
  t171 := Ybad.underlying43
  a171 := Ybad.isAgg43
  z171 := Ybad.sizeOf43
  v171 := Ybad.zeroValue43
  t173 := Ybad.underlying46
  a173 := Ybad.isAgg46
  z173 := Ybad.sizeOf46
  v173 := Ybad.zeroValue46
  t212 := Ybad.underlying50
  a212 := Ybad.isAgg50
  z212 := Ybad.sizeOf50
  v212 := Ybad.zeroValue50
  t213 := Ybad.underlying52
  a213 := Ybad.isAgg52
  z213 := Ybad.sizeOf52
  t232 := Ybad.underlying57
  a232 := Ybad.isAgg57
  z232 := Ybad.sizeOf57
  v232 := Ybad.zeroValue57
  t233 := Ybad.underlying58
  a233 := Ybad.isAgg58
  z233 := Ybad.sizeOf58
  v233 := Ybad.zeroValue58
  g17 := by kernel_rfl
  g18 := by kernel_rfl
  g19 := by kernel_rfl
  i0 := by kernel_rfl
  i2 := by kernel_rfl
  i3 := by kernel_rfl
  i4 := by kernel_rfl
  i5 := by kernel_rfl
  i9 := by kernel_rfl
  i20 := by kernel_rfl
  i37 := by kernel_rfl
  i46 := by kernel_rfl
  i51 := by kernel_rfl
  i53 := by kernel_rfl
  i171 := by kernel_rfl
  i173 := by kernel_rfl
  i212 := by kernel_rfl
  i232 := by kernel_rfl
  i233 := by kernel_rfl
  m17 := by kernel_rfl
  m18 := by kernel_rfl
  m19 := by kernel_rfl }
open Go.RowKit Go.Sort Go.Lib in
/-- internal/strconv.AppendInt: "AppendInt appends the string form of the integer i, as generated by FormatInt, to dst and returns the extended buffer.": AT BASE 10: WHAT COMES BACK OWNS dst's CELLS AND, BEHIND THEM, i's DECIMAL NUMERAL ('Lib.itoa i': at most 20 bytes), for every int64. Below the call's own blocks nothing has turned. (LAID: no walk: one application.) -/
theorem Ybad.internal_strconv_AppendInt_10 (B n : Nat) (i : Int) (h0 : -9223372036854775808 ≤ i) (h1 : i ≤ 9223372036854775807) (sv : Value) (xs : List Value) (w : World) (hown : w.ownsRow B 5 1 sv n xs) (hBw : B ≤ w.heap.size) (hlim : n + 21 ≤ 140737488355328) (htab : Lib.TabBelow Ybad.prog B w "internal/strconv.uint64pow10" .u64 Lib.pow10Tab) :
    Calls Ybad.prog 13 #[sv, .int .i64 i, .int .i64 10] w fun e w' => ∃ v', e = .returned v' ∧ w'.ownsRow B 5 1 v' (n + (Lib.itoa i).length) (xs ++ Lib.byteCells (Lib.itoa i)) ∧ Below B w w' ∧ Lib.OthersKept 5 none w w' := Any.internal_strconv_AppendInt_10 Ybad.laysM249 B n i h0 h1 sv xs w hown hBw hlim htab
def Ybad.laysM176_ren : Go.Shelf.Ren := ⟨fun | 176 => 12 | 249 => 13 | 288 => 14 | 283 => 15 | 284 => 16 | 285 => 17 | 286 => 18 | 129 => 20 | 317 => 19 | 318 => 21 | 319 => 22 | 320 => 23 | 337 => 24 | 338 => 25 | n => n, fun | 37 => 22 | 2 => 2 | 3 => 3 | 53 => 40 | 4 => 4 | 9 => 9 | 171 => 43 | 0 => 0 | 173 => 46 | 212 => 50 | 51 => 51 | 5 => 5 | 20 => 20 | 213 => 52 | 46 => 54 | 232 => 57 | 233 => 58 | n => n, fun | 17 => 0 | 18 => 1 | 19 => 2 | n => n⟩
theorem Ybad.laysM176 : Go.Proofs.LaysM.n176 Ybad.prog Ybad.laysM176_ren := {
  mixed := by kernel_rfl
  f129 := Ybad.func20.trans (congrArg some (by kernel_rfl))
  f176 := Ybad.func12.trans (congrArg some (by kernel_rfl))
  f249 := Ybad.func13.trans (congrArg some (by kernel_rfl))
  f283 := Ybad.func15.trans (congrArg some (by kernel_rfl))
  f284 := Ybad.func16.trans (congrArg some (by kernel_rfl))
  f285 := Ybad.func17.trans (congrArg some (by kernel_rfl))
  f286 := Ybad.func18.trans (congrArg some (by kernel_rfl))
  f288 := Ybad.func14.trans (congrArg some (by kernel_rfl))
  f317 := Ybad.func19.trans (congrArg some (by kernel_rfl))
  f318 := Ybad.func21.trans (congrArg some (by kernel_rfl))
  f319 := Ybad.func22.trans (congrArg some (by kernel_rfl))
  f320 := Ybad.func23.trans (congrArg some (by kernel_rfl))
  f337 := Ybad.func24.trans (congrArg some (by kernel_rfl))
  f338 := Ybad.func25.trans (congrArg some (by kernel_rfl))
  t0 := Ybad.underlying0
  a0 := Ybad.isAgg0
  z0 := Ybad.sizeOf0
  v0 := Ybad.zeroValue0
  t2 := Ybad.underlying2
  a2 := Ybad.isAgg2
  z2 := Ybad.sizeOf2
  v2 := Ybad.zeroValue2
  t3 := Ybad.underlying3
  a3 := Ybad.isAgg3
  z3 := Ybad.sizeOf3
  v3 := Ybad.zeroValue3
  t4 := Ybad.underlying4
  a4 := Ybad.isAgg4
  z4 := Ybad.sizeOf4
  v4 := Ybad.zeroValue4
  t5 := Ybad.underlying5
  a5 := Ybad.isAgg5
  z5 := Ybad.sizeOf5
  v5 := Ybad.zeroValue5
  t9 := Ybad.underlying9
  a9 := Ybad.isAgg9
  z9 := Ybad.sizeOf9
  v9 := Ybad.zeroValue9
  t20 := Ybad.underlying20
  a20 := Ybad.isAgg20
  z20 := Ybad.sizeOf20
  v20 := Ybad.zeroValue20
  t37 := Ybad.underlying22
  a37 := Ybad.isAgg22
  z37 := Ybad.sizeOf22
  v37 := Ybad.zeroValue22
  t46 := Ybad.underlying54
  a46 := Ybad.isAgg54
  z46 := Ybad.sizeOf54
  v46 := Ybad.zeroValue54
  t51 := Ybad.underlying51
  a51 := Ybad.isAgg51
  z51 := Ybad.sizeOf51
  v51 := Ybad.zeroValue51
  t53 := Ybad.underlying40
  a53 := Ybad.isAgg40
  z53 := Ybad.sizeOf40
  v53 := Ybad.zeroValue40
  t171 := Ybad.underlying43
  a171 := Ybad.isAgg43
  z171 := Ybad.sizeOf43
  v171 := Ybad.zeroValue43
  t173 := Ybad.underlying46
  a173 := Ybad.isAgg46
  z173 := Ybad.sizeOf46
  v173 := Ybad.zeroValue46
  t212 := Ybad.underlying50
  a212 := Ybad.isAgg50
  z212 := Ybad.sizeOf50
  v212 := Ybad.zeroValue50
  t213 := Ybad.underlying52
  a213 := Ybad.isAgg52
  z213 := Ybad.sizeOf52
  t232 := Ybad.underlying57
  a232 := Ybad.isAgg57
  z232 := Ybad.sizeOf57
  v232 := Ybad.zeroValue57
  t233 := Ybad.underlying58
  a233 := Ybad.isAgg58
  z233 := Ybad.sizeOf58
  v233 := Ybad.zeroValue58
  g17 := by kernel_rfl
  g18 := by kernel_rfl
  g19 := by kernel_rfl
  i0 := by kernel_rfl
  i2 := by kernel_rfl
  i3 := by kernel_rfl
  i4 := by kernel_rfl
  i5 := by kernel_rfl
  i9 := by kernel_rfl
  i20 := by kernel_rfl
  i37 := by kernel_rfl
  i46 := by kernel_rfl
  i51 := by kernel_rfl
  i53 := by kernel_rfl
  i171 := by kernel_rfl
  i173 := by kernel_rfl
  i212 := by kernel_rfl
  i232 := by kernel_rfl
  i233 := by kernel_rfl
  m17 := by kernel_rfl
  m18 := by kernel_rfl
  m19 := by kernel_rfl }
open Go.RowKit Go.Sort Go.Lib in
/-- strconv.AppendInt: "AppendInt appends the string form of the integer i, as generated by FormatInt, to dst and returns the extended buffer.": AT BASE 10: WHAT COMES BACK OWNS dst's CELLS AND, BEHIND THEM, i's DECIMAL NUMERAL ('Lib.itoa i': at most 20 bytes), for every int64. Below the call's own blocks nothing has turned. (LAID: no walk: one application.) -/
theorem Ybad.strconv_AppendInt_10 (B n : Nat) (i : Int) (h0 : -9223372036854775808 ≤ i) (h1 : i ≤ 9223372036854775807) (sv : Value) (xs : List Value) (w : World) (hown : w.ownsRow B 5 1 sv n xs) (hBw : B ≤ w.heap.size) (hlim : n + 21 ≤ 140737488355328) (htab : Lib.TabBelow Ybad.prog B w "internal/strconv.uint64pow10" .u64 Lib.pow10Tab) :
    Calls Ybad.prog 12 #[sv, .int .i64 i, .int .i64 10] w fun e w' => ∃ v', e = .returned v' ∧ w'.ownsRow B 5 1 v' (n + (Lib.itoa i).length) (xs ++ Lib.byteCells (Lib.itoa i)) ∧ Below B w w' ∧ Lib.OthersKept 5 none w w' := Any.strconv_AppendInt_10 Ybad.laysM176 B n i h0 h1 sv xs w hown hBw hlim htab
def Ybad.laysnb115_ren : Go.Shelf.Ren := ⟨fun | 115 => 8 | n => n, fun | 37 => 22 | 4 => 4 | 9 => 9 | 5 => 5 | n => n, fun | n => n⟩
theorem Ybad.laysnb115 : Go.Proofs.Lays.nb115 Ybad.prog Ybad.laysnb115_ren := {
  mixed := by kernel_rfl
  f115 := Ybad.func8.trans (congrArg some (by kernel_rfl))
  t4 := Ybad.underlying4
  a4 := Ybad.isAgg4
  z4 := Ybad.sizeOf4
  v4 := Ybad.zeroValue4
  t9 := Ybad.underlying9
  a9 := Ybad.isAgg9
  z9 := Ybad.sizeOf9
  v9 := Ybad.zeroValue9
  t37 := Ybad.underlying22
  a37 := Ybad.isAgg22
  z37 := Ybad.sizeOf22
  v37 := Ybad.zeroValue22
  t5 := Ybad.underlying5
  a5 := Ybad.isAgg5
  z5 := Ybad.sizeOf5
  v5 := Ybad.zeroValue5 }
/-- bytes.Equal: WHOLE. (LAID: no walk: one application.) -/
theorem Ybad.bytes_Equal_all (p1 p2 : Option Addr) (n c m d : Nat) (xs ys : List Int) (w : World) (hx : xs.length = n) (hy : ys.length = m) (h1 : Lib.BytesIn w p1 n xs) (h2 : Lib.BytesIn w p2 m ys) :
    Calls Ybad.prog 8 #[.slice p1 n c, .slice p2 m d] w fun e w' => e = .returned (.bool (Lib.bytesOf xs == Lib.bytesOf ys)) ∧ w' = w := Any.bytes_Equal_all Ybad.laysnb115 p1 p2 n c m d xs ys w hx hy h1 h2
def Ybad.lays115_ren : Go.Shelf.Ren := ⟨fun | 115 => 8 | n => n, fun | 37 => 22 | 4 => 4 | 9 => 9 | 5 => 5 | n => n, fun | n => n⟩
theorem Ybad.lays115 : Go.Proofs.Lays.n115 Ybad.prog Ybad.lays115_ren := {
  mixed := by kernel_rfl
  f115 := Ybad.func8.trans (congrArg some (by kernel_rfl))
  t4 := Ybad.underlying4
  a4 := Ybad.isAgg4
  z4 := Ybad.sizeOf4
  v4 := Ybad.zeroValue4
  t9 := Ybad.underlying9
  a9 := Ybad.isAgg9
  z9 := Ybad.sizeOf9
  v9 := Ybad.zeroValue9
  t37 := Ybad.underlying22
  a37 := Ybad.isAgg22
  z37 := Ybad.sizeOf22
  v37 := Ybad.zeroValue22 }
/-- bytes.Equal: "Equal reports whether a and b are the same length and contain the same bytes. A nil argument is equivalent to an empty slice.": IT RETURNS 'the bytes of the one == the bytes of the other'; the world is as it was. THE TWO ARGUMENTS COME AS WHATEVER VALUES, each with the one fact that the walk wants of it: what 'string(..)' of it gives: for a slice whose cells you know: 'run_convert_bytes_arg' (Derived/Laws/BytesArg.lean) hands that fact; for a nil one: 'run_convert_bytes_nil' (with xs := []). (LAID: no walk: one application.) -/
theorem Ybad.bytes_Equal (v1 v2 : Value) (xs ys : List Int) (w : World) (h1 : (convert 22 9 v1).run Ybad.prog w = .ok (.string (strOfNums xs)) w) (h2 : (convert 22 9 v2).run Ybad.prog w = .ok (.string (strOfNums ys)) w) :
    Calls Ybad.prog 8 #[v1, v2] w fun e w' => e = .returned (.bool (Lib.bytesOf xs == Lib.bytesOf ys)) ∧ w' = w := Any.bytes_Equal Ybad.lays115 v1 v2 xs ys w h1 h2
end Go.Proofs
