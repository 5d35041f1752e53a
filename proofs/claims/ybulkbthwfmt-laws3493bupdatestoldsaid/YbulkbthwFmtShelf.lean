/-
  DERIVED: THE SHELF's CONTRACTS AT THIS DUMP, IN PLAIN WORDS (tools/lay-plain.mjs out of 'YbafShelf.lean', which tools/lay-shelf.mjs wrote): THE SAME DECLARATIONS UNDER THE SAME NAMES: 'import', 'namespace', 'open', 'def', 'theorem' AND NOTHING ELSE: no command of the shelf's: FOR A HAND-IN. Each laying: the table of numbers ('.._ren') and one theorem, a field a fact of the dump's own or the kernel's comparison; each contract: ONE APPLICATION.
-/
import Derived.Shelf.Bits.Mul64
import Derived.Shelf.Slices.Turned
import Derived.Test.YbulkbthwFmtProg
namespace Go.Proofs
open Go.Shelf
def Ybaf.lays264_ren : Go.Shelf.Ren := ⟨fun | 264 => 18 | n => n, fun | 53 => 34 | 46 => 51 | n => n, fun | n => n⟩
theorem Ybaf.lays264 : Go.Proofs.Lays.n264 Ybaf.prog Ybaf.lays264_ren := {
  mixed := by kernel_rfl
  f264 := Ybaf.func18.trans (congrArg some (by kernel_rfl))
  t46 := Ybaf.underlying51
  a46 := Ybaf.isAgg51
  z46 := Ybaf.sizeOf51
  v46 := Ybaf.zeroValue51
  t53 := Ybaf.underlying34
  a53 := Ybaf.isAgg34
  z53 := Ybaf.sizeOf34
  v53 := Ybaf.zeroValue34 }
open Go.RowKit Go.Lib in
theorem Ybaf.bits_Mul64 (x y : Nat) (hx : x < 18446744073709551616) (hy : y < 18446744073709551616) (w : World) :
    Calls Ybaf.prog 18 #[.int .u64 x, .int .u64 y] w fun e w' => e = .returned (.tuple #[.int .u64 ((x * y / 18446744073709551616 : Nat) : Int), .int .u64 ((x * y % 18446744073709551616 : Nat) : Int)]) ∧ w' = w := Any.bits_Mul64 Ybaf.lays264 x y hx hy w
def Ybaf.lays108_ren : Go.Shelf.Ren := ⟨fun | 108 => 19 | n => n, fun | 28 => 32 | 3 => 3 | 0 => 0 | 4 => 4 | n => n, fun | n => n⟩
theorem Ybaf.lays108 : Go.Proofs.Lays.n108 Ybaf.prog Ybaf.lays108_ren := {
  mixed := by kernel_rfl
  f108 := Ybaf.func19.trans (congrArg some (by kernel_rfl))
  t0 := Ybaf.underlying0
  a0 := Ybaf.isAgg0
  z0 := Ybaf.sizeOf0
  v0 := Ybaf.zeroValue0
  t3 := Ybaf.underlying3
  a3 := Ybaf.isAgg3
  z3 := Ybaf.sizeOf3
  v3 := Ybaf.zeroValue3
  t4 := Ybaf.underlying4
  a4 := Ybaf.isAgg4
  z4 := Ybaf.sizeOf4
  v4 := Ybaf.zeroValue4
  t28 := Ybaf.underlying32
  a28 := Ybaf.isAgg32
  z28 := Ybaf.sizeOf32
  v28 := Ybaf.zeroValue32 }
open Go.Lib in
/-- slices.Index at []int: "Index returns the index of the first occurrence of v in s, or -1 if not present.": IT RETURNS 'Lib.idxOf (the elements) v'; the world is as it was. 'zs': what the cells behind the slice's address hold (its spare capacity too, if you have it); 'zs.take n': its elements. (LAID: no walk: one application.) -/
theorem Ybaf.slices_Index_int (b off n c : Nat) (zs : List Int) (x : Int) (w : World) (hz : n ≤ zs.length) (hbig : n ≤ 9223372036854775807) (hc : ∀ j, j < zs.length → w.cell? ⟨b, off + j, none⟩ = some (.int .i64 (zs.getD j 0))) :
    Calls Ybaf.prog 19 #[.slice (some ⟨b, off, none⟩) n c, .int .i64 x] w fun e w' => e = .returned (.int .i64 (Lib.idxOf (zs.take n) x)) ∧ w' = w := Any.slices_Index_int Ybaf.lays108 b off n c zs x w hz hbig hc
open Go.Lib in
/-- The same at a slice of length 0, a nil one too: no cell is known, none is asked for. (LAID: no walk: one application.) -/
theorem Ybaf.slices_Index_int_empty (a : Option Addr) (c : Nat) (x : Int) (w : World) :
    Calls Ybaf.prog 19 #[.slice a 0 c, .int .i64 x] w fun e w' => e = .returned (.int .i64 (Lib.idxOf [] x)) ∧ w' = w := Any.slices_Index_int_empty Ybaf.lays108 a c x w
def Ybaf.lays107_ren : Go.Shelf.Ren := ⟨fun | 107 => 15 | 108 => 19 | n => n, fun | 28 => 32 | 3 => 3 | 4 => 4 | 0 => 0 | n => n, fun | n => n⟩
theorem Ybaf.lays107 : Go.Proofs.Lays.n107 Ybaf.prog Ybaf.lays107_ren := {
  mixed := by kernel_rfl
  f107 := Ybaf.func15.trans (congrArg some (by kernel_rfl))
  f108 := Ybaf.func19.trans (congrArg some (by kernel_rfl))
  t0 := Ybaf.underlying0
  a0 := Ybaf.isAgg0
  z0 := Ybaf.sizeOf0
  v0 := Ybaf.zeroValue0
  t3 := Ybaf.underlying3
  a3 := Ybaf.isAgg3
  z3 := Ybaf.sizeOf3
  v3 := Ybaf.zeroValue3
  t4 := Ybaf.underlying4
  a4 := Ybaf.isAgg4
  z4 := Ybaf.sizeOf4
  v4 := Ybaf.zeroValue4
  t28 := Ybaf.underlying32
  a28 := Ybaf.isAgg32
  z28 := Ybaf.sizeOf32
  v28 := Ybaf.zeroValue32 }
open Go.Lib in
/-- slices.Contains at []int: "Contains reports whether v is present in s.": IT RETURNS 'elements.contains v'; the world is as it was. ITS CALLEE slices.Index IS MET BY ITS OWN CONTRACT OFF THE SHELF (lay that first): no loop is walked here. (LAID: no walk: one application.) -/
theorem Ybaf.slices_Contains_int (b off n c : Nat) (zs : List Int) (x : Int) (w : World) (hz : n ≤ zs.length) (hbig : n ≤ 9223372036854775807) (hc : ∀ j, j < zs.length → w.cell? ⟨b, off + j, none⟩ = some (.int .i64 (zs.getD j 0))) :
    Calls Ybaf.prog 15 #[.slice (some ⟨b, off, none⟩) n c, .int .i64 x] w fun e w' => e = .returned (.bool ((zs.take n).contains x)) ∧ w' = w := Any.slices_Contains_int Ybaf.lays107 b off n c zs x w hz hbig hc
open Go.Lib in
/-- The same at a slice of length 0, a nil one too. (LAID: no walk: one application.) -/
theorem Ybaf.slices_Contains_int_empty (a : Option Addr) (c : Nat) (x : Int) (w : World) :
    Calls Ybaf.prog 15 #[.slice a 0 c, .int .i64 x] w fun e w' => e = .returned (.bool false) ∧ w' = w := Any.slices_Contains_int_empty Ybaf.lays107 a c x w
end Go.Proofs
