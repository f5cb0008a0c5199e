/-
  DERIVED: THE SHELF's CONTRACTS AT THIS DUMP, IN PLAIN WORDS (tools/lay-plain.mjs out of 'YbgxShelf.lean', which tools/lay-shelf.mjs wrote): THE SAME DECLARATIONS UNDER THE SAME NAMES: 'import', 'namespace', 'open', 'def', 'theorem' AND NOTHING ELSE: no command of the shelf's: FOR A HAND-IN. Each laying: the table of numbers ('.._ren') and one theorem, a field a fact of the dump's own or the kernel's comparison; each contract: ONE APPLICATION.
-/
import Derived.Shelf.Slices.Turned
import Derived.Test.YboneinjrProg
namespace Go.Proofs
open Go.Shelf
def Ybgx.lays108_ren : Go.Shelf.Ren := ⟨fun | 108 => 6 | n => n, fun | 28 => 40 | 3 => 3 | 0 => 0 | 4 => 4 | n => n, fun | n => n⟩
theorem Ybgx.lays108 : Go.Proofs.Lays.n108 Ybgx.prog Ybgx.lays108_ren := {
  mixed := by kernel_rfl
  f108 := Ybgx.func6.trans (congrArg some (by kernel_rfl))
  t0 := Ybgx.underlying0
  a0 := Ybgx.isAgg0
  z0 := Ybgx.sizeOf0
  v0 := Ybgx.zeroValue0
  t3 := Ybgx.underlying3
  a3 := Ybgx.isAgg3
  z3 := Ybgx.sizeOf3
  v3 := Ybgx.zeroValue3
  t4 := Ybgx.underlying4
  a4 := Ybgx.isAgg4
  z4 := Ybgx.sizeOf4
  v4 := Ybgx.zeroValue4
  t28 := Ybgx.underlying40
  a28 := Ybgx.isAgg40
  z28 := Ybgx.sizeOf40
  v28 := Ybgx.zeroValue40 }
open Go.Lib in
/-- slices.Index at []int: "Index returns the index of the first occurrence of v in s, or -1 if not present.": IT RETURNS 'Lib.idxOf (the elements) v'; the world is as it was. 'zs': what the cells behind the slice's address hold (its spare capacity too, if you have it); 'zs.take n': its elements. (LAID: no walk: one application.) -/
theorem Ybgx.slices_Index_int (b off n c : Nat) (zs : List Int) (x : Int) (w : World) (hz : n ≤ zs.length) (hbig : n ≤ 9223372036854775807) (hc : ∀ j, j < zs.length → w.cell? ⟨b, off + j, none⟩ = some (.int .i64 (zs.getD j 0))) :
    Calls Ybgx.prog 6 #[.slice (some ⟨b, off, none⟩) n c, .int .i64 x] w fun e w' => e = .returned (.int .i64 (Lib.idxOf (zs.take n) x)) ∧ w' = w := Any.slices_Index_int Ybgx.lays108 b off n c zs x w hz hbig hc
open Go.Lib in
/-- The same at a slice of length 0, a nil one too: no cell is known, none is asked for. (LAID: no walk: one application.) -/
theorem Ybgx.slices_Index_int_empty (a : Option Addr) (c : Nat) (x : Int) (w : World) :
    Calls Ybgx.prog 6 #[.slice a 0 c, .int .i64 x] w fun e w' => e = .returned (.int .i64 (Lib.idxOf [] x)) ∧ w' = w := Any.slices_Index_int_empty Ybgx.lays108 a c x w
def Ybgx.lays107_ren : Go.Shelf.Ren := ⟨fun | 107 => 5 | 108 => 6 | n => n, fun | 28 => 40 | 3 => 3 | 4 => 4 | 0 => 0 | n => n, fun | n => n⟩
theorem Ybgx.lays107 : Go.Proofs.Lays.n107 Ybgx.prog Ybgx.lays107_ren := {
  mixed := by kernel_rfl
  f107 := Ybgx.func5.trans (congrArg some (by kernel_rfl))
  f108 := Ybgx.func6.trans (congrArg some (by kernel_rfl))
  t0 := Ybgx.underlying0
  a0 := Ybgx.isAgg0
  z0 := Ybgx.sizeOf0
  v0 := Ybgx.zeroValue0
  t3 := Ybgx.underlying3
  a3 := Ybgx.isAgg3
  z3 := Ybgx.sizeOf3
  v3 := Ybgx.zeroValue3
  t4 := Ybgx.underlying4
  a4 := Ybgx.isAgg4
  z4 := Ybgx.sizeOf4
  v4 := Ybgx.zeroValue4
  t28 := Ybgx.underlying40
  a28 := Ybgx.isAgg40
  z28 := Ybgx.sizeOf40
  v28 := Ybgx.zeroValue40 }
open Go.Lib in
/-- slices.Contains at []int: "Contains reports whether v is present in s.": IT RETURNS 'elements.contains v'; the world is as it was. ITS CALLEE slices.Index IS MET BY ITS OWN CONTRACT OFF THE SHELF (lay that first): no loop is walked here. (LAID: no walk: one application.) -/
theorem Ybgx.slices_Contains_int (b off n c : Nat) (zs : List Int) (x : Int) (w : World) (hz : n ≤ zs.length) (hbig : n ≤ 9223372036854775807) (hc : ∀ j, j < zs.length → w.cell? ⟨b, off + j, none⟩ = some (.int .i64 (zs.getD j 0))) :
    Calls Ybgx.prog 5 #[.slice (some ⟨b, off, none⟩) n c, .int .i64 x] w fun e w' => e = .returned (.bool ((zs.take n).contains x)) ∧ w' = w := Any.slices_Contains_int Ybgx.lays107 b off n c zs x w hz hbig hc
open Go.Lib in
/-- The same at a slice of length 0, a nil one too. (LAID: no walk: one application.) -/
theorem Ybgx.slices_Contains_int_empty (a : Option Addr) (c : Nat) (x : Int) (w : World) :
    Calls Ybgx.prog 5 #[.slice a 0 c, .int .i64 x] w fun e w' => e = .returned (.bool false) ∧ w' = w := Any.slices_Contains_int_empty Ybgx.lays107 a c x w
end Go.Proofs
