/-
  DERIVED: THE SHELF's CONTRACTS AT THIS DUMP, IN PLAIN WORDS (tools/lay-plain.mjs out of 'YbgwShelf.lean', which tools/lay-shelf.mjs wrote): THE SAME DECLARATIONS UNDER THE SAME NAMES: 'import', 'namespace', 'open', 'def', 'theorem' AND NOTHING ELSE: no command of the shelf's: FOR A HAND-IN. Each laying: the table of numbers ('.._ren') and one theorem, a field a fact of the dump's own or the kernel's comparison; each contract: ONE APPLICATION.
-/
import Derived.Shelf.Slices.Turned
import Derived.Test.YboneinjqProg
namespace Go.Proofs
open Go.Shelf
def Ybgw.lays108_ren : Go.Shelf.Ren := ⟨fun | 108 => 7 | n => n, fun | 28 => 23 | 3 => 3 | 0 => 0 | 4 => 4 | n => n, fun | n => n⟩
theorem Ybgw.lays108 : Go.Proofs.Lays.n108 Ybgw.prog Ybgw.lays108_ren := {
  mixed := by kernel_rfl
  f108 := Ybgw.func7.trans (congrArg some (by kernel_rfl))
  t0 := Ybgw.underlying0
  a0 := Ybgw.isAgg0
  z0 := Ybgw.sizeOf0
  v0 := Ybgw.zeroValue0
  t3 := Ybgw.underlying3
  a3 := Ybgw.isAgg3
  z3 := Ybgw.sizeOf3
  v3 := Ybgw.zeroValue3
  t4 := Ybgw.underlying4
  a4 := Ybgw.isAgg4
  z4 := Ybgw.sizeOf4
  v4 := Ybgw.zeroValue4
  t28 := Ybgw.underlying23
  a28 := Ybgw.isAgg23
  z28 := Ybgw.sizeOf23
  v28 := Ybgw.zeroValue23 }
open Go.Lib in
/-- slices.Index at []int: "Index returns the index of the first occurrence of v in s, or -1 if not present.": IT RETURNS 'Lib.idxOf (the elements) v'; the world is as it was. 'zs': what the cells behind the slice's address hold (its spare capacity too, if you have it); 'zs.take n': its elements. (LAID: no walk: one application.) -/
theorem Ybgw.slices_Index_int (b off n c : Nat) (zs : List Int) (x : Int) (w : World) (hz : n ≤ zs.length) (hbig : n ≤ 9223372036854775807) (hc : ∀ j, j < zs.length → w.cell? ⟨b, off + j, none⟩ = some (.int .i64 (zs.getD j 0))) :
    Calls Ybgw.prog 7 #[.slice (some ⟨b, off, none⟩) n c, .int .i64 x] w fun e w' => e = .returned (.int .i64 (Lib.idxOf (zs.take n) x)) ∧ w' = w := Any.slices_Index_int Ybgw.lays108 b off n c zs x w hz hbig hc
open Go.Lib in
/-- The same at a slice of length 0, a nil one too: no cell is known, none is asked for. (LAID: no walk: one application.) -/
theorem Ybgw.slices_Index_int_empty (a : Option Addr) (c : Nat) (x : Int) (w : World) :
    Calls Ybgw.prog 7 #[.slice a 0 c, .int .i64 x] w fun e w' => e = .returned (.int .i64 (Lib.idxOf [] x)) ∧ w' = w := Any.slices_Index_int_empty Ybgw.lays108 a c x w
def Ybgw.lays107_ren : Go.Shelf.Ren := ⟨fun | 107 => 6 | 108 => 7 | n => n, fun | 28 => 23 | 3 => 3 | 4 => 4 | 0 => 0 | n => n, fun | n => n⟩
theorem Ybgw.lays107 : Go.Proofs.Lays.n107 Ybgw.prog Ybgw.lays107_ren := {
  mixed := by kernel_rfl
  f107 := Ybgw.func6.trans (congrArg some (by kernel_rfl))
  f108 := Ybgw.func7.trans (congrArg some (by kernel_rfl))
  t0 := Ybgw.underlying0
  a0 := Ybgw.isAgg0
  z0 := Ybgw.sizeOf0
  v0 := Ybgw.zeroValue0
  t3 := Ybgw.underlying3
  a3 := Ybgw.isAgg3
  z3 := Ybgw.sizeOf3
  v3 := Ybgw.zeroValue3
  t4 := Ybgw.underlying4
  a4 := Ybgw.isAgg4
  z4 := Ybgw.sizeOf4
  v4 := Ybgw.zeroValue4
  t28 := Ybgw.underlying23
  a28 := Ybgw.isAgg23
  z28 := Ybgw.sizeOf23
  v28 := Ybgw.zeroValue23 }
open Go.Lib in
/-- slices.Contains at []int: "Contains reports whether v is present in s.": IT RETURNS 'elements.contains v'; the world is as it was. ITS CALLEE slices.Index IS MET BY ITS OWN CONTRACT OFF THE SHELF (lay that first): no loop is walked here. (LAID: no walk: one application.) -/
theorem Ybgw.slices_Contains_int (b off n c : Nat) (zs : List Int) (x : Int) (w : World) (hz : n ≤ zs.length) (hbig : n ≤ 9223372036854775807) (hc : ∀ j, j < zs.length → w.cell? ⟨b, off + j, none⟩ = some (.int .i64 (zs.getD j 0))) :
    Calls Ybgw.prog 6 #[.slice (some ⟨b, off, none⟩) n c, .int .i64 x] w fun e w' => e = .returned (.bool ((zs.take n).contains x)) ∧ w' = w := Any.slices_Contains_int Ybgw.lays107 b off n c zs x w hz hbig hc
open Go.Lib in
/-- The same at a slice of length 0, a nil one too. (LAID: no walk: one application.) -/
theorem Ybgw.slices_Contains_int_empty (a : Option Addr) (c : Nat) (x : Int) (w : World) :
    Calls Ybgw.prog 6 #[.slice a 0 c, .int .i64 x] w fun e w' => e = .returned (.bool false) ∧ w' = w := Any.slices_Contains_int_empty Ybgw.lays107 a c x w
end Go.Proofs
