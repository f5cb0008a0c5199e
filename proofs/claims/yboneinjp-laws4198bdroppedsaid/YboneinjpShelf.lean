/-
  DERIVED: THE SHELF's CONTRACTS AT THIS DUMP, IN PLAIN WORDS (tools/lay-plain.mjs out of 'YbgvShelf.lean', which tools/lay-shelf.mjs wrote): THE SAME DECLARATIONS UNDER THE SAME NAMES: 'import', 'namespace', 'open', 'def', 'theorem' AND NOTHING ELSE: no command of the shelf's: FOR A HAND-IN. Each laying: the table of numbers ('.._ren') and one theorem, a field a fact of the dump's own or the kernel's comparison; each contract: ONE APPLICATION.
-/
import Derived.Shelf.Bytes.SlEqualAll
import Derived.Shelf.Spec.SlicesGrow
import Derived.Test.YboneinjpProg
namespace Go.Proofs
open Go.Shelf
def Ybgv.laysnb115_ren : Go.Shelf.Ren := ⟨fun | 115 => 7 | n => n, fun | 37 => 22 | 4 => 4 | 9 => 9 | 5 => 5 | n => n, fun | n => n⟩
theorem Ybgv.laysnb115 : Go.Proofs.Lays.nb115 Ybgv.prog Ybgv.laysnb115_ren := {
  mixed := by kernel_rfl
  f115 := Ybgv.func7.trans (congrArg some (by kernel_rfl))
  t4 := Ybgv.underlying4
  a4 := Ybgv.isAgg4
  z4 := Ybgv.sizeOf4
  v4 := Ybgv.zeroValue4
  t9 := Ybgv.underlying9
  a9 := Ybgv.isAgg9
  z9 := Ybgv.sizeOf9
  v9 := Ybgv.zeroValue9
  t37 := Ybgv.underlying22
  a37 := Ybgv.isAgg22
  z37 := Ybgv.sizeOf22
  v37 := Ybgv.zeroValue22
  t5 := Ybgv.underlying5
  a5 := Ybgv.isAgg5
  z5 := Ybgv.sizeOf5
  v5 := Ybgv.zeroValue5 }
/-- bytes.Equal: WHOLE. (LAID: no walk: one application.) -/
theorem Ybgv.bytes_Equal_all (p1 p2 : Option Addr) (n c m d : Nat) (xs ys : List Int) (w : World) (hx : xs.length = n) (hy : ys.length = m) (h1 : Lib.BytesIn w p1 n xs) (h2 : Lib.BytesIn w p2 m ys) :
    Calls Ybgv.prog 7 #[.slice p1 n c, .slice p2 m d] w fun e w' => e = .returned (.bool (Lib.bytesOf xs == Lib.bytesOf ys)) ∧ w' = w := Any.bytes_Equal_all Ybgv.laysnb115 p1 p2 n c m d xs ys w hx hy h1 h2
def Ybgv.lays8n4_ren : Go.Shelf.Ren := ⟨fun | 4 => 11 | n => n, fun | 22 => 35 | 25 => 46 | 3 => 3 | 4 => 4 | 9 => 9 | 20 => 20 | 0 => 0 | n => n, fun | n => n⟩
theorem Ybgv.lays8n4 : Go.Proofs.Lays8.n4 Ybgv.prog Ybgv.lays8n4_ren := {
  mixed := by kernel_rfl
  f4 := ⟨Ybgv.f11.name, by decide, Ybgv.func11.trans (congrArg some (by kernel_rfl))⟩
  t0 := Ybgv.underlying0
  a0 := Ybgv.isAgg0
  z0 := Ybgv.sizeOf0
  v0 := Ybgv.zeroValue0
  t3 := Ybgv.underlying3
  a3 := Ybgv.isAgg3
  z3 := Ybgv.sizeOf3
  v3 := Ybgv.zeroValue3
  t4 := Ybgv.underlying4
  a4 := Ybgv.isAgg4
  z4 := Ybgv.sizeOf4
  v4 := Ybgv.zeroValue4
  t9 := Ybgv.underlying9
  a9 := Ybgv.isAgg9
  z9 := Ybgv.sizeOf9
  v9 := Ybgv.zeroValue9
  t20 := Ybgv.underlying20
  a20 := Ybgv.isAgg20
  z20 := Ybgv.sizeOf20
  v20 := Ybgv.zeroValue20
  t22 := Ybgv.underlying35
  a22 := Ybgv.isAgg35
  z22 := Ybgv.sizeOf35
  v22 := Ybgv.zeroValue35 }
/-- slices.Grow, there is room. -/
theorem Ybgv.slices_Grow_room (base : Option Addr) (l c n : Nat) (w : World) (hlc : l ≤ c) (hc63 : c ≤ 9223372036854775807) (hn63 : n ≤ 9223372036854775807) (hroom : l + n ≤ c) :
    Calls Ybgv.prog 11 #[.slice base l c, .int .i64 n] w fun e w' => e = .returned (.slice base l c) ∧ w' = w := Any8.slices_Grow_room Ybgv.lays8n4 base l c n w hlc hc63 hn63 hroom
/-- slices.Grow, there is no room. -/
theorem Ybgv.slices_Grow_grow (i0 : TypeInfo) (z : Value) (hi0 : Ybgv.prog.info? 46 = some i0) (hz0 : i0.zero = some z) (hs0 : 0 < i0.size)
    (base : Option Addr) (l c n : Nat) (cs : List Value) (w : World) (hlc : l ≤ c) (hroom : c < l + n) (hbig : (l + n) * i0.bytes ≤ 140737488355328) (h63 : l + n ≤ 4611686018427387904)
    (hcl : cs.length = c * i0.size) (hnil : base = none → c = 0) (hcs : ∀ a, base = some a → ∀ j v, cs[j]? = some v → w.cell? (a.add j) = some v) :
    Calls Ybgv.prog 11 #[.slice base l c, .int .i64 n] w fun e w' =>
      e = .returned (.slice (some ⟨w.heap.size, 0, none⟩) l (grownCap w (l + n) c 46)) ∧
      w' = w.drew.alloc (.cells (cs.toArray ++ Builtin.zeroCells z.cells (l + n - c) ++ Builtin.zeroCells z.cells (grownCap w (l + n) c 46 - (l + n))) 46) := Any8.slices_Grow_grow Ybgv.lays8n4 i0 z hi0 hz0 hs0 base l c n cs w hlc hroom hbig h63 hcl hnil hcs
end Go.Proofs
