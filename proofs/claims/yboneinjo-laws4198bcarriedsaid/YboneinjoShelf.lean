/-
  DERIVED: THE SHELF's CONTRACTS AT THIS DUMP, IN PLAIN WORDS (tools/lay-plain.mjs out of 'YbguShelf.lean', which tools/lay-shelf.mjs wrote): THE SAME DECLARATIONS UNDER THE SAME NAMES: 'import', 'namespace', 'open', 'def', 'theorem' AND NOTHING ELSE: no command of the shelf's: FOR A HAND-IN. Each laying: the table of numbers ('.._ren') and one theorem, a field a fact of the dump's own or the kernel's comparison; each contract: ONE APPLICATION.
-/
import Derived.Shelf.Bytes.SlEqualAll
import Derived.Shelf.Spec.SlicesGrow
import Derived.Test.YboneinjoProg
namespace Go.Proofs
open Go.Shelf
def Ybgu.laysnb115_ren : Go.Shelf.Ren := ⟨fun | 115 => 7 | n => n, fun | 37 => 22 | 4 => 4 | 9 => 9 | 5 => 5 | n => n, fun | n => n⟩
theorem Ybgu.laysnb115 : Go.Proofs.Lays.nb115 Ybgu.prog Ybgu.laysnb115_ren := {
  mixed := by kernel_rfl
  f115 := Ybgu.func7.trans (congrArg some (by kernel_rfl))
  t4 := Ybgu.underlying4
  a4 := Ybgu.isAgg4
  z4 := Ybgu.sizeOf4
  v4 := Ybgu.zeroValue4
  t9 := Ybgu.underlying9
  a9 := Ybgu.isAgg9
  z9 := Ybgu.sizeOf9
  v9 := Ybgu.zeroValue9
  t37 := Ybgu.underlying22
  a37 := Ybgu.isAgg22
  z37 := Ybgu.sizeOf22
  v37 := Ybgu.zeroValue22
  t5 := Ybgu.underlying5
  a5 := Ybgu.isAgg5
  z5 := Ybgu.sizeOf5
  v5 := Ybgu.zeroValue5 }
/-- bytes.Equal: WHOLE. (LAID: no walk: one application.) -/
theorem Ybgu.bytes_Equal_all (p1 p2 : Option Addr) (n c m d : Nat) (xs ys : List Int) (w : World) (hx : xs.length = n) (hy : ys.length = m) (h1 : Lib.BytesIn w p1 n xs) (h2 : Lib.BytesIn w p2 m ys) :
    Calls Ybgu.prog 7 #[.slice p1 n c, .slice p2 m d] w fun e w' => e = .returned (.bool (Lib.bytesOf xs == Lib.bytesOf ys)) ∧ w' = w := Any.bytes_Equal_all Ybgu.laysnb115 p1 p2 n c m d xs ys w hx hy h1 h2
def Ybgu.lays8n4_ren : Go.Shelf.Ren := ⟨fun | 4 => 11 | n => n, fun | 22 => 55 | 25 => 67 | 3 => 3 | 4 => 4 | 9 => 9 | 20 => 20 | 0 => 0 | n => n, fun | n => n⟩
theorem Ybgu.lays8n4 : Go.Proofs.Lays8.n4 Ybgu.prog Ybgu.lays8n4_ren := {
  mixed := by kernel_rfl
  f4 := ⟨Ybgu.f11.name, by decide, Ybgu.func11.trans (congrArg some (by kernel_rfl))⟩
  t0 := Ybgu.underlying0
  a0 := Ybgu.isAgg0
  z0 := Ybgu.sizeOf0
  v0 := Ybgu.zeroValue0
  t3 := Ybgu.underlying3
  a3 := Ybgu.isAgg3
  z3 := Ybgu.sizeOf3
  v3 := Ybgu.zeroValue3
  t4 := Ybgu.underlying4
  a4 := Ybgu.isAgg4
  z4 := Ybgu.sizeOf4
  v4 := Ybgu.zeroValue4
  t9 := Ybgu.underlying9
  a9 := Ybgu.isAgg9
  z9 := Ybgu.sizeOf9
  v9 := Ybgu.zeroValue9
  t20 := Ybgu.underlying20
  a20 := Ybgu.isAgg20
  z20 := Ybgu.sizeOf20
  v20 := Ybgu.zeroValue20
  t22 := Ybgu.underlying55
  a22 := Ybgu.isAgg55
  z22 := Ybgu.sizeOf55
  v22 := Ybgu.zeroValue55 }
/-- slices.Grow, there is room. -/
theorem Ybgu.slices_Grow_room (base : Option Addr) (l c n : Nat) (w : World) (hlc : l ≤ c) (hc63 : c ≤ 9223372036854775807) (hn63 : n ≤ 9223372036854775807) (hroom : l + n ≤ c) :
    Calls Ybgu.prog 11 #[.slice base l c, .int .i64 n] w fun e w' => e = .returned (.slice base l c) ∧ w' = w := Any8.slices_Grow_room Ybgu.lays8n4 base l c n w hlc hc63 hn63 hroom
/-- slices.Grow, there is no room. -/
theorem Ybgu.slices_Grow_grow (i0 : TypeInfo) (z : Value) (hi0 : Ybgu.prog.info? 67 = some i0) (hz0 : i0.zero = some z) (hs0 : 0 < i0.size)
    (base : Option Addr) (l c n : Nat) (cs : List Value) (w : World) (hlc : l ≤ c) (hroom : c < l + n) (hbig : (l + n) * i0.bytes ≤ 140737488355328) (h63 : l + n ≤ 4611686018427387904)
    (hcl : cs.length = c * i0.size) (hnil : base = none → c = 0) (hcs : ∀ a, base = some a → ∀ j v, cs[j]? = some v → w.cell? (a.add j) = some v) :
    Calls Ybgu.prog 11 #[.slice base l c, .int .i64 n] w fun e w' =>
      e = .returned (.slice (some ⟨w.heap.size, 0, none⟩) l (grownCap w (l + n) c 67)) ∧
      w' = w.drew.alloc (.cells (cs.toArray ++ Builtin.zeroCells z.cells (l + n - c) ++ Builtin.zeroCells z.cells (grownCap w (l + n) c 67 - (l + n))) 67) := Any8.slices_Grow_grow Ybgu.lays8n4 i0 z hi0 hz0 hs0 base l c n cs w hlc hroom hbig h63 hcl hnil hcs
end Go.Proofs
