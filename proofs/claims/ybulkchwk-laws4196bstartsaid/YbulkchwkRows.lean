/-
  No cell of these rows narrows 'for every input' (looked for: loops, veiled, ifaces, maps, wideKeys, modest, calm, conditions, laid).
  DERIVED. THE GIVEN ROWS OF THIS SEAT. 2 by the template 'for every input the law returns true; each argument reads behind the call as it read before'; 0 by the template 'total and deterministic' (their statements: YbulkchwkTotals.lean).
  GIVEN WITH THE SEED: the statements are not yours to turn. If you find one false, say at which input.
  Laid BY PROGRAM, IN A SANDBOX (cutbox-rows.mjs): the forced cells as the released guide's own fill.sh prints them over the translation d24cb2471061ecf6… (all of the seat's roots in one cut). By AI agents, Wed Nov 11 2026. No macro, syntax, notation, axiom, sorry.
-/
import Derived.Test.YbulkchwkChecked
import GoSem.Claim
import GoSem.ClaimJoined
import GoSem.ClaimMapViews
import Derived.JoinedTies
import Derived.KernelRfl
namespace Go.Proofs.Ybulkchwk
/- THE CELL 'sum', in the pinned program and in every row, IS THE sha256 OF THE DUMP (.gsa) THAT YbulkchwkProg.lean LOADS. Nothing in Lean hashes anything: it is a label: what it is worth is what the hold of that sum in a sandbox is worth. -/
noncomputable def Yba.pinned : Pinned := { name := "ybulkchwk", sum := "d24cb2471061ecf658cd0179abd948bf8f79ce99625867682a31b869aaffefe1", checked := Yba.checked }
namespace Rows
def none {H : Type} : Left H := { results := [], args := [] }

/-- 'hailstone.LawS4196BExact': WHATEVER THE INPUT: true; the input reads as it did. -/
def lawS4196BExactSpec : ChangeSpec := { name := "lawS4196BExact", fn := fun _ => fun
  | [d1, d2, d3, d4, d5, d6, d7] => { results := [.lit (.bool true)], args := [d1, d2, d3, d4, d5, d6, d7] }
  | _ => none }
def lawS4196BExactRow : OpenClaim := { program := "ybulkchwk", sum := "d24cb2471061ecf658cd0179abd948bf8f79ce99625867682a31b869aaffefe1", func := "example.com/hailstone/hailstone.LawS4196BExact", spec := "lawS4196BExact", apart := false }
def LawS4196BExactSaid : Prop := lawS4196BExactRow.holds Yba.pinned (OpenSpec.ofChange lawS4196BExactSpec)

/-- ITS FALSE NEIGHBOUR: 'it returns false'. Refute it at one input. -/
def lawS4196BExactWrong : ChangeSpec := { name := "lawS4196BExact", fn := fun _ => fun
  | [d1, d2, d3, d4, d5, d6, d7] => { results := [.lit (.bool false)], args := [d1, d2, d3, d4, d5, d6, d7] }
  | _ => none }
def LawS4196BExactWrongFalsely : Prop := lawS4196BExactRow.holds Yba.pinned (OpenSpec.ofChange lawS4196BExactWrong)

/-- 'hailstone.LawS4196BStart': WHATEVER THE INPUT: true; the input reads as it did. -/
def lawS4196BStartSpec : ChangeSpec := { name := "lawS4196BStart", fn := fun _ => fun
  | [d1, d2, d3, d4] => { results := [.lit (.bool true)], args := [d1, d2, d3, d4] }
  | _ => none }
def lawS4196BStartRow : OpenClaim := { program := "ybulkchwk", sum := "d24cb2471061ecf658cd0179abd948bf8f79ce99625867682a31b869aaffefe1", func := "example.com/hailstone/hailstone.LawS4196BStart", spec := "lawS4196BStart", apart := false }
def LawS4196BStartSaid : Prop := lawS4196BStartRow.holds Yba.pinned (OpenSpec.ofChange lawS4196BStartSpec)

/-- ITS FALSE NEIGHBOUR: 'it returns false'. Refute it at one input. -/
def lawS4196BStartWrong : ChangeSpec := { name := "lawS4196BStart", fn := fun _ => fun
  | [d1, d2, d3, d4] => { results := [.lit (.bool false)], args := [d1, d2, d3, d4] }
  | _ => none }
def LawS4196BStartWrongFalsely : Prop := lawS4196BStartRow.holds Yba.pinned (OpenSpec.ofChange lawS4196BStartWrong)

end Rows
end Go.Proofs.Ybulkchwk
