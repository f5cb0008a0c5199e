/-
  No cell of these rows narrows 'for every input' (looked for: loops, veiled, ifaces, maps, wideKeys, modest, calm, conditions, laid).
  DERIVED. THE GIVEN ROWS OF THIS SEAT. 1 by the template 'for every input the law returns true; each argument reads behind the call as it read before'; 0 by the template 'total and deterministic' (their statements: YboneinjrTotals.lean).
  GIVEN WITH THE SEED: the statements are not yours to turn. If you find one false, say at which input.
  Laid BY PROGRAM, IN A SANDBOX (cutbox-rows.mjs): the forced cells as the released guide's own fill.sh prints them over the translation 77526be89395d9a1… (all of the seat's roots in one cut). By AI agents, Wed Nov 11 2026. No macro, syntax, notation, axiom, sorry.
-/
import Derived.Test.YboneinjrChecked
import GoSem.Claim
import GoSem.ClaimJoined
import GoSem.ClaimMapViews
import Derived.JoinedTies
import Derived.KernelRfl
namespace Go.Proofs.Yboneinjr
/- THE CELL 'sum', in the pinned program and in every row, IS THE sha256 OF THE DUMP (.gsa) THAT YboneinjrProg.lean LOADS. Nothing in Lean hashes anything: it is a label: what it is worth is what the hold of that sum in a sandbox is worth. -/
noncomputable def Ybgx.pinned : Pinned := { name := "yboneinjr", sum := "77526be89395d9a149736b38cee12ef54e2af1a30e2e98b26d4aede574f2e0f5", checked := Ybgx.checked }
namespace Rows
def none {H : Type} : Left H := { results := [], args := [] }

/-- 'scenario.LawS4198CMember': WHATEVER THE INPUT: true; the input reads as it did. -/
def lawS4198CMemberSpec : ChangeSpec := { name := "lawS4198CMember", fn := fun _ => fun
  | [d1, d2, d3] => { results := [.lit (.bool true)], args := [d1, d2, d3] }
  | _ => none }
def lawS4198CMemberRow : OpenClaim := { program := "yboneinjr", sum := "77526be89395d9a149736b38cee12ef54e2af1a30e2e98b26d4aede574f2e0f5", func := "example.com/antecede/antecede/internal/scenario.LawS4198CMember", spec := "lawS4198CMember", apart := false }
def LawS4198CMemberSaid : Prop := lawS4198CMemberRow.holds Ybgx.pinned (OpenSpec.ofChange lawS4198CMemberSpec)

/-- ITS FALSE NEIGHBOUR: 'it returns false'. Refute it at one input. -/
def lawS4198CMemberWrong : ChangeSpec := { name := "lawS4198CMember", fn := fun _ => fun
  | [d1, d2, d3] => { results := [.lit (.bool false)], args := [d1, d2, d3] }
  | _ => none }
def LawS4198CMemberWrongFalsely : Prop := lawS4198CMemberRow.holds Ybgx.pinned (OpenSpec.ofChange lawS4198CMemberWrong)

end Rows
end Go.Proofs.Yboneinjr
