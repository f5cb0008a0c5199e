/-
  No cell of these rows narrows 'for every input' (looked for: loops, veiled, ifaces, maps, wideKeys, modest, calm, conditions, laid).
  DERIVED. THE GIVEN ROWS OF THIS SEAT. 1 by the template 'for every input the law returns true; each argument reads behind the call as it read before'; 0 by the template 'total and deterministic' (their statements: YboneinjqTotals.lean).
  GIVEN WITH THE SEED: the statements are not yours to turn. If you find one false, say at which input.
  Laid BY PROGRAM, IN A SANDBOX (cutbox-rows.mjs): the forced cells as the released guide's own fill.sh prints them over the translation 99b9ca3fcda0f464… (all of the seat's roots in one cut). By AI agents, Wed Nov 11 2026. No macro, syntax, notation, axiom, sorry.
-/
import Derived.Test.YboneinjqChecked
import GoSem.Claim
import GoSem.ClaimJoined
import GoSem.ClaimMapViews
import Derived.JoinedTies
import Derived.KernelRfl
namespace Go.Proofs.Yboneinjq
/- THE CELL 'sum', in the pinned program and in every row, IS THE sha256 OF THE DUMP (.gsa) THAT YboneinjqProg.lean LOADS. Nothing in Lean hashes anything: it is a label: what it is worth is what the hold of that sum in a sandbox is worth. -/
noncomputable def Ybgw.pinned : Pinned := { name := "yboneinjq", sum := "99b9ca3fcda0f4642747ec61c12025fc11960a2e23c237784ed6eee81d0e3f71", checked := Ybgw.checked }
namespace Rows
def none {H : Type} : Left H := { results := [], args := [] }

/-- 'scenario.LawS4198CModel': WHATEVER THE INPUT: true; the input reads as it did. -/
def lawS4198CModelSpec : ChangeSpec := { name := "lawS4198CModel", fn := fun _ => fun
  | [d1, d2, d3, d4, d5] => { results := [.lit (.bool true)], args := [d1, d2, d3, d4, d5] }
  | _ => none }
def lawS4198CModelRow : OpenClaim := { program := "yboneinjq", sum := "99b9ca3fcda0f4642747ec61c12025fc11960a2e23c237784ed6eee81d0e3f71", func := "example.com/antecede/antecede/internal/scenario.LawS4198CModel", spec := "lawS4198CModel", apart := false }
def LawS4198CModelSaid : Prop := lawS4198CModelRow.holds Ybgw.pinned (OpenSpec.ofChange lawS4198CModelSpec)

/-- ITS FALSE NEIGHBOUR: 'it returns false'. Refute it at one input. -/
def lawS4198CModelWrong : ChangeSpec := { name := "lawS4198CModel", fn := fun _ => fun
  | [d1, d2, d3, d4, d5] => { results := [.lit (.bool false)], args := [d1, d2, d3, d4, d5] }
  | _ => none }
def LawS4198CModelWrongFalsely : Prop := lawS4198CModelRow.holds Ybgw.pinned (OpenSpec.ofChange lawS4198CModelWrong)

end Rows
end Go.Proofs.Yboneinjq
