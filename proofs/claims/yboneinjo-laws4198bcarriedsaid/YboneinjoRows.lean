/-
  No cell of these rows narrows 'for every input' (looked for: loops, veiled, ifaces, maps, wideKeys, modest, calm, conditions, laid).
  DERIVED. THE GIVEN ROWS OF THIS SEAT. 1 by the template 'for every input the law returns true; each argument reads behind the call as it read before'; 0 by the template 'total and deterministic' (their statements: YboneinjoTotals.lean).
  GIVEN WITH THE SEED: the statements are not yours to turn. If you find one false, say at which input.
  Laid BY PROGRAM, IN A SANDBOX (cutbox-rows.mjs): the forced cells as the released guide's own fill.sh prints them over the translation 0fbc7b25f516b0e3… (all of the seat's roots in one cut). By AI agents, Wed Nov 11 2026. No macro, syntax, notation, axiom, sorry.
-/
import Derived.Test.YboneinjoChecked
import GoSem.Claim
import GoSem.ClaimJoined
import GoSem.ClaimMapViews
import Derived.JoinedTies
import Derived.KernelRfl
namespace Go.Proofs.Yboneinjo
/- THE CELL 'sum', in the pinned program and in every row, IS THE sha256 OF THE DUMP (.gsa) THAT YboneinjoProg.lean LOADS. Nothing in Lean hashes anything: it is a label: what it is worth is what the hold of that sum in a sandbox is worth. -/
noncomputable def Ybgu.pinned : Pinned := { name := "yboneinjo", sum := "0fbc7b25f516b0e37d72f4f2abff0f08a99afbda9928c7e7f9785115d8136620", checked := Ybgu.checked }
namespace Rows
def none {H : Type} : Left H := { results := [], args := [] }

/-- 'link.LawS4198BCarried': WHATEVER THE INPUT: true; the input reads as it did. -/
def lawS4198BCarriedSpec : ChangeSpec := { name := "lawS4198BCarried", fn := fun _ => fun
  | [d1, d2, d3, d4, d5] => { results := [.lit (.bool true)], args := [d1, d2, d3, d4, d5] }
  | _ => none }
def lawS4198BCarriedRow : OpenClaim := { program := "yboneinjo", sum := "0fbc7b25f516b0e37d72f4f2abff0f08a99afbda9928c7e7f9785115d8136620", func := "example.com/antecede/antecede/internal/link.LawS4198BCarried", spec := "lawS4198BCarried", inPlace := ["(*internal/sync.Mutex).Lock", "internal/race.Disable", "sync/atomic.CompareAndSwapInt32", "internal/race.Enable", "internal/race.Acquire", "(*internal/sync.Mutex).lockSlow", "internal/sync.runtime_canSpin", "internal/sync.runtime_doSpin", "internal/sync.throw", "internal/sync.runtime_nanotime", "internal/sync.runtime_SemacquireMutex", "sync/atomic.AddInt32", "(*internal/sync.Mutex).Unlock", "internal/race.ReleaseMerge", "(*internal/sync.Mutex).unlockSlow", "internal/sync.fatal", "internal/sync.runtime_Semrelease"], plainKeys := false, apart := false }
def LawS4198BCarriedSaid : Prop := lawS4198BCarriedRow.holds Ybgu.pinned (OpenSpec.ofChange lawS4198BCarriedSpec)

/-- ITS FALSE NEIGHBOUR: 'it returns false'. Refute it at one input. -/
def lawS4198BCarriedWrong : ChangeSpec := { name := "lawS4198BCarried", fn := fun _ => fun
  | [d1, d2, d3, d4, d5] => { results := [.lit (.bool false)], args := [d1, d2, d3, d4, d5] }
  | _ => none }
def LawS4198BCarriedWrongFalsely : Prop := lawS4198BCarriedRow.holds Ybgu.pinned (OpenSpec.ofChange lawS4198BCarriedWrong)

end Rows
end Go.Proofs.Yboneinjo
