/-
  No cell of these rows narrows 'for every input' (looked for: loops, veiled, ifaces, maps, wideKeys, modest, calm, conditions, laid).
  DERIVED. THE GIVEN ROWS OF THIS SEAT. 1 by the template 'for every input the law returns true; each argument reads behind the call as it read before'; 0 by the template 'total and deterministic' (their statements: YbulkcikyTotals.lean).
  GIVEN WITH THE SEED: the statements are not yours to turn. If you find one false, say at which input.
  Laid BY PROGRAM, IN A SANDBOX (cutbox-rows.mjs): the forced cells as the released guide's own fill.sh prints them over the translation bae473ecde8e95b3… (all of the seat's roots in one cut). By AI agents, Wed Nov 11 2026. No macro, syntax, notation, axiom, sorry.
-/
import Derived.Test.YbulkcikyChecked
import GoSem.Claim
import GoSem.ClaimJoined
import GoSem.ClaimMapViews
import Derived.JoinedTies
import Derived.KernelRfl
namespace Go.Proofs.Ybulkciky
/- THE CELL 'sum', in the pinned program and in every row, IS THE sha256 OF THE DUMP (.gsa) THAT YbulkcikyProg.lean LOADS. Nothing in Lean hashes anything: it is a label: what it is worth is what the hold of that sum in a sandbox is worth. -/
noncomputable def Yba.pinned : Pinned := { name := "ybulkciky", sum := "bae473ecde8e95b3ac79c5a5b06cacfacaad1104d65860fe449e1d699ab38579", checked := Yba.checked }
namespace Rows
def none {H : Type} : Left H := { results := [], args := [] }

/-- 'constant.LawS4223AReady': WHATEVER THE INPUT: true; the input reads as it did. -/
def lawS4223AReadySpec : ChangeSpec := { name := "lawS4223AReady", fn := fun _ => fun
  | [d1, d2, d3, d4] => { results := [.lit (.bool true)], args := [d1, d2, d3, d4] }
  | _ => none }
def lawS4223AReadyRow : OpenClaim := { program := "ybulkciky", sum := "bae473ecde8e95b3ac79c5a5b06cacfacaad1104d65860fe449e1d699ab38579", func := "example.com/corbel/corbel/internal/constant.LawS4223AReady", spec := "lawS4223AReady", inPlace := ["sync/atomic.LoadPointer", "sync/atomic.StorePointer"], apart := false }
def LawS4223AReadySaid : Prop := lawS4223AReadyRow.holds Yba.pinned (OpenSpec.ofChange lawS4223AReadySpec)

/-- ITS FALSE NEIGHBOUR: 'it returns false'. Refute it at one input. -/
def lawS4223AReadyWrong : ChangeSpec := { name := "lawS4223AReady", fn := fun _ => fun
  | [d1, d2, d3, d4] => { results := [.lit (.bool false)], args := [d1, d2, d3, d4] }
  | _ => none }
def LawS4223AReadyWrongFalsely : Prop := lawS4223AReadyRow.holds Yba.pinned (OpenSpec.ofChange lawS4223AReadyWrong)

end Rows
end Go.Proofs.Ybulkciky
