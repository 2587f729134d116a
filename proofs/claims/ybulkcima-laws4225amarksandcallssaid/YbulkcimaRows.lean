/-
  No cell of these rows narrows 'for every input' (looked for: loops, veiled, ifaces, maps, wideKeys, modest, calm, conditions, laid).
  DERIVED. THE GIVEN ROWS OF THIS SEAT. 1 by the template 'for every input the law returns true; each argument reads behind the call as it read before'; 0 by the template 'total and deterministic' (their statements: YbulkcimaTotals.lean).
  GIVEN WITH THE SEED: the statements are not yours to turn. If you find one false, say at which input.
  Laid BY PROGRAM, IN A SANDBOX (cutbox-rows.mjs): the forced cells as the released guide's own fill.sh prints them over the translation f67dcc8f5f281102… (all of the seat's roots in one cut). By AI agents, Wed Nov 11 2026. No macro, syntax, notation, axiom, sorry.
-/
import Derived.Test.YbulkcimaChecked
import GoSem.Claim
import GoSem.ClaimJoined
import GoSem.ClaimMapViews
import Derived.JoinedTies
import Derived.KernelRfl
namespace Go.Proofs.Ybulkcima
/- THE CELL 'sum', in the pinned program and in every row, IS THE sha256 OF THE DUMP (.gsa) THAT YbulkcimaProg.lean LOADS. Nothing in Lean hashes anything: it is a label: what it is worth is what the hold of that sum in a sandbox is worth. -/
noncomputable def Yba.pinned : Pinned := { name := "ybulkcima", sum := "f67dcc8f5f2811026d0defafe0de8a37853e484884882117f1039dbe389832db", checked := Yba.checked }
namespace Rows
def none {H : Type} : Left H := { results := [], args := [] }

/-- 'oncefix.LawS4225AMarksAndCalls': WHATEVER THE INPUT: true; the input reads as it did. -/
def lawS4225AMarksAndCallsSpec : ChangeSpec := { name := "lawS4225AMarksAndCalls", fn := fun _ => fun
  | [d1, d2] => { results := [.lit (.bool true)], args := [d1, d2] }
  | _ => none }
def lawS4225AMarksAndCallsRow : OpenClaim := { program := "ybulkcima", sum := "f67dcc8f5f2811026d0defafe0de8a37853e484884882117f1039dbe389832db", func := "example.com/oncefix/oncefix.LawS4225AMarksAndCalls", spec := "lawS4225AMarksAndCalls", inPlace := ["sync/atomic.StoreUint32", "sync/atomic.LoadUint32"], unfollowed := true, recurses := true, apart := false }
def LawS4225AMarksAndCallsSaid : Prop := lawS4225AMarksAndCallsRow.holds Yba.pinned (OpenSpec.ofChange lawS4225AMarksAndCallsSpec)

/-- ITS FALSE NEIGHBOUR: 'it returns false'. Refute it at one input. -/
def lawS4225AMarksAndCallsWrong : ChangeSpec := { name := "lawS4225AMarksAndCalls", fn := fun _ => fun
  | [d1, d2] => { results := [.lit (.bool false)], args := [d1, d2] }
  | _ => none }
def LawS4225AMarksAndCallsWrongFalsely : Prop := lawS4225AMarksAndCallsRow.holds Yba.pinned (OpenSpec.ofChange lawS4225AMarksAndCallsWrong)

end Rows
end Go.Proofs.Ybulkcima
