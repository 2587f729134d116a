/-
  No cell of these rows narrows 'for every input' (looked for: loops, veiled, ifaces, maps, wideKeys, modest, calm, conditions, laid).
  DERIVED. THE GIVEN ROWS OF THIS SEAT. 1 by the template 'for every input the law returns true; each argument reads behind the call as it read before'; 0 by the template 'total and deterministic' (their statements: YbulkciqwTotals.lean).
  GIVEN WITH THE SEED: the statements are not yours to turn. If you find one false, say at which input.
  Laid BY PROGRAM, IN A SANDBOX (cutbox-rows.mjs): the forced cells as the released guide's own fill.sh prints them over the translation b340082272e424a0… (all of the seat's roots in one cut). By AI agents, Wed Nov 11 2026. No macro, syntax, notation, axiom, sorry.
-/
import Derived.Test.YbulkciqwChecked
import GoSem.Claim
import GoSem.ClaimJoined
import GoSem.ClaimMapViews
import Derived.JoinedTies
import Derived.KernelRfl
namespace Go.Proofs.Ybulkciqw
/- THE CELL 'sum', in the pinned program and in every row, IS THE sha256 OF THE DUMP (.gsa) THAT YbulkciqwProg.lean LOADS. Nothing in Lean hashes anything: it is a label: what it is worth is what the hold of that sum in a sandbox is worth. -/
noncomputable def Yba.pinned : Pinned := { name := "ybulkciqw", sum := "b340082272e424a060bf07d972b6190d0e2caba19c167534d8bc3589f5900bf1", checked := Yba.checked }
namespace Rows
def none {H : Type} : Left H := { results := [], args := [] }

/-- 'woven-layers.LawS4234AExact': WHATEVER THE INPUT: true; the input reads as it did. -/
def lawS4234AExactSpec : ChangeSpec := { name := "lawS4234AExact", fn := fun _ => fun
  | [d1, d2] => { results := [.lit (.bool true)], args := [d1, d2] }
  | _ => none }
def lawS4234AExactRow : OpenClaim := { program := "ybulkciqw", sum := "b340082272e424a060bf07d972b6190d0e2caba19c167534d8bc3589f5900bf1", func := "example.com/woven-layers/woven-layers.LawS4234AExact", spec := "lawS4234AExact", apart := false }
def LawS4234AExactSaid : Prop := lawS4234AExactRow.holds Yba.pinned (OpenSpec.ofChange lawS4234AExactSpec)

/-- ITS FALSE NEIGHBOUR: 'it returns false'. Refute it at one input. -/
def lawS4234AExactWrong : ChangeSpec := { name := "lawS4234AExact", fn := fun _ => fun
  | [d1, d2] => { results := [.lit (.bool false)], args := [d1, d2] }
  | _ => none }
def LawS4234AExactWrongFalsely : Prop := lawS4234AExactRow.holds Yba.pinned (OpenSpec.ofChange lawS4234AExactWrong)

end Rows
end Go.Proofs.Ybulkciqw
