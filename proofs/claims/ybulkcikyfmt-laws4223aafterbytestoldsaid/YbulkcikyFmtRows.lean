/-
  No cell of these rows narrows 'for every input' (looked for: loops, veiled, ifaces, maps, wideKeys, modest, calm, conditions, laid).
  DERIVED. THE GIVEN ROWS OF THIS SEAT. 1 by the template 'for every input the law returns true; each argument reads behind the call as it read before'; 0 by the template 'total and deterministic' (their statements: YbulkcikyFmtTotals.lean).
  GIVEN WITH THE SEED: the statements are not yours to turn. If you find one false, say at which input.
  Laid BY PROGRAM, IN A SANDBOX (cutbox-rows.mjs): the forced cells as the released guide's own fill.sh prints them over the translation 2848534bf46aa5fd… (all of the seat's roots in one cut). By AI agents, Wed Nov 11 2026. No macro, syntax, notation, axiom, sorry.
-/
import Derived.Test.YbulkcikyFmtChecked
import GoSem.Claim
import GoSem.ClaimJoined
import GoSem.ClaimMapViews
import Derived.JoinedTies
import Derived.KernelRfl
namespace Go.Proofs.YbulkcikyFmt
/- THE CELL 'sum', in the pinned program and in every row, IS THE sha256 OF THE DUMP (.gsa) THAT YbulkcikyFmtProg.lean LOADS. Nothing in Lean hashes anything: it is a label: what it is worth is what the hold of that sum in a sandbox is worth. -/
noncomputable def Ybaf.pinned : Pinned := { name := "ybulkcikyfmt", sum := "2848534bf46aa5fd7436189d6811ccd716f695d9bb3cdd93f40ff22b3f9cba49", checked := Ybaf.checked }
namespace Rows
def none {H : Type} : Left H := { results := [], args := [] }

/-- 'constant.LawS4223AAfterBytes': WHATEVER THE INPUT: true; the input reads as it did. -/
def lawS4223AAfterBytesSpec : ChangeSpec := { name := "lawS4223AAfterBytes", fn := fun _ => fun
  | [d1, d2] => { results := [.lit (.bool true)], args := [d1, d2] }
  | _ => none }
def lawS4223AAfterBytesRow : OpenClaim := { program := "ybulkcikyfmt", sum := "2848534bf46aa5fd7436189d6811ccd716f695d9bb3cdd93f40ff22b3f9cba49", func := "example.com/corbel/corbel/internal/constant.LawS4223AAfterBytes", spec := "lawS4223AAfterBytes", stops := ["fmt.Sprintf"], inPlace := ["fmt.Sprintf", "sync/atomic.LoadPointer", "internal/abi.NoEscape", "internal/bytealg.MakeNoZero", "sync/atomic.StorePointer"], apart := false }
/-- NO THEOREM (fmt's text is open here; it may be false): for the released tool's asking of the row's closed facts alone. THE STATEMENT IS 'LawS4223AAfterBytesToldSaid' (YbulkcikyFmtCards.lean). -/
def LawS4223AAfterBytesFormAsk : Prop := lawS4223AAfterBytesRow.holds Ybaf.pinned (OpenSpec.ofChange lawS4223AAfterBytesSpec)

/-- ITS FALSE NEIGHBOUR: 'it returns false'. Refute it at one input. -/
def lawS4223AAfterBytesWrong : ChangeSpec := { name := "lawS4223AAfterBytes", fn := fun _ => fun
  | [d1, d2] => { results := [.lit (.bool false)], args := [d1, d2] }
  | _ => none }
def LawS4223AAfterBytesWrongFormAsk : Prop := lawS4223AAfterBytesRow.holds Ybaf.pinned (OpenSpec.ofChange lawS4223AAfterBytesWrong)

end Rows
end Go.Proofs.YbulkcikyFmt
