/-
  No cell of these rows narrows 'for every input' (looked for: loops, veiled, ifaces, maps, wideKeys, modest, calm, conditions, laid).
  DERIVED. THE GIVEN ROWS OF THIS SEAT. 2 by the template 'for every input the law returns true; each argument reads behind the call as it read before'; 0 by the template 'total and deterministic' (their statements: YbulkcijwFmtTotals.lean).
  GIVEN WITH THE SEED: the statements are not yours to turn. If you find one false, say at which input.
  Laid BY PROGRAM, IN A SANDBOX (cutbox-rows.mjs): the forced cells as the released guide's own fill.sh prints them over the translation e2e79a1bcdbaafc2… (all of the seat's roots in one cut). By AI agents, Wed Nov 11 2026. No macro, syntax, notation, axiom, sorry.
-/
import Derived.Test.YbulkcijwFmtChecked
import GoSem.Claim
import GoSem.ClaimJoined
import GoSem.ClaimMapViews
import Derived.JoinedTies
import Derived.KernelRfl
namespace Go.Proofs.YbulkcijwFmt
/- THE CELL 'sum', in the pinned program and in every row, IS THE sha256 OF THE DUMP (.gsa) THAT YbulkcijwFmtProg.lean LOADS. Nothing in Lean hashes anything: it is a label: what it is worth is what the hold of that sum in a sandbox is worth. -/
noncomputable def Ybaf.pinned : Pinned := { name := "ybulkcijwfmt", sum := "e2e79a1bcdbaafc266559f5a1ff1c3032fc3f61ffe51237dc3bed3126a91f5ff", checked := Ybaf.checked }
namespace Rows
def none {H : Type} : Left H := { results := [], args := [] }

/-- 'postgres.LawS4221CModel': WHATEVER THE INPUT: true; the input reads as it did. -/
def lawS4221CModelSpec : ChangeSpec := { name := "lawS4221CModel", fn := fun _ => fun
  | [d1, d2] => { results := [.lit (.bool true)], args := [d1, d2] }
  | _ => none }
def lawS4221CModelRow : OpenClaim := { program := "ybulkcijwfmt", sum := "e2e79a1bcdbaafc266559f5a1ff1c3032fc3f61ffe51237dc3bed3126a91f5ff", func := "example.com/knotwatch/knotwatch/postgres.LawS4221CModel", spec := "lawS4221CModel", stops := ["fmt.errorf"], inPlace := ["fmt.errorf"], named := ["encoding/binary.BigEndian"], apart := false }
/-- NO THEOREM (fmt's text is open here; it may be false): for the released tool's asking of the row's closed facts alone. THE STATEMENT IS 'LawS4221CModelToldSaid' (YbulkcijwFmtCards.lean). -/
def LawS4221CModelFormAsk : Prop := lawS4221CModelRow.holds Ybaf.pinned (OpenSpec.ofChange lawS4221CModelSpec)

/-- ITS FALSE NEIGHBOUR: 'it returns false'. Refute it at one input. -/
def lawS4221CModelWrong : ChangeSpec := { name := "lawS4221CModel", fn := fun _ => fun
  | [d1, d2] => { results := [.lit (.bool false)], args := [d1, d2] }
  | _ => none }
def LawS4221CModelWrongFormAsk : Prop := lawS4221CModelRow.holds Ybaf.pinned (OpenSpec.ofChange lawS4221CModelWrong)

/-- 'postgres.LawS4221CRoundTrip': WHATEVER THE INPUT: true; the input reads as it did. -/
def lawS4221CRoundTripSpec : ChangeSpec := { name := "lawS4221CRoundTrip", fn := fun _ => fun
  | [d1, d2] => { results := [.lit (.bool true)], args := [d1, d2] }
  | _ => none }
def lawS4221CRoundTripRow : OpenClaim := { program := "ybulkcijwfmt", sum := "e2e79a1bcdbaafc266559f5a1ff1c3032fc3f61ffe51237dc3bed3126a91f5ff", func := "example.com/knotwatch/knotwatch/postgres.LawS4221CRoundTrip", spec := "lawS4221CRoundTrip", stops := ["fmt.errorf"], inPlace := ["fmt.errorf"], named := ["encoding/binary.BigEndian"], apart := false }
/-- NO THEOREM (fmt's text is open here; it may be false): for the released tool's asking of the row's closed facts alone. THE STATEMENT IS 'LawS4221CRoundTripToldSaid' (YbulkcijwFmtCards.lean). -/
def LawS4221CRoundTripFormAsk : Prop := lawS4221CRoundTripRow.holds Ybaf.pinned (OpenSpec.ofChange lawS4221CRoundTripSpec)

/-- ITS FALSE NEIGHBOUR: 'it returns false'. Refute it at one input. -/
def lawS4221CRoundTripWrong : ChangeSpec := { name := "lawS4221CRoundTrip", fn := fun _ => fun
  | [d1, d2] => { results := [.lit (.bool false)], args := [d1, d2] }
  | _ => none }
def LawS4221CRoundTripWrongFormAsk : Prop := lawS4221CRoundTripRow.holds Ybaf.pinned (OpenSpec.ofChange lawS4221CRoundTripWrong)

end Rows
end Go.Proofs.YbulkcijwFmt
