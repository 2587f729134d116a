/-
  DERIVED. GIVEN WITH THE SEED: THE CARDS: each row of YbulkcijwFmtRows.lean that lists a variable, with what it lists TIED to the program's text (the seventh form; the later family's looks); each row that meets fmt, with fmt's text TOLD by the authors' own Lean function (tested against real Go, not proved from fmt's source: count such statements apart). THE CARD IS WHAT COUNTS. Prove the row's statement (the work); the ties are given (YbulkcijwFmtTie.lean); close each card by the builder's one call (the guide's Derived/Test/ToyasCard.lean, 'card_holds'). Laid BY PROGRAM, IN A SANDBOX (cutbox-door.mjs). By AI agents, Wed Nov 11 2026. No macro, syntax, notation, axiom, sorry.
-/
import Derived.Test.YbulkcijwFmtRows
import GoSem.ClaimSeven
namespace Go.Proofs.YbulkcijwFmt
namespace Rows

/-- THE TOLD CARD OF 'postgres.LawS4221CModel'. -/
def lawS4221CModelCard : Claim7 := { stood := { row := lawS4221CModelRow, standIns := [], harness := (true, "06afde503e502ee4c5a2be899222f3111c3d6a44c4fe26e89c47c037a3b17092"), looks := false }, told := true, goes := false }
def LawS4221CModelToldSaid : Prop := Claim7.holds Ybaf.pinned (.plain (OpenSpec.ofChange lawS4221CModelSpec)) lawS4221CModelCard
/-- ITS FALSE NEIGHBOUR. Refute it at one input. -/
def LawS4221CModelToldWrongFalsely : Prop := Claim7.holds Ybaf.pinned (.plain (OpenSpec.ofChange lawS4221CModelWrong)) lawS4221CModelCard

/-- THE TOLD CARD OF 'postgres.LawS4221CRoundTrip'. -/
def lawS4221CRoundTripCard : Claim7 := { stood := { row := lawS4221CRoundTripRow, standIns := [], harness := (true, "06afde503e502ee4c5a2be899222f3111c3d6a44c4fe26e89c47c037a3b17092"), looks := false }, told := true, goes := false }
def LawS4221CRoundTripToldSaid : Prop := Claim7.holds Ybaf.pinned (.plain (OpenSpec.ofChange lawS4221CRoundTripSpec)) lawS4221CRoundTripCard
/-- ITS FALSE NEIGHBOUR. Refute it at one input. -/
def LawS4221CRoundTripToldWrongFalsely : Prop := Claim7.holds Ybaf.pinned (.plain (OpenSpec.ofChange lawS4221CRoundTripWrong)) lawS4221CRoundTripCard
end Rows
end Go.Proofs.YbulkcijwFmt
