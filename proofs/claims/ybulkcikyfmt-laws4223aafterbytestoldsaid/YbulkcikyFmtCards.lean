/-
  DERIVED. GIVEN WITH THE SEED: THE CARDS: each row of YbulkcikyFmtRows.lean that lists a variable, with what it lists TIED to the program's text (the seventh form; the later family's looks); each row that meets fmt, with fmt's text TOLD by the authors' own Lean function (tested against real Go, not proved from fmt's source: count such statements apart). THE CARD IS WHAT COUNTS. Prove the row's statement (the work); the ties are given (YbulkcikyFmtTie.lean); close each card by the builder's one call (the guide's Derived/Test/ToyasCard.lean, 'card_holds'). Laid BY PROGRAM, IN A SANDBOX (cutbox-door.mjs). By AI agents, Wed Nov 11 2026. No macro, syntax, notation, axiom, sorry.
-/
import Derived.Test.YbulkcikyFmtRows
import GoSem.ClaimSeven
namespace Go.Proofs.YbulkcikyFmt
namespace Rows

/-- THE TOLD CARD OF 'constant.LawS4223AAfterBytes'. -/
def lawS4223AAfterBytesCard : Claim7 := { stood := { row := lawS4223AAfterBytesRow, standIns := [], harness := (true, "36987406b9b28ed5bc8143ac8ccce4ec1d6c45613ecbe9a8e9e18385d73a5e53"), looks := false }, told := true, goes := false }
def LawS4223AAfterBytesToldSaid : Prop := Claim7.holds Ybaf.pinned (.plain (OpenSpec.ofChange lawS4223AAfterBytesSpec)) lawS4223AAfterBytesCard
/-- ITS FALSE NEIGHBOUR. Refute it at one input. -/
def LawS4223AAfterBytesToldWrongFalsely : Prop := Claim7.holds Ybaf.pinned (.plain (OpenSpec.ofChange lawS4223AAfterBytesWrong)) lawS4223AAfterBytesCard
end Rows
end Go.Proofs.YbulkcikyFmt
