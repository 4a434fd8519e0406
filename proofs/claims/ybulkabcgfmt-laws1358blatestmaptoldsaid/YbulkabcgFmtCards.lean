/-
  DERIVED. GIVEN WITH THE SEED: THE CARDS: each row of YbulkabcgFmtRows.lean that lists a variable, with what it lists TIED to the program's text (the seventh form; the later family's looks); each row that meets fmt, with fmt's text TOLD by the authors' own Lean function (tested against real Go, not proved from fmt's source: count such statements apart). THE CARD IS WHAT COUNTS. Prove the row's statement (the work); the ties are given (YbulkabcgFmtTie.lean); close each card by the builder's one call (the guide's Derived/Test/ToyasCard.lean, 'card_holds'). Laid BY PROGRAM, IN A SANDBOX (cutbox-door.mjs). By AI agents, Wed Nov 11 2026. No macro, syntax, notation, axiom, sorry.
-/
import Derived.Test.YbulkabcgFmtRows
import GoSem.ClaimSeven
namespace Go.Proofs.YbulkabcgFmt
namespace Rows

/-- THE TOLD AND TIED CARD OF 'node.LawS1358BLatestMap'. -/
def lawS1358BLatestMapCard : Claim7 := { stood := { row := lawS1358BLatestMapRow, standIns := [], harness := (true, "ae401d0fdcded3807ed87d9d7fb5c124c3042e91d2a511e04e80d63eedb439df"), looks := true }, told := true, laidByText := true, laidKinds := [.sentinel, .sentinel, .sentinel], laidTests := true, laidLooks := .later, goes := false }
def LawS1358BLatestMapToldSaid : Prop := Claim7.holds Ybaf.pinned (.plain (OpenSpec.ofChange lawS1358BLatestMapSpec)) lawS1358BLatestMapCard
/-- ITS FALSE NEIGHBOUR. Refute it at one input. -/
def LawS1358BLatestMapToldWrongFalsely : Prop := Claim7.holds Ybaf.pinned (.plain (OpenSpec.ofChange lawS1358BLatestMapWrong)) lawS1358BLatestMapCard
end Rows
end Go.Proofs.YbulkabcgFmt
