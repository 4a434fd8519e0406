/-
  No cell of these rows narrows 'for every input' (looked for: loops, veiled, ifaces, maps, wideKeys, modest, calm, conditions, laid).
  DERIVED. THE GIVEN ROWS OF THIS SEAT. 2 by the template 'for every input the law returns true; each argument reads behind the call as it read before'; 0 by the template 'total and deterministic' (their statements: YbulkabbeTotals.lean).
  GIVEN WITH THE SEED: the statements are not yours to turn. If you find one false, say at which input.
  Laid BY PROGRAM, IN A SANDBOX (cutbox-rows.mjs): the forced cells as the released guide's own fill.sh prints them over the translation 19276ce23b639f95… (all of the seat's roots in one cut). By AI agents, Wed Nov 11 2026. No macro, syntax, notation, axiom, sorry.
-/
import Derived.Test.YbulkabbeChecked
import GoSem.Claim
import GoSem.ClaimJoined
import GoSem.ClaimMapViews
import Derived.JoinedTies
import Derived.KernelRfl
namespace Go.Proofs.Ybulkabbe
/- THE CELL 'sum', in the pinned program and in every row, IS THE sha256 OF THE DUMP (.gsa) THAT YbulkabbeProg.lean LOADS. Nothing in Lean hashes anything: it is a label: what it is worth is what the hold of that sum in a sandbox is worth. -/
noncomputable def Yba.pinned : Pinned := { name := "ybulkabbe", sum := "19276ce23b639f959c2417e963390938880d015263f1577c4def9759a45d0918", checked := Yba.checked }
namespace Rows
def none {H : Type} : Left H := { results := [], args := [] }

/-- 'scan.LawS1356AScript': WHATEVER THE INPUT: true; the input reads as it did. -/
def lawS1356AScriptSpec : ChangeSpec := { name := "lawS1356AScript", fn := fun _ => fun
  | [d1, d2] => { results := [.lit (.bool true)], args := [d1, d2] }
  | _ => none }
def lawS1356AScriptRow : OpenClaim := { program := "ybulkabbe", sum := "19276ce23b639f959c2417e963390938880d015263f1577c4def9759a45d0918", func := "example.com/loose-ends/loose-ends/scan.LawS1356AScript", spec := "lawS1356AScript", inPlace := ["slices.overlaps[example.com/loose-ends/loose-ends/scan.shellEnd]"], unfollowed := true, recurses := true, apart := false }
def LawS1356AScriptSaid : Prop := lawS1356AScriptRow.holds Yba.pinned (OpenSpec.ofChange lawS1356AScriptSpec)

/-- ITS FALSE NEIGHBOUR: 'it returns false'. Refute it at one input. -/
def lawS1356AScriptWrong : ChangeSpec := { name := "lawS1356AScript", fn := fun _ => fun
  | [d1, d2] => { results := [.lit (.bool false)], args := [d1, d2] }
  | _ => none }
def LawS1356AScriptWrongFalsely : Prop := lawS1356AScriptRow.holds Yba.pinned (OpenSpec.ofChange lawS1356AScriptWrong)

/-- 'scan.LawS1356BSettle': WHATEVER THE INPUT: true; the input reads as it did. -/
def lawS1356BSettleSpec : ChangeSpec := { name := "lawS1356BSettle", fn := fun _ => fun
  | [d1, d2, d3, d4, d5] => { results := [.lit (.bool true)], args := [d1, d2, d3, d4, d5] }
  | _ => none }
def lawS1356BSettleRow : OpenClaim := { program := "ybulkabbe", sum := "19276ce23b639f959c2417e963390938880d015263f1577c4def9759a45d0918", func := "example.com/loose-ends/loose-ends/scan.LawS1356BSettle", spec := "lawS1356BSettle", apart := false }
def LawS1356BSettleSaid : Prop := lawS1356BSettleRow.holds Yba.pinned (OpenSpec.ofChange lawS1356BSettleSpec)

/-- ITS FALSE NEIGHBOUR: 'it returns false'. Refute it at one input. -/
def lawS1356BSettleWrong : ChangeSpec := { name := "lawS1356BSettle", fn := fun _ => fun
  | [d1, d2, d3, d4, d5] => { results := [.lit (.bool false)], args := [d1, d2, d3, d4, d5] }
  | _ => none }
def LawS1356BSettleWrongFalsely : Prop := lawS1356BSettleRow.holds Yba.pinned (OpenSpec.ofChange lawS1356BSettleWrong)

end Rows
end Go.Proofs.Ybulkabbe
