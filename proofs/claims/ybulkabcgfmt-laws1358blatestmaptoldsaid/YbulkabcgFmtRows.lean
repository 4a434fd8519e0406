/-
  NARROWER THAN 'FOR EVERY INPUT', by the rows' own cells (each row's printed sentence says how): LawS1358BLatestMap: ifaces, laid.
  DERIVED. THE GIVEN ROWS OF THIS SEAT. 1 by the template 'for every input the law returns true; each argument reads behind the call as it read before'; 0 by the template 'total and deterministic' (their statements: YbulkabcgFmtTotals.lean).
  GIVEN WITH THE SEED: the statements are not yours to turn. If you find one false, say at which input.
  Laid BY PROGRAM, IN A SANDBOX (cutbox-rows.mjs): the forced cells as the released guide's own fill.sh prints them over the translation 5b98a227d9cf03e8… (all of the seat's roots in one cut). By AI agents, Wed Nov 11 2026. No macro, syntax, notation, axiom, sorry.
-/
import Derived.Test.YbulkabcgFmtChecked
import GoSem.Claim
import GoSem.ClaimJoined
import GoSem.ClaimMapViews
import Derived.JoinedTies
import Derived.KernelRfl
namespace Go.Proofs.YbulkabcgFmt
/- THE CELL 'sum', in the pinned program and in every row, IS THE sha256 OF THE DUMP (.gsa) THAT YbulkabcgFmtProg.lean LOADS. Nothing in Lean hashes anything: it is a label: what it is worth is what the hold of that sum in a sandbox is worth. -/
noncomputable def Ybaf.pinned : Pinned := { name := "ybulkabcgfmt", sum := "5b98a227d9cf03e876706a9db6d5bbdf2ab8219322c68f1f993dfca844e727a3", checked := Ybaf.checked }
namespace Rows
def none {H : Type} : Left H := { results := [], args := [] }

/- WHAT THE LISTED PACKAGE-LEVEL VARIABLES READ AS WHEN THE CALL BEGINS. Each datum BY PROGRAM (the guide's laid-datum.mjs) off the statement by which the dump's own 'gosem.cut.vars' lays the variable. In a bare row this is a premise. The card (YbulkabcgFmtCards.lean) ties it to the program's text. -/
def laid_example_com_holdfast_holdfast_internal_node_errFrontier {H : Type} : DataW H := .iface "*errors.errorString" (.ptr (.agg [.lit (.string [110, 111, 100, 101, 58, 32, 116, 104, 101, 32, 99, 104, 101, 99, 107, 32, 110, 101, 101, 100, 115, 32, 109, 111, 114, 101, 32, 111, 102, 32, 116, 104, 101, 32, 108, 111, 103, 32, 116, 104, 97, 110, 32, 105, 116, 115, 32, 102, 114, 111, 110, 116, 105, 101, 114])]))
def laid_example_com_holdfast_holdfast_internal_node_ErrCorrupt {H : Type} : DataW H := .iface "*errors.errorString" (.ptr (.agg [.lit (.string [110, 111, 100, 101, 58, 32, 115, 116, 111, 114, 101, 32, 99, 111, 114, 114, 117, 112, 116])]))
def laid_example_com_holdfast_holdfast_internal_node_errHints {H : Type} : DataW H := .iface "*errors.errorString" (.ptr (.agg [.lit (.string [116, 104, 101, 32, 99, 104, 101, 99, 107, 112, 111, 105, 110, 116, 39, 115, 32, 102, 114, 97, 109, 101, 115, 32, 100, 111, 32, 110, 111, 116, 32, 98, 101, 97, 114, 32, 111, 117, 116, 32, 116, 104, 101, 32, 108, 111, 103])]))

/-- 'node.LawS1358BLatestMap': WHATEVER THE INPUT: true; the input reads as it did. -/
def lawS1358BLatestMapSpec : ChangeSpec := { name := "lawS1358BLatestMap", vars := ["example.com/holdfast/holdfast/internal/node.errHints", "example.com/holdfast/holdfast/internal/node.errFrontier", "example.com/holdfast/holdfast/internal/node.ErrCorrupt"], fn := fun _ => fun
  | [d1, d2, d3, d4, g1, g2, g3] => { results := [.lit (.bool true)], args := [d1, d2, d3, d4], vars := [g1, g2, g3] }
  | _ => none }
def lawS1358BLatestMapRow : OpenClaim := { program := "ybulkabcgfmt", sum := "5b98a227d9cf03e876706a9db6d5bbdf2ab8219322c68f1f993dfca844e727a3", func := "example.com/holdfast/holdfast/internal/node.LawS1358BLatestMap", spec := "lawS1358BLatestMap", stops := ["fmt.errorf"], inPlace := ["internal/reflectlite.TypeOf", "fmt.errorf"], unfollowed := true, recurses := true, named := ["example.com/holdfast/holdfast/internal/node.errHints", "example.com/holdfast/holdfast/internal/node.errFrontier", "example.com/holdfast/holdfast/internal/node.ErrCorrupt"], ifaces := true, plainKeys := false, apart := false, laid := [("example.com/holdfast/holdfast/internal/node.errFrontier", laid_example_com_holdfast_holdfast_internal_node_errFrontier), ("example.com/holdfast/holdfast/internal/node.ErrCorrupt", laid_example_com_holdfast_holdfast_internal_node_ErrCorrupt), ("example.com/holdfast/holdfast/internal/node.errHints", laid_example_com_holdfast_holdfast_internal_node_errHints)] }
/-- NO THEOREM (fmt's text is open here; it may be false): for the released tool's asking of the row's closed facts alone. THE STATEMENT IS 'LawS1358BLatestMapToldSaid' (YbulkabcgFmtCards.lean). -/
def LawS1358BLatestMapFormAsk : Prop := lawS1358BLatestMapRow.holds Ybaf.pinned (OpenSpec.ofChange lawS1358BLatestMapSpec)

/-- ITS FALSE NEIGHBOUR: 'it returns false'. Refute it at one input. -/
def lawS1358BLatestMapWrong : ChangeSpec := { name := "lawS1358BLatestMap", vars := ["example.com/holdfast/holdfast/internal/node.errHints", "example.com/holdfast/holdfast/internal/node.errFrontier", "example.com/holdfast/holdfast/internal/node.ErrCorrupt"], fn := fun _ => fun
  | [d1, d2, d3, d4, g1, g2, g3] => { results := [.lit (.bool false)], args := [d1, d2, d3, d4], vars := [g1, g2, g3] }
  | _ => none }
def LawS1358BLatestMapWrongFormAsk : Prop := lawS1358BLatestMapRow.holds Ybaf.pinned (OpenSpec.ofChange lawS1358BLatestMapWrong)

end Rows
end Go.Proofs.YbulkabcgFmt
