/-
  No cell of these rows narrows 'for every input' (looked for: loops, veiled, ifaces, maps, wideKeys, modest, calm, conditions, laid).
  DERIVED. THE GIVEN ROWS OF THIS SEAT. 2 by the template 'for every input the law returns true; each argument reads behind the call as it read before'; 0 by the template 'total and deterministic' (their statements: YbulkabbsTotals.lean).
  GIVEN WITH THE SEED: the statements are not yours to turn. If you find one false, say at which input.
  Laid BY PROGRAM, IN A SANDBOX (cutbox-rows.mjs): the forced cells as the released guide's own fill.sh prints them over the translation 747ed988fd35fb17… (all of the seat's roots in one cut). By AI agents, Wed Nov 11 2026. No macro, syntax, notation, axiom, sorry.
-/
import Derived.Test.YbulkabbsChecked
import GoSem.Claim
import GoSem.ClaimJoined
import GoSem.ClaimMapViews
import Derived.JoinedTies
import Derived.KernelRfl
namespace Go.Proofs.Ybulkabbs
/- THE CELL 'sum', in the pinned program and in every row, IS THE sha256 OF THE DUMP (.gsa) THAT YbulkabbsProg.lean LOADS. Nothing in Lean hashes anything: it is a label: what it is worth is what the hold of that sum in a sandbox is worth. -/
noncomputable def Yba.pinned : Pinned := { name := "ybulkabbs", sum := "747ed988fd35fb17493a1d68a840ff90d5db89525cf7320e7733554d47b86cb0", checked := Yba.checked }
namespace Rows
def none {H : Type} : Left H := { results := [], args := [] }

/-- 'jsonfind.LawS1357BSpec': WHATEVER THE INPUT: true; the input reads as it did. -/
def lawS1357BSpecSpec : ChangeSpec := { name := "lawS1357BSpec", fn := fun _ => fun
  | [d1, d2] => { results := [.lit (.bool true)], args := [d1, d2] }
  | _ => none }
def lawS1357BSpecRow : OpenClaim := { program := "ybulkabbs", sum := "747ed988fd35fb17493a1d68a840ff90d5db89525cf7320e7733554d47b86cb0", func := "example.com/tracemark/tracemark/internal/jsonfind.LawS1357BSpec", spec := "lawS1357BSpec", apart := false }
def LawS1357BSpecSaid : Prop := lawS1357BSpecRow.holds Yba.pinned (OpenSpec.ofChange lawS1357BSpecSpec)

/-- ITS FALSE NEIGHBOUR: 'it returns false'. Refute it at one input. -/
def lawS1357BSpecWrong : ChangeSpec := { name := "lawS1357BSpec", fn := fun _ => fun
  | [d1, d2] => { results := [.lit (.bool false)], args := [d1, d2] }
  | _ => none }
def LawS1357BSpecWrongFalsely : Prop := lawS1357BSpecRow.holds Yba.pinned (OpenSpec.ofChange lawS1357BSpecWrong)

/-- 'jsonfind.LawS1357BAdd': WHATEVER THE INPUT: true; the input reads as it did. -/
def lawS1357BAddSpec : ChangeSpec := { name := "lawS1357BAdd", fn := fun _ => fun
  | [d1, d2] => { results := [.lit (.bool true)], args := [d1, d2] }
  | _ => none }
def lawS1357BAddRow : OpenClaim := { program := "ybulkabbs", sum := "747ed988fd35fb17493a1d68a840ff90d5db89525cf7320e7733554d47b86cb0", func := "example.com/tracemark/tracemark/internal/jsonfind.LawS1357BAdd", spec := "lawS1357BAdd", apart := false }
def LawS1357BAddSaid : Prop := lawS1357BAddRow.holds Yba.pinned (OpenSpec.ofChange lawS1357BAddSpec)

/-- ITS FALSE NEIGHBOUR: 'it returns false'. Refute it at one input. -/
def lawS1357BAddWrong : ChangeSpec := { name := "lawS1357BAdd", fn := fun _ => fun
  | [d1, d2] => { results := [.lit (.bool false)], args := [d1, d2] }
  | _ => none }
def LawS1357BAddWrongFalsely : Prop := lawS1357BAddRow.holds Yba.pinned (OpenSpec.ofChange lawS1357BAddWrong)

end Rows
end Go.Proofs.Ybulkabbs
