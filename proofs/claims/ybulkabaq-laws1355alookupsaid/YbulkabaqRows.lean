/-
  No cell of these rows narrows 'for every input' (looked for: loops, veiled, ifaces, maps, wideKeys, modest, calm, conditions, laid).
  DERIVED. THE GIVEN ROWS OF THIS SEAT. 2 by the template 'for every input the law returns true; each argument reads behind the call as it read before'; 0 by the template 'total and deterministic' (their statements: YbulkabaqTotals.lean).
  GIVEN WITH THE SEED: the statements are not yours to turn. If you find one false, say at which input.
  Laid BY PROGRAM, IN A SANDBOX (cutbox-rows.mjs): the forced cells as the released guide's own fill.sh prints them over the translation 0efae7a569f0266b… (all of the seat's roots in one cut). By AI agents, Wed Nov 11 2026. No macro, syntax, notation, axiom, sorry.
-/
import Derived.Test.YbulkabaqChecked
import GoSem.Claim
import GoSem.ClaimJoined
import GoSem.ClaimMapViews
import Derived.JoinedTies
import Derived.KernelRfl
namespace Go.Proofs.Ybulkabaq
/- THE CELL 'sum', in the pinned program and in every row, IS THE sha256 OF THE DUMP (.gsa) THAT YbulkabaqProg.lean LOADS. Nothing in Lean hashes anything: it is a label: what it is worth is what the hold of that sum in a sandbox is worth. -/
noncomputable def Yba.pinned : Pinned := { name := "ybulkabaq", sum := "0efae7a569f0266bc0d991a44c918afe4b6b40e1fbfb18c766589c3247aff64f", checked := Yba.checked }
namespace Rows
def none {H : Type} : Left H := { results := [], args := [] }

/-- 'parley.LawS1355ALookup': WHATEVER THE INPUT: true; the input reads as it did. -/
def lawS1355ALookupSpec : ChangeSpec := { name := "lawS1355ALookup", fn := fun _ => fun
  | [d1, d2, d3, d4, d5] => { results := [.lit (.bool true)], args := [d1, d2, d3, d4, d5] }
  | _ => none }
def lawS1355ALookupRow : OpenClaim := { program := "ybulkabaq", sum := "0efae7a569f0266bc0d991a44c918afe4b6b40e1fbfb18c766589c3247aff64f", func := "example.com/parley/parley.LawS1355ALookup", spec := "lawS1355ALookup", inPlace := ["(*internal/sync.Mutex).Lock", "internal/race.Disable", "sync/atomic.CompareAndSwapInt32", "internal/race.Enable", "internal/race.Acquire", "(*internal/sync.Mutex).lockSlow", "internal/sync.runtime_canSpin", "internal/sync.runtime_doSpin", "internal/sync.throw", "internal/sync.runtime_nanotime", "internal/sync.runtime_SemacquireMutex", "sync/atomic.AddInt32", "(*internal/sync.Mutex).Unlock", "internal/race.ReleaseMerge", "(*internal/sync.Mutex).unlockSlow", "internal/sync.fatal", "internal/sync.runtime_Semrelease", "(*internal/sync.Mutex).TryLock"], plainKeys := false, apart := false }
def LawS1355ALookupSaid : Prop := lawS1355ALookupRow.holds Yba.pinned (OpenSpec.ofChange lawS1355ALookupSpec)

/-- ITS FALSE NEIGHBOUR: 'it returns false'. Refute it at one input. -/
def lawS1355ALookupWrong : ChangeSpec := { name := "lawS1355ALookup", fn := fun _ => fun
  | [d1, d2, d3, d4, d5] => { results := [.lit (.bool false)], args := [d1, d2, d3, d4, d5] }
  | _ => none }
def LawS1355ALookupWrongFalsely : Prop := lawS1355ALookupRow.holds Yba.pinned (OpenSpec.ofChange lawS1355ALookupWrong)

/-- 'party.LawS1355BEnterRounds': WHATEVER THE INPUT: true; the input reads as it did. -/
def lawS1355BEnterRoundsSpec : ChangeSpec := { name := "lawS1355BEnterRounds", fn := fun _ => fun
  | [d1, d2] => { results := [.lit (.bool true)], args := [d1, d2] }
  | _ => none }
def lawS1355BEnterRoundsRow : OpenClaim := { program := "ybulkabaq", sum := "0efae7a569f0266bc0d991a44c918afe4b6b40e1fbfb18c766589c3247aff64f", func := "example.com/parley/parley/internal/party.LawS1355BEnterRounds", spec := "lawS1355BEnterRounds", unfollowed := true, recurses := true, plainKeys := false, apart := false }
def LawS1355BEnterRoundsSaid : Prop := lawS1355BEnterRoundsRow.holds Yba.pinned (OpenSpec.ofChange lawS1355BEnterRoundsSpec)

/-- ITS FALSE NEIGHBOUR: 'it returns false'. Refute it at one input. -/
def lawS1355BEnterRoundsWrong : ChangeSpec := { name := "lawS1355BEnterRounds", fn := fun _ => fun
  | [d1, d2] => { results := [.lit (.bool false)], args := [d1, d2] }
  | _ => none }
def LawS1355BEnterRoundsWrongFalsely : Prop := lawS1355BEnterRoundsRow.holds Yba.pinned (OpenSpec.ofChange lawS1355BEnterRoundsWrong)

end Rows
end Go.Proofs.Ybulkabaq
