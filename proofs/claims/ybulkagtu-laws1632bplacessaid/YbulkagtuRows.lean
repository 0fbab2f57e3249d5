/-
  No cell of these rows narrows 'for every input' (looked for: loops, veiled, ifaces, maps, wideKeys, modest, calm, conditions, laid).
  DERIVED. THE GIVEN ROWS OF THIS SEAT. 3 by the template 'for every input the law returns true; each argument reads behind the call as it read before'; 0 by the template 'total and deterministic' (their statements: YbulkagtuTotals.lean).
  GIVEN WITH THE SEED: the statements are not yours to turn. If you find one false, say at which input.
  Laid BY PROGRAM, IN A SANDBOX (cutbox-rows.mjs): the forced cells as the released guide's own fill.sh prints them over the translation 151bbdac8f3c7e1a… (all of the seat's roots in one cut). By AI agents, Wed Nov 11 2026. No macro, syntax, notation, axiom, sorry.
-/
import Derived.Test.YbulkagtuChecked
import GoSem.Claim
import GoSem.ClaimJoined
import GoSem.ClaimMapViews
import Derived.JoinedTies
import Derived.KernelRfl
namespace Go.Proofs.Ybulkagtu
/- THE CELL 'sum', in the pinned program and in every row, IS THE sha256 OF THE DUMP (.gsa) THAT YbulkagtuProg.lean LOADS. Nothing in Lean hashes anything: it is a label: what it is worth is what the hold of that sum in a sandbox is worth. -/
noncomputable def Yba.pinned : Pinned := { name := "ybulkagtu", sum := "151bbdac8f3c7e1a9a4241b3dc81103d014c4e2e7570cc17eb7dede04dd95b1b", checked := Yba.checked }
namespace Rows
def none {H : Type} : Left H := { results := [], args := [] }

/-- 'lock.LawS1632AQueued': WHATEVER THE INPUT: true; the input reads as it did. -/
def lawS1632AQueuedSpec : ChangeSpec := { name := "lawS1632AQueued", fn := fun _ => fun
  | [d1, d2, d3, d4, d5, d6, d7] => { results := [.lit (.bool true)], args := [d1, d2, d3, d4, d5, d6, d7] }
  | _ => none }
def lawS1632AQueuedRow : OpenClaim := { program := "ybulkagtu", sum := "151bbdac8f3c7e1a9a4241b3dc81103d014c4e2e7570cc17eb7dede04dd95b1b", func := "example.com/lockpoint/lockpoint/internal/lock.LawS1632AQueued", spec := "lawS1632AQueued", apart := false }
def LawS1632AQueuedSaid : Prop := lawS1632AQueuedRow.holds Yba.pinned (OpenSpec.ofChange lawS1632AQueuedSpec)

/-- ITS FALSE NEIGHBOUR: 'it returns false'. Refute it at one input. -/
def lawS1632AQueuedWrong : ChangeSpec := { name := "lawS1632AQueued", fn := fun _ => fun
  | [d1, d2, d3, d4, d5, d6, d7] => { results := [.lit (.bool false)], args := [d1, d2, d3, d4, d5, d6, d7] }
  | _ => none }
def LawS1632AQueuedWrongFalsely : Prop := lawS1632AQueuedRow.holds Yba.pinned (OpenSpec.ofChange lawS1632AQueuedWrong)

/-- 'replay.LawS1632BPlaces': WHATEVER THE INPUT: true; the input reads as it did. -/
def lawS1632BPlacesSpec : ChangeSpec := { name := "lawS1632BPlaces", fn := fun _ => fun
  | [d] => { results := [.lit (.bool true)], args := [d] }
  | _ => none }
def lawS1632BPlacesRow : OpenClaim := { program := "ybulkagtu", sum := "151bbdac8f3c7e1a9a4241b3dc81103d014c4e2e7570cc17eb7dede04dd95b1b", func := "example.com/lockpoint/lockpoint/internal/replay.LawS1632BPlaces", spec := "lawS1632BPlaces", apart := false }
def LawS1632BPlacesSaid : Prop := lawS1632BPlacesRow.holds Yba.pinned (OpenSpec.ofChange lawS1632BPlacesSpec)

/-- ITS FALSE NEIGHBOUR: 'it returns false'. Refute it at one input. -/
def lawS1632BPlacesWrong : ChangeSpec := { name := "lawS1632BPlaces", fn := fun _ => fun
  | [d] => { results := [.lit (.bool false)], args := [d] }
  | _ => none }
def LawS1632BPlacesWrongFalsely : Prop := lawS1632BPlacesRow.holds Yba.pinned (OpenSpec.ofChange lawS1632BPlacesWrong)

/-- 'lock.LawS1632CQueue': WHATEVER THE INPUT: true; the input reads as it did. -/
def lawS1632CQueueSpec : ChangeSpec := { name := "lawS1632CQueue", fn := fun _ => fun
  | [d1, d2, d3, d4] => { results := [.lit (.bool true)], args := [d1, d2, d3, d4] }
  | _ => none }
def lawS1632CQueueRow : OpenClaim := { program := "ybulkagtu", sum := "151bbdac8f3c7e1a9a4241b3dc81103d014c4e2e7570cc17eb7dede04dd95b1b", func := "example.com/lockpoint/lockpoint/internal/lock.LawS1632CQueue", spec := "lawS1632CQueue", apart := false }
def LawS1632CQueueSaid : Prop := lawS1632CQueueRow.holds Yba.pinned (OpenSpec.ofChange lawS1632CQueueSpec)

/-- ITS FALSE NEIGHBOUR: 'it returns false'. Refute it at one input. -/
def lawS1632CQueueWrong : ChangeSpec := { name := "lawS1632CQueue", fn := fun _ => fun
  | [d1, d2, d3, d4] => { results := [.lit (.bool false)], args := [d1, d2, d3, d4] }
  | _ => none }
def LawS1632CQueueWrongFalsely : Prop := lawS1632CQueueRow.holds Yba.pinned (OpenSpec.ofChange lawS1632CQueueWrong)

end Rows
end Go.Proofs.Ybulkagtu
