/-
  No cell of these rows narrows 'for every input' (looked for: loops, veiled, ifaces, maps, wideKeys, modest, calm, conditions, laid).
  DERIVED. THE GIVEN ROWS OF THIS SEAT. 2 by the template 'for every input the law returns true; each argument reads behind the call as it read before'; 0 by the template 'total and deterministic' (their statements: YbulkagvyTotals.lean).
  GIVEN WITH THE SEED: the statements are not yours to turn. If you find one false, say at which input.
  Laid BY PROGRAM, IN A SANDBOX (cutbox-rows.mjs): the forced cells as the released guide's own fill.sh prints them over the translation a04010e4eacc16b2… (all of the seat's roots in one cut). By AI agents, Wed Nov 11 2026. No macro, syntax, notation, axiom, sorry.
-/
import Derived.Test.YbulkagvyChecked
import GoSem.Claim
import GoSem.ClaimJoined
import GoSem.ClaimMapViews
import Derived.JoinedTies
import Derived.KernelRfl
namespace Go.Proofs.Ybulkagvy
/- THE CELL 'sum', in the pinned program and in every row, IS THE sha256 OF THE DUMP (.gsa) THAT YbulkagvyProg.lean LOADS. Nothing in Lean hashes anything: it is a label: what it is worth is what the hold of that sum in a sandbox is worth. -/
noncomputable def Yba.pinned : Pinned := { name := "ybulkagvy", sum := "a04010e4eacc16b29551d7b2c5c5451c96ca3baeea4858946d0624caacd5210c", checked := Yba.checked }
namespace Rows
def none {H : Type} : Left H := { results := [], args := [] }

/-- 'quire.LawS1636BWrapsInOrder': WHATEVER THE INPUT: true; the input reads as it did. -/
def lawS1636BWrapsInOrderSpec : ChangeSpec := { name := "lawS1636BWrapsInOrder", fn := fun _ => fun
  | [d] => { results := [.lit (.bool true)], args := [d] }
  | _ => none }
def lawS1636BWrapsInOrderRow : OpenClaim := { program := "ybulkagvy", sum := "a04010e4eacc16b29551d7b2c5c5451c96ca3baeea4858946d0624caacd5210c", func := "example.com/quire/quire.LawS1636BWrapsInOrder", spec := "lawS1636BWrapsInOrder", unfollowed := true, recurses := true, apart := false }
def LawS1636BWrapsInOrderSaid : Prop := lawS1636BWrapsInOrderRow.holds Yba.pinned (OpenSpec.ofChange lawS1636BWrapsInOrderSpec)

/-- ITS FALSE NEIGHBOUR: 'it returns false'. Refute it at one input. -/
def lawS1636BWrapsInOrderWrong : ChangeSpec := { name := "lawS1636BWrapsInOrder", fn := fun _ => fun
  | [d] => { results := [.lit (.bool false)], args := [d] }
  | _ => none }
def LawS1636BWrapsInOrderWrongFalsely : Prop := lawS1636BWrapsInOrderRow.holds Yba.pinned (OpenSpec.ofChange lawS1636BWrapsInOrderWrong)

/-- 'quire.LawS1636BKeepsFields': WHATEVER THE INPUT: true; the input reads as it did. -/
def lawS1636BKeepsFieldsSpec : ChangeSpec := { name := "lawS1636BKeepsFields", fn := fun _ => fun
  | [d1, d2] => { results := [.lit (.bool true)], args := [d1, d2] }
  | _ => none }
def lawS1636BKeepsFieldsRow : OpenClaim := { program := "ybulkagvy", sum := "a04010e4eacc16b29551d7b2c5c5451c96ca3baeea4858946d0624caacd5210c", func := "example.com/quire/quire.LawS1636BKeepsFields", spec := "lawS1636BKeepsFields", unfollowed := true, recurses := true, apart := false }
def LawS1636BKeepsFieldsSaid : Prop := lawS1636BKeepsFieldsRow.holds Yba.pinned (OpenSpec.ofChange lawS1636BKeepsFieldsSpec)

/-- ITS FALSE NEIGHBOUR: 'it returns false'. Refute it at one input. -/
def lawS1636BKeepsFieldsWrong : ChangeSpec := { name := "lawS1636BKeepsFields", fn := fun _ => fun
  | [d1, d2] => { results := [.lit (.bool false)], args := [d1, d2] }
  | _ => none }
def LawS1636BKeepsFieldsWrongFalsely : Prop := lawS1636BKeepsFieldsRow.holds Yba.pinned (OpenSpec.ofChange lawS1636BKeepsFieldsWrong)

end Rows
end Go.Proofs.Ybulkagvy
