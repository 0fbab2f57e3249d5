/-
  No cell of these rows narrows 'for every input' (looked for: loops, veiled, ifaces, maps, wideKeys, modest, calm, conditions, laid).
  DERIVED. THE GIVEN ROWS OF THIS SEAT. 6 by the template 'for every input the law returns true; each argument reads behind the call as it read before'; 0 by the template 'total and deterministic' (their statements: YbulkaguwTotals.lean).
  GIVEN WITH THE SEED: the statements are not yours to turn. If you find one false, say at which input.
  Laid BY PROGRAM, IN A SANDBOX (cutbox-rows.mjs): the forced cells as the released guide's own fill.sh prints them over the translation 6265000a4554ff4d… (all of the seat's roots in one cut). By AI agents, Wed Nov 11 2026. No macro, syntax, notation, axiom, sorry.
-/
import Derived.Test.YbulkaguwChecked
import GoSem.Claim
import GoSem.ClaimJoined
import GoSem.ClaimMapViews
import Derived.JoinedTies
import Derived.KernelRfl
namespace Go.Proofs.Ybulkaguw
/- THE CELL 'sum', in the pinned program and in every row, IS THE sha256 OF THE DUMP (.gsa) THAT YbulkaguwProg.lean LOADS. Nothing in Lean hashes anything: it is a label: what it is worth is what the hold of that sum in a sandbox is worth. -/
noncomputable def Yba.pinned : Pinned := { name := "ybulkaguw", sum := "6265000a4554ff4d251419fc0163a39cad3d8f8ec04794f77a2a93b68c0fef13", checked := Yba.checked }
namespace Rows
def none {H : Type} : Left H := { results := [], args := [] }

/-- 'spanwright.LawS1634AKind': WHATEVER THE INPUT: true; the input reads as it did. -/
def lawS1634AKindSpec : ChangeSpec := { name := "lawS1634AKind", fn := fun _ => fun
  | [d1, d2] => { results := [.lit (.bool true)], args := [d1, d2] }
  | _ => none }
def lawS1634AKindRow : OpenClaim := { program := "ybulkaguw", sum := "6265000a4554ff4d251419fc0163a39cad3d8f8ec04794f77a2a93b68c0fef13", func := "example.com/spanwright/spanwright.LawS1634AKind", spec := "lawS1634AKind", plainKeys := false, apart := false }
def LawS1634AKindSaid : Prop := lawS1634AKindRow.holds Yba.pinned (OpenSpec.ofChange lawS1634AKindSpec)

/-- ITS FALSE NEIGHBOUR: 'it returns false'. Refute it at one input. -/
def lawS1634AKindWrong : ChangeSpec := { name := "lawS1634AKind", fn := fun _ => fun
  | [d1, d2] => { results := [.lit (.bool false)], args := [d1, d2] }
  | _ => none }
def LawS1634AKindWrongFalsely : Prop := lawS1634AKindRow.holds Yba.pinned (OpenSpec.ofChange lawS1634AKindWrong)

/-- 'spanwright.LawS1634ANonRecording': WHATEVER THE INPUT: true; the input reads as it did. -/
def lawS1634ANonRecordingSpec : ChangeSpec := { name := "lawS1634ANonRecording", fn := fun _ => fun
  | [d1, d2, d3, d4] => { results := [.lit (.bool true)], args := [d1, d2, d3, d4] }
  | _ => none }
def lawS1634ANonRecordingRow : OpenClaim := { program := "ybulkaguw", sum := "6265000a4554ff4d251419fc0163a39cad3d8f8ec04794f77a2a93b68c0fef13", func := "example.com/spanwright/spanwright.LawS1634ANonRecording", spec := "lawS1634ANonRecording", plainKeys := false, apart := false }
def LawS1634ANonRecordingSaid : Prop := lawS1634ANonRecordingRow.holds Yba.pinned (OpenSpec.ofChange lawS1634ANonRecordingSpec)

/-- ITS FALSE NEIGHBOUR: 'it returns false'. Refute it at one input. -/
def lawS1634ANonRecordingWrong : ChangeSpec := { name := "lawS1634ANonRecording", fn := fun _ => fun
  | [d1, d2, d3, d4] => { results := [.lit (.bool false)], args := [d1, d2, d3, d4] }
  | _ => none }
def LawS1634ANonRecordingWrongFalsely : Prop := lawS1634ANonRecordingRow.holds Yba.pinned (OpenSpec.ofChange lawS1634ANonRecordingWrong)

/-- 'spanhttp.LawS1634BSetsOrKeeps': WHATEVER THE INPUT: true; the input reads as it did. -/
def lawS1634BSetsOrKeepsSpec : ChangeSpec := { name := "lawS1634BSetsOrKeeps", fn := fun _ => fun
  | [d1, d2, d3] => { results := [.lit (.bool true)], args := [d1, d2, d3] }
  | _ => none }
def lawS1634BSetsOrKeepsRow : OpenClaim := { program := "ybulkaguw", sum := "6265000a4554ff4d251419fc0163a39cad3d8f8ec04794f77a2a93b68c0fef13", func := "example.com/spanwright/spanwright/spanhttp.LawS1634BSetsOrKeeps", spec := "lawS1634BSetsOrKeeps", unfollowed := true, recurses := true, plainKeys := false, apart := false }
def LawS1634BSetsOrKeepsSaid : Prop := lawS1634BSetsOrKeepsRow.holds Yba.pinned (OpenSpec.ofChange lawS1634BSetsOrKeepsSpec)

/-- ITS FALSE NEIGHBOUR: 'it returns false'. Refute it at one input. -/
def lawS1634BSetsOrKeepsWrong : ChangeSpec := { name := "lawS1634BSetsOrKeeps", fn := fun _ => fun
  | [d1, d2, d3] => { results := [.lit (.bool false)], args := [d1, d2, d3] }
  | _ => none }
def LawS1634BSetsOrKeepsWrongFalsely : Prop := lawS1634BSetsOrKeepsRow.holds Yba.pinned (OpenSpec.ofChange lawS1634BSetsOrKeepsWrong)

/-- 'spanhttp.LawS1634BLastNonNilWins': WHATEVER THE INPUT: true; the input reads as it did. -/
def lawS1634BLastNonNilWinsSpec : ChangeSpec := { name := "lawS1634BLastNonNilWins", fn := fun _ => fun
  | [d] => { results := [.lit (.bool true)], args := [d] }
  | _ => none }
def lawS1634BLastNonNilWinsRow : OpenClaim := { program := "ybulkaguw", sum := "6265000a4554ff4d251419fc0163a39cad3d8f8ec04794f77a2a93b68c0fef13", func := "example.com/spanwright/spanwright/spanhttp.LawS1634BLastNonNilWins", spec := "lawS1634BLastNonNilWins", unfollowed := true, recurses := true, plainKeys := false, apart := false }
def LawS1634BLastNonNilWinsSaid : Prop := lawS1634BLastNonNilWinsRow.holds Yba.pinned (OpenSpec.ofChange lawS1634BLastNonNilWinsSpec)

/-- ITS FALSE NEIGHBOUR: 'it returns false'. Refute it at one input. -/
def lawS1634BLastNonNilWinsWrong : ChangeSpec := { name := "lawS1634BLastNonNilWins", fn := fun _ => fun
  | [d] => { results := [.lit (.bool false)], args := [d] }
  | _ => none }
def LawS1634BLastNonNilWinsWrongFalsely : Prop := lawS1634BLastNonNilWinsRow.holds Yba.pinned (OpenSpec.ofChange lawS1634BLastNonNilWinsWrong)

/-- 'propagation.LawS1634CBuilt': WHATEVER THE INPUT: true; the input reads as it did. -/
def lawS1634CBuiltSpec : ChangeSpec := { name := "lawS1634CBuilt", fn := fun _ => fun
  | [d1, d2, d3, d4, d5] => { results := [.lit (.bool true)], args := [d1, d2, d3, d4, d5] }
  | _ => none }
def lawS1634CBuiltRow : OpenClaim := { program := "ybulkaguw", sum := "6265000a4554ff4d251419fc0163a39cad3d8f8ec04794f77a2a93b68c0fef13", func := "example.com/spanwright/spanwright/propagation.LawS1634CBuilt", spec := "lawS1634CBuilt", inPlace := ["internal/bytealg.IndexByteString", "internal/bytealg.IndexString"], named := ["internal/bytealg.MaxLen"], plainKeys := false, apart := false }
def LawS1634CBuiltSaid : Prop := lawS1634CBuiltRow.holds Yba.pinned (OpenSpec.ofChange lawS1634CBuiltSpec)

/-- ITS FALSE NEIGHBOUR: 'it returns false'. Refute it at one input. -/
def lawS1634CBuiltWrong : ChangeSpec := { name := "lawS1634CBuilt", fn := fun _ => fun
  | [d1, d2, d3, d4, d5] => { results := [.lit (.bool false)], args := [d1, d2, d3, d4, d5] }
  | _ => none }
def LawS1634CBuiltWrongFalsely : Prop := lawS1634CBuiltRow.holds Yba.pinned (OpenSpec.ofChange lawS1634CBuiltWrong)

/-- 'propagation.LawS1634CAny': WHATEVER THE INPUT: true; the input reads as it did. -/
def lawS1634CAnySpec : ChangeSpec := { name := "lawS1634CAny", fn := fun _ => fun
  | [d] => { results := [.lit (.bool true)], args := [d] }
  | _ => none }
def lawS1634CAnyRow : OpenClaim := { program := "ybulkaguw", sum := "6265000a4554ff4d251419fc0163a39cad3d8f8ec04794f77a2a93b68c0fef13", func := "example.com/spanwright/spanwright/propagation.LawS1634CAny", spec := "lawS1634CAny", inPlace := ["internal/bytealg.IndexByteString", "internal/bytealg.IndexString"], named := ["internal/bytealg.MaxLen"], plainKeys := false, apart := false }
def LawS1634CAnySaid : Prop := lawS1634CAnyRow.holds Yba.pinned (OpenSpec.ofChange lawS1634CAnySpec)

/-- ITS FALSE NEIGHBOUR: 'it returns false'. Refute it at one input. -/
def lawS1634CAnyWrong : ChangeSpec := { name := "lawS1634CAny", fn := fun _ => fun
  | [d] => { results := [.lit (.bool false)], args := [d] }
  | _ => none }
def LawS1634CAnyWrongFalsely : Prop := lawS1634CAnyRow.holds Yba.pinned (OpenSpec.ofChange lawS1634CAnyWrong)

end Rows
end Go.Proofs.Ybulkaguw
