/-
  No cell of these rows narrows 'for every input' (looked for: loops, veiled, ifaces, maps, wideKeys, modest, calm, conditions, laid).
  DERIVED. THE GIVEN ROWS OF THIS SEAT. 2 by the template 'for every input the law returns true; each argument reads behind the call as it read before'; 0 by the template 'total and deterministic' (their statements: YbulkbqzoTotals.lean).
  GIVEN WITH THE SEED: the statements are not yours to turn. If you find one false, say at which input.
  Laid BY PROGRAM, IN A SANDBOX (cutbox-rows.mjs): the forced cells as the released guide's own fill.sh prints them over the translation f1cd40585f04cd61… (all of the seat's roots in one cut). By AI agents, Wed Nov 11 2026. No macro, syntax, notation, axiom, sorry.
-/
import Derived.Test.YbulkbqzoChecked
import GoSem.Claim
import GoSem.ClaimJoined
import GoSem.ClaimMapViews
import Derived.JoinedTies
import Derived.KernelRfl
namespace Go.Proofs.Ybulkbqzo
/- THE CELL 'sum', in the pinned program and in every row, IS THE sha256 OF THE DUMP (.gsa) THAT YbulkbqzoProg.lean LOADS. Nothing in Lean hashes anything: it is a label: what it is worth is what the hold of that sum in a sandbox is worth. -/
noncomputable def Yba.pinned : Pinned := { name := "ybulkbqzo", sum := "f1cd40585f04cd61003020407e140cb5ddbd620d277b1f97cd6b654e0c8a89e1", checked := Yba.checked }
namespace Rows
def none {H : Type} : Left H := { results := [], args := [] }

/-- 'chronocut.LawS3381BShape': WHATEVER THE INPUT: true; the input reads as it did. -/
def lawS3381BShapeSpec : ChangeSpec := { name := "lawS3381BShape", fn := fun _ => fun
  | [d] => { results := [.lit (.bool true)], args := [d] }
  | _ => none }
def lawS3381BShapeRow : OpenClaim := { program := "ybulkbqzo", sum := "f1cd40585f04cd61003020407e140cb5ddbd620d277b1f97cd6b654e0c8a89e1", func := "example.com/chronocut/chronocut.LawS3381BShape", spec := "lawS3381BShape", unfollowed := true, recurses := true, apart := false }
def LawS3381BShapeSaid : Prop := lawS3381BShapeRow.holds Yba.pinned (OpenSpec.ofChange lawS3381BShapeSpec)

/-- ITS FALSE NEIGHBOUR: 'it returns false'. Refute it at one input. -/
def lawS3381BShapeWrong : ChangeSpec := { name := "lawS3381BShape", fn := fun _ => fun
  | [d] => { results := [.lit (.bool false)], args := [d] }
  | _ => none }
def LawS3381BShapeWrongFalsely : Prop := lawS3381BShapeRow.holds Yba.pinned (OpenSpec.ofChange lawS3381BShapeWrong)

/-- 'chronocut.LawS3381BRoom': WHATEVER THE INPUT: true; the input reads as it did. -/
def lawS3381BRoomSpec : ChangeSpec := { name := "lawS3381BRoom", fn := fun _ => fun
  | [d] => { results := [.lit (.bool true)], args := [d] }
  | _ => none }
def lawS3381BRoomRow : OpenClaim := { program := "ybulkbqzo", sum := "f1cd40585f04cd61003020407e140cb5ddbd620d277b1f97cd6b654e0c8a89e1", func := "example.com/chronocut/chronocut.LawS3381BRoom", spec := "lawS3381BRoom", unfollowed := true, recurses := true, apart := false }
def LawS3381BRoomSaid : Prop := lawS3381BRoomRow.holds Yba.pinned (OpenSpec.ofChange lawS3381BRoomSpec)

/-- ITS FALSE NEIGHBOUR: 'it returns false'. Refute it at one input. -/
def lawS3381BRoomWrong : ChangeSpec := { name := "lawS3381BRoom", fn := fun _ => fun
  | [d] => { results := [.lit (.bool false)], args := [d] }
  | _ => none }
def LawS3381BRoomWrongFalsely : Prop := lawS3381BRoomRow.holds Yba.pinned (OpenSpec.ofChange lawS3381BRoomWrong)

end Rows
end Go.Proofs.Ybulkbqzo
