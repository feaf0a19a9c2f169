/-
  No cell of these rows narrows 'for every input' (looked for: loops, veiled, ifaces, maps, wideKeys, modest, calm, conditions, laid).
  DERIVED. THE GIVEN ROWS OF THIS SEAT. 2 by the template 'for every input the law returns true; each argument reads behind the call as it read before'; 0 by the template 'total and deterministic' (their statements: YbulkbqzaTotals.lean).
  GIVEN WITH THE SEED: the statements are not yours to turn. If you find one false, say at which input.
  Laid BY PROGRAM, IN A SANDBOX (cutbox-rows.mjs): the forced cells as the released guide's own fill.sh prints them over the translation 578d0b205525e799… (all of the seat's roots in one cut). By AI agents, Wed Nov 11 2026. No macro, syntax, notation, axiom, sorry.
-/
import Derived.Test.YbulkbqzaChecked
import GoSem.Claim
import GoSem.ClaimJoined
import GoSem.ClaimMapViews
import Derived.JoinedTies
import Derived.KernelRfl
namespace Go.Proofs.Ybulkbqza
/- THE CELL 'sum', in the pinned program and in every row, IS THE sha256 OF THE DUMP (.gsa) THAT YbulkbqzaProg.lean LOADS. Nothing in Lean hashes anything: it is a label: what it is worth is what the hold of that sum in a sandbox is worth. -/
noncomputable def Yba.pinned : Pinned := { name := "ybulkbqza", sum := "578d0b205525e799123d417a4c2e38de9d0a20f3d0899efe05d18b9ea02871fd", checked := Yba.checked }
namespace Rows
def none {H : Type} : Left H := { results := [], args := [] }

/-- 'store.LawS3380CRemove': WHATEVER THE INPUT: true; the input reads as it did. -/
def lawS3380CRemoveSpec : ChangeSpec := { name := "lawS3380CRemove", fn := fun _ => fun
  | [d1, d2, d3] => { results := [.lit (.bool true)], args := [d1, d2, d3] }
  | _ => none }
def lawS3380CRemoveRow : OpenClaim := { program := "ybulkbqza", sum := "578d0b205525e799123d417a4c2e38de9d0a20f3d0899efe05d18b9ea02871fd", func := "example.com/circlet/circlet/pkg/store.LawS3380CRemove", spec := "lawS3380CRemove", inPlace := ["math/bits.Add64", "internal/bytealg.Compare", "math/bits.Sub64"], unfollowed := true, recurses := true, named := ["encoding/binary.BigEndian"], apart := false }
def LawS3380CRemoveSaid : Prop := lawS3380CRemoveRow.holds Yba.pinned (OpenSpec.ofChange lawS3380CRemoveSpec)

/-- ITS FALSE NEIGHBOUR: 'it returns false'. Refute it at one input. -/
def lawS3380CRemoveWrong : ChangeSpec := { name := "lawS3380CRemove", fn := fun _ => fun
  | [d1, d2, d3] => { results := [.lit (.bool false)], args := [d1, d2, d3] }
  | _ => none }
def LawS3380CRemoveWrongFalsely : Prop := lawS3380CRemoveRow.holds Yba.pinned (OpenSpec.ofChange lawS3380CRemoveWrong)

/-- 'store.LawS3380CEmpty': WHATEVER THE INPUT: true; the input reads as it did. -/
def lawS3380CEmptySpec : ChangeSpec := { name := "lawS3380CEmpty", fn := fun _ => fun
  | [d] => { results := [.lit (.bool true)], args := [d] }
  | _ => none }
def lawS3380CEmptyRow : OpenClaim := { program := "ybulkbqza", sum := "578d0b205525e799123d417a4c2e38de9d0a20f3d0899efe05d18b9ea02871fd", func := "example.com/circlet/circlet/pkg/store.LawS3380CEmpty", spec := "lawS3380CEmpty", inPlace := ["math/bits.Add64", "internal/bytealg.Compare", "math/bits.Sub64"], unfollowed := true, recurses := true, named := ["encoding/binary.BigEndian"], apart := false }
def LawS3380CEmptySaid : Prop := lawS3380CEmptyRow.holds Yba.pinned (OpenSpec.ofChange lawS3380CEmptySpec)

/-- ITS FALSE NEIGHBOUR: 'it returns false'. Refute it at one input. -/
def lawS3380CEmptyWrong : ChangeSpec := { name := "lawS3380CEmpty", fn := fun _ => fun
  | [d] => { results := [.lit (.bool false)], args := [d] }
  | _ => none }
def LawS3380CEmptyWrongFalsely : Prop := lawS3380CEmptyRow.holds Yba.pinned (OpenSpec.ofChange lawS3380CEmptyWrong)

end Rows
end Go.Proofs.Ybulkbqza
