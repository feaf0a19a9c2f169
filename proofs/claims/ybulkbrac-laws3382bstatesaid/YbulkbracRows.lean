/-
  No cell of these rows narrows 'for every input' (looked for: loops, veiled, ifaces, maps, wideKeys, modest, calm, conditions, laid).
  DERIVED. THE GIVEN ROWS OF THIS SEAT. 1 by the template 'for every input the law returns true; each argument reads behind the call as it read before'; 0 by the template 'total and deterministic' (their statements: YbulkbracTotals.lean).
  GIVEN WITH THE SEED: the statements are not yours to turn. If you find one false, say at which input.
  Laid BY PROGRAM, IN A SANDBOX (cutbox-rows.mjs): the forced cells as the released guide's own fill.sh prints them over the translation d6296ee85e63403f… (all of the seat's roots in one cut). By AI agents, Wed Nov 11 2026. No macro, syntax, notation, axiom, sorry.
-/
import Derived.Test.YbulkbracChecked
import GoSem.Claim
import GoSem.ClaimJoined
import GoSem.ClaimMapViews
import Derived.JoinedTies
import Derived.KernelRfl
namespace Go.Proofs.Ybulkbrac
/- THE CELL 'sum', in the pinned program and in every row, IS THE sha256 OF THE DUMP (.gsa) THAT YbulkbracProg.lean LOADS. Nothing in Lean hashes anything: it is a label: what it is worth is what the hold of that sum in a sandbox is worth. -/
noncomputable def Yba.pinned : Pinned := { name := "ybulkbrac", sum := "d6296ee85e63403f29229ec6dcf9c9b4bf16c5821d15abc018162375bd0013bc", checked := Yba.checked }
namespace Rows
def none {H : Type} : Left H := { results := [], args := [] }

/-- 'latchwork.LawS3382BState': WHATEVER THE INPUT: true; the input reads as it did. -/
def lawS3382BStateSpec : ChangeSpec := { name := "lawS3382BState", fn := fun _ => fun
  | [d] => { results := [.lit (.bool true)], args := [d] }
  | _ => none }
def lawS3382BStateRow : OpenClaim := { program := "ybulkbrac", sum := "d6296ee85e63403f29229ec6dcf9c9b4bf16c5821d15abc018162375bd0013bc", func := "example.com/latchwork/latchwork.LawS3382BState", spec := "lawS3382BState", inPlace := ["sync/atomic.StoreInt64", "sync/atomic.LoadInt64", "sync/atomic.CompareAndSwapInt64", "sync/atomic.LoadUint32", "sync/atomic.LoadPointer"], apart := false }
def LawS3382BStateSaid : Prop := lawS3382BStateRow.holds Yba.pinned (OpenSpec.ofChange lawS3382BStateSpec)

/-- ITS FALSE NEIGHBOUR: 'it returns false'. Refute it at one input. -/
def lawS3382BStateWrong : ChangeSpec := { name := "lawS3382BState", fn := fun _ => fun
  | [d] => { results := [.lit (.bool false)], args := [d] }
  | _ => none }
def LawS3382BStateWrongFalsely : Prop := lawS3382BStateRow.holds Yba.pinned (OpenSpec.ofChange lawS3382BStateWrong)

end Rows
end Go.Proofs.Ybulkbrac
