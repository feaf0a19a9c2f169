/-
  No cell of these rows narrows 'for every input' (looked for: loops, veiled, ifaces, maps, wideKeys, modest, calm, conditions, laid).
  DERIVED. THE GIVEN ROWS OF THIS SEAT. 2 by the template 'for every input the law returns true; each argument reads behind the call as it read before'; 0 by the template 'total and deterministic' (their statements: YbulkbqymTotals.lean).
  GIVEN WITH THE SEED: the statements are not yours to turn. If you find one false, say at which input.
  Laid BY PROGRAM, IN A SANDBOX (cutbox-rows.mjs): the forced cells as the released guide's own fill.sh prints them over the translation 91f0eb6d24bcd6bf… (all of the seat's roots in one cut). By AI agents, Wed Nov 11 2026. No macro, syntax, notation, axiom, sorry.
-/
import Derived.Test.YbulkbqymChecked
import GoSem.Claim
import GoSem.ClaimJoined
import GoSem.ClaimMapViews
import Derived.JoinedTies
import Derived.KernelRfl
namespace Go.Proofs.Ybulkbqym
/- THE CELL 'sum', in the pinned program and in every row, IS THE sha256 OF THE DUMP (.gsa) THAT YbulkbqymProg.lean LOADS. Nothing in Lean hashes anything: it is a label: what it is worth is what the hold of that sum in a sandbox is worth. -/
noncomputable def Yba.pinned : Pinned := { name := "ybulkbqym", sum := "91f0eb6d24bcd6bfebad47e180e296ff905a6d38baf11d655db6d37d92152469", checked := Yba.checked }
namespace Rows
def none {H : Type} : Left H := { results := [], args := [] }

/-- 'cluster.LawS3379CExact': WHATEVER THE INPUT: true; the input reads as it did. -/
def lawS3379CExactSpec : ChangeSpec := { name := "lawS3379CExact", fn := fun _ => fun
  | [d] => { results := [.lit (.bool true)], args := [d] }
  | _ => none }
def lawS3379CExactRow : OpenClaim := { program := "ybulkbqym", sum := "91f0eb6d24bcd6bfebad47e180e296ff905a6d38baf11d655db6d37d92152469", func := "example.com/nameswarm/nameswarm/pkg/cluster.LawS3379CExact", spec := "lawS3379CExact", apart := false }
def LawS3379CExactSaid : Prop := lawS3379CExactRow.holds Yba.pinned (OpenSpec.ofChange lawS3379CExactSpec)

/-- ITS FALSE NEIGHBOUR: 'it returns false'. Refute it at one input. -/
def lawS3379CExactWrong : ChangeSpec := { name := "lawS3379CExact", fn := fun _ => fun
  | [d] => { results := [.lit (.bool false)], args := [d] }
  | _ => none }
def LawS3379CExactWrongFalsely : Prop := lawS3379CExactRow.holds Yba.pinned (OpenSpec.ofChange lawS3379CExactWrong)

/-- 'cluster.LawS3379CDistinct': WHATEVER THE INPUT: true; the input reads as it did. -/
def lawS3379CDistinctSpec : ChangeSpec := { name := "lawS3379CDistinct", fn := fun _ => fun
  | [d] => { results := [.lit (.bool true)], args := [d] }
  | _ => none }
def lawS3379CDistinctRow : OpenClaim := { program := "ybulkbqym", sum := "91f0eb6d24bcd6bfebad47e180e296ff905a6d38baf11d655db6d37d92152469", func := "example.com/nameswarm/nameswarm/pkg/cluster.LawS3379CDistinct", spec := "lawS3379CDistinct", apart := false }
def LawS3379CDistinctSaid : Prop := lawS3379CDistinctRow.holds Yba.pinned (OpenSpec.ofChange lawS3379CDistinctSpec)

/-- ITS FALSE NEIGHBOUR: 'it returns false'. Refute it at one input. -/
def lawS3379CDistinctWrong : ChangeSpec := { name := "lawS3379CDistinct", fn := fun _ => fun
  | [d] => { results := [.lit (.bool false)], args := [d] }
  | _ => none }
def LawS3379CDistinctWrongFalsely : Prop := lawS3379CDistinctRow.holds Yba.pinned (OpenSpec.ofChange lawS3379CDistinctWrong)

end Rows
end Go.Proofs.Ybulkbqym
