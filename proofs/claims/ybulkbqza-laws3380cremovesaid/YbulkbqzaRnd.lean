/-
  Seat b3380a. Regions within a round of a range over a function (the wide fence): out of the plain walk.
-/
import Derived.RangeFuncNested
import Derived.RangeFuncBound
import Derived.RangeFuncCalls
import Derived.RangeFuncLeaves
import Derived.Shelf.Abstract
import Derived.Shelf.RegionOpen
import Derived.WalkKit
import Derived.OwnWalkIn
import Derived.TacticsInMore
import Derived.LoopNIn
import Derived.LoopIn
import Derived.OrdersIn
import Derived.Test.YbulkbqzaApp
namespace Go.Proofs.Ybulkbqza
open Go.RowKit
set_option linter.unusedVariables false

section
variable {P : Program} {ops : Array Oper} {Q : Exit → Act → World → Prop} {l n : Nat}

theorem oper_round {o : Oper} {a : Act} {w : World} {K : Act → World → Prop} (hd : ∀ c, o.op ≠ .defer c) (h : o.wp P a w K Q) : o.wpIn (Fence.wide.inRound l) n P a w K Q := by
  refine ⟨fun _ _ => trivial, ?_⟩
  rw [Oper.semAt_eq _ _ _ hd]
  unfold Oper.wp at h
  generalize (execOp a.eval o).run P w = r at *
  cases r with
  | ok x w' =>
    cases x <;> simp only [Oper.upon, Oper.uponIn] at h ⊢ <;>
      first
        | exact h
        | exact ⟨fun e => (by cases e), CallsIn.inRound l (callsIn_wide.2 h)⟩
        | exact ⟨fun e => (by cases e), fun c cs _ => let ⟨v, w'', r, s⟩ := h c cs; ⟨v, w'', r, stepsIn_wide.2 s⟩⟩
  | halt x w' => cases x <;> simp only [Oper.upon, Oper.uponIn] at h ⊢ <;> exact h

theorem op_round {i : Nat} {a : Act} {w : World} {K K' : Act → World → Prop} (hno : ¬ LetsOut Q) (hd : ∀ (j : Nat) (o : Oper) c, ops[j]? = some o → o.op ≠ .defer c) (hK : ∀ a w, K a w → K' a w)
    (h : wpOp P ops Q i K a w) : wpOpIn (Fence.wide.inRound l) n P ops Q i K' a w := by
  unfold wpOp at h
  unfold wpOpIn
  cases ho : ops[i]? with
  | none => rw [ho] at h; exact hK _ _ h
  | some o =>
    rw [ho] at h
    simp only at h ⊢
    by_cases hw : Region.wanted o (yielded ops a.tmps) = true
    · rw [if_pos hw] at h ⊢
      rcases h with h | ⟨_, h⟩
      · exact Oper.wpIn_mono hK (oper_round (fun c => hd i o c ho) h)
      · exact absurd h hno
    · rw [if_neg hw] at h ⊢
      exact ⟨fun _ _ => trivial, hK _ _ h⟩

theorem any_round (hno : ¬ LetsOut Q) (hd : ∀ (j : Nat) (o : Oper) c, ops[j]? = some o → o.op ≠ .defer c) {md : Region.Mode} : ∀ (fuel : Nat) (listed : Array Bool) (a : Act) (w : World), wpAny P md ops Q fuel listed a w → wpAnyIn (Fence.wide.inRound l) n P md ops Q fuel listed a w
  | 0, _, _, _, h => h
  | fuel + 1, _, _, _, h => ⟨h.1, fun i hi => op_round hno hd (fun a w h' => any_round hno hd fuel _ a w h') (h.2 i hi)⟩

theorem ops_round (hno : ¬ LetsOut Q) (hd : ∀ (j : Nat) (o : Oper) c, ops[j]? = some o → o.op ≠ .defer c) : ∀ (is : List Nat) (a : Act) (w : World), wpOps P ops Q is a w → wpOpsIn (Fence.wide.inRound l) n P ops Q is a w
  | [], _, _, h => h
  | i :: rest, a, w, h => by
    rw [wpOps_cons] at h
    rw [wpOpsIn_cons]
    exact op_round hno hd (fun a w h' => ops_round hno hd rest a w h') h

def noDefer (ops : Array Oper) : Bool := ops.all fun o => match o.op with | .defer _ => false | _ => true
theorem noDefer_spec (h : noDefer ops = true) : ∀ (j : Nat) (o : Oper) c, ops[j]? = some o → o.op ≠ .defer c := by
  intro j o c hj e
  have h1 := Array.all_eq_true_iff_forall_mem.1 h o (Array.mem_of_getElem? hj)
  rw [e] at h1
  cases h1

/-- A region that draws, in a round. -/
theorem round_B {id : Nat} {a : Act} {w : World} (S : World → Prop) (B : Nat → Bool) (hno : ¬ LetsOut Q) (hd : noDefer ops = true) (hm : P.follows .mixedOrders = true) (hS : S w.drew)
    (h : S w.drew → wpAnyB P .any ops Q S B ops.size (Array.replicate ops.size false) a w.drew) : (Code.region id ops true).wpIn (Fence.wide.inRound l) n P Q a w :=
  wpIn_region_any hm (any_round hno (noDefer_spec hd) _ _ _ _ (wpAny_of_B _ _ _ _ (h hS)))

/-- A plain region, in a round. -/
theorem round_plain {id : Nat} {os : List Oper} {a : Act} {w : World} (hno : ¬ LetsOut Q) (hd : noDefer os.toArray = true) (h : wpList P os.toArray Q os a w) : (Code.region id os.toArray false).wpIn (Fence.wide.inRound l) n P Q a w := by
  refine wpIn_region (ops_round hno (noDefer_spec hd) _ _ _ ?_)
  rw [List.range_eq_range', ← Array.length_toList, wpOps_eq_wpList os.toArray.toList 0 (by simp)]
  simpa using h

theorem letsOut_then {K : Act → World → Prop} (h : ¬ LetsOut Q) : ¬ LetsOut (Exit.then K Q) := fun h' => h h'
theorem letsOut_block {id : Nat} (h : ¬ LetsOut Q) : ¬ LetsOut (Exit.inBlock id Q) := fun h' => h h'
end
end Go.Proofs.Ybulkbqza
