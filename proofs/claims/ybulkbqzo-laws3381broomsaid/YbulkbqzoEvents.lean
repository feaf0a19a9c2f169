/-
  Seat b3381a. The laws' first loop: events[i] = Event{Host: hosts[i], Line: i + 1}.
-/
import Derived.Test.YbulkbqzoLb
namespace Go.Proofs.Ybulkbqzo
open Go.RowKit Go.Maps
set_option linter.unusedVariables false

/-- The events' row, the first i of them laid. -/
def evTo (hs : Nat → ByteArray) (i : Nat) (j : Nat) : Value := if j < i * 4 then evCell hs j else zEv j

theorem evTo_zero (hs : Nat → ByteArray) (j : Nat) : evTo hs 0 j = zEv j := by unfold evTo; rw [if_neg (by omega)]

/-- What the laws' first loop has done. -/
structure Le (w0 : World) (hs : Nat → ByteArray) (N i : Nat) (w : World) : Prop where
  row : w.rowIs w0.heap.size 28 (N * 4) (evTo hs i)
  below : Below w0.heap.size w0 w
  size : w.heap.size = w0.heap.size + 1

theorem le_start (w0 : World) (hs : Nat → ByteArray) (N : Nat) : Le w0 hs N 0 (w0.alloc (.cells (evRow N) 28)) :=
  ⟨(evRow_is w0 N).congr (fun i _ => (evTo_zero hs i).symm), (Below.refl _ _).alloc (Nat.le_refl _) _, by simp⟩

theorem Le.step {w0 w : World} {hs : Nat → ByteArray} {N i : Nat} (h : Le w0 hs N i w) (hi : i < N) :
    Le w0 hs N (i + 1) ((((w.setCell ⟨w0.heap.size, i * 4, none⟩ (.string (hs i))).setCell ⟨w0.heap.size, i * 4 + 1, none⟩ (.slice none 0 0)).setCell ⟨w0.heap.size, i * 4 + 2, none⟩ (.string ByteArray.empty)).setCell ⟨w0.heap.size, i * 4 + 3, none⟩ (.int .i64 ((i : Int) + 1))) := by
  refine ⟨((((h.row.set _ _).set _ _).set _ _).set _ _).congr fun j hj => ?_, (((h.below.setCell (by exact Nat.le_refl _) _).setCell (by exact Nat.le_refl _) _).setCell (by exact Nat.le_refl _) _).setCell (by exact Nat.le_refl _) _, by simpa [World.setCell] using h.size⟩
  unfold evTo
  by_cases e3 : j = i * 4 + 3
  · subst e3; rw [if_pos rfl, if_pos (by omega), evCell3]
  · rw [if_neg e3]
    by_cases e2 : j = i * 4 + 2
    · subst e2; rw [if_pos rfl, if_pos (by omega), evCell2]
    · rw [if_neg e2]
      by_cases e1 : j = i * 4 + 1
      · subst e1; rw [if_pos rfl, if_pos (by omega), evCell1]
      · rw [if_neg e1]
        by_cases e0 : j = i * 4
        · subst e0; rw [if_pos rfl, if_pos (by omega), evCell0]
        · rw [if_neg e0]
          by_cases hl : j < i * 4
          · rw [if_pos hl, if_pos (by omega)]
          · rw [if_neg hl, if_neg (by omega)]

theorem Le.done {w0 w : World} {hs : Nat → ByteArray} {N : Nat} (h : Le w0 hs N N w) : w.rowIs w0.heap.size 28 (N * 4) (evCell hs) :=
  h.row.congr fun j hj => by unfold evTo; rw [if_pos hj]

/-- What is known of the argument: a []string. -/
structure Arg (ao : Option Addr) (N : Nat) (hs : Nat → ByteArray) (w : World) : Prop where
  at_ : 0 < N → ∃ b off, ao = some ⟨b, off, none⟩ ∧ b < w.heap.size ∧ ∀ i, i < N → w.cell? ⟨b, off + i, none⟩ = some (.string (hs i))
  sizes : ∀ i, i < N → (hs i).size ≤ maxLen

theorem Arg.below {ao : Option Addr} {N : Nat} {hs : Nat → ByteArray} {w w' : World} (h : Arg ao N hs w) (b : Below w.heap.size w w') : Arg ao N hs w' :=
  ⟨fun hp => by
    obtain ⟨bb, off, e, hlt, hc⟩ := h.at_ hp
    exact ⟨bb, off, e, Nat.lt_of_lt_of_le hlt b.size, fun i hi => (b.cell (p := ⟨bb, off + i, none⟩) hlt).trans (hc i hi)⟩, h.sizes⟩

end Go.Proofs.Ybulkbqzo
