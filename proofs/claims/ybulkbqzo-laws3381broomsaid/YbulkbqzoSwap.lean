/-
  Seat b3381a. byName's Swap: two regions that draw their order.
-/
import Derived.Test.YbulkbqzoMeths
namespace Go.Proofs.Ybulkbqzo
open Go.RowKit
set_option linter.unusedVariables false
set_option linter.unusedSimpArgs false

set_option maxHeartbeats 4000000 in
theorem byName_swap (bh bc n ch cc : Nat) (d : Array HC) (hd : d.size = n) (i j : Nat) (hi : i < n) (hj : j < n) (hn : n < 4611686018427387904) (w : World) (t : Two bh bc d w) :
    Calls Yba.prog 47 #[.agg #[.slice (some ⟨bh, 0, none⟩) n ch, .slice (some ⟨bc, 0, none⟩) n cc], .int .i64 i, .int .i64 j] w fun e w' => e = .returned (.tuple #[]) ∧ Two bh bc (Sort.swp d i j) w' ∧ Kept bh bc w w' := by
  have hbB : bh < w.heap.size := t.hb
  have hcB : bc < w.heap.size := t.cb
  have ne := t.ne
  generalize hx : d[i]!.1 = xi
  generalize hy : d[j]!.1 = xj
  generalize hcx : d[i]!.2 = ni
  generalize hcy : d[j]!.2 = nj
  go_enter Yba.func47, Yba.ntmps47
  go_wp2
  obtain ⟨W, hW⟩ : ∃ W, W = w.alloc (Obj.cells #[Value.slice (some { block := bh, off := 0 }) n ch, Value.slice (some { block := bc, off := 0 }) n cc] 45) := ⟨_, rfl⟩
  obtain ⟨B, hB⟩ : ∃ B, B = w.heap.size := ⟨_, rfl⟩
  have T : Two bh bc d W := by rw [hW]; exact t.alloc _
  have K : Kept bh bc w W := by rw [hW]; exact (Kept.refl _ _ _).alloc _
  have b0 : W.cell? ⟨B, 0, none⟩ = some (.slice (some ⟨bh, 0, none⟩) n ch) := by rw [hW, hB]; simp
  have b1 : W.cell? ⟨B, 1, none⟩ = some (.slice (some ⟨bc, 0, none⟩) n cc) := by rw [hW, hB]; simp
  have n1 : ¬ B = bh := by omega
  have n2 : ¬ B = bc := by omega
  have n1' : ¬ bh = B := by omega
  have n2' : ¬ bc = B := by omega
  have ne' : ¬ bc = bh := fun e => ne e.symm
  have hi' := T.h i (by omega); have hj' := T.h j (by omega)
  have ci' := T.c i (by omega); have cj' := T.c j (by omega)
  have fi := T.fh i (by omega); have fj := T.fh j (by omega)
  have gi := T.fc i (by omega); have gj := T.fc j (by omega)
  rw [hx] at hi'; rw [hy] at hj'; rw [hcx] at ci'; rw [hcy] at cj'
  rw [← hW, ← hB]
  have TT : Hid (Two bh bc d W) := T
  have KK : Hid (Kept bh bc w W) := K
  have HX : Hid (d[i]!.1 = xi ∧ d[j]!.1 = xj ∧ d[i]!.2 = ni ∧ d[j]!.2 = nj) := ⟨hx, hy, hcx, hcy⟩
  clear T K hW hB t hx hy hcx hcy
  obtain ⟨v1, hv1⟩ := cell?_setCell_some (w := W) (p := ⟨bh, i, none⟩) (x := .string xj) (q := ⟨bh, j, none⟩) hj'
  go_region
  go_wp2
  obtain ⟨W1, hW1⟩ : ∃ W1, W1 = ((W.setCell ⟨bh, i, none⟩ (.string xj)).setCell ⟨bh, j, none⟩ (.string xi)).drew := ⟨_, rfl⟩
  have b0' : W1.cell? ⟨B, 0, none⟩ = some (.slice (some ⟨bh, 0, none⟩) n ch) := by rw [hW1]; rw [World.cell?_drew, World.cell?_setCell_other _ _ _ _ (by simp [n1', n2', ne]), World.cell?_setCell_other _ _ _ _ (by simp [n1', n2', ne])]; exact b0
  have b1' : W1.cell? ⟨B, 1, none⟩ = some (.slice (some ⟨bc, 0, none⟩) n cc) := by rw [hW1]; rw [World.cell?_drew, World.cell?_setCell_other _ _ _ _ (by simp [n1', n2', ne]), World.cell?_setCell_other _ _ _ _ (by simp [n1', n2', ne])]; exact b1
  have ci2 : W1.cell? ⟨bc, i, none⟩ = some (.int .i64 ni) := by rw [hW1]; rw [World.cell?_drew, World.cell?_setCell_other _ _ _ _ (by simp [n1', n2', ne]), World.cell?_setCell_other _ _ _ _ (by simp [n1', n2', ne])]; exact ci'
  have cj2 : W1.cell? ⟨bc, j, none⟩ = some (.int .i64 nj) := by rw [hW1]; rw [World.cell?_drew, World.cell?_setCell_other _ _ _ _ (by simp [n1', n2', ne]), World.cell?_setCell_other _ _ _ _ (by simp [n1', n2', ne])]; exact cj'
  have gi2 : W1.frozen? ⟨bc, i, none⟩ = false := by rw [hW1]; simpa using gi
  have gj2 : W1.frozen? ⟨bc, j, none⟩ = false := by rw [hW1]; simpa using gj
  rw [← hW1]
  have HW1 : Hid (W1 = ((W.setCell ⟨bh, i, none⟩ (.string xj)).setCell ⟨bh, j, none⟩ (.string xi)).drew) := hW1
  clear hW1 hv1 hi' hj' ci' cj' fi fj gi gj b0 b1
  obtain ⟨v2, hv2⟩ := cell?_setCell_some (w := W1) (p := ⟨bc, i, none⟩) (x := .int .i64 nj) (q := ⟨bc, j, none⟩) cj2
  go_region
  go_wp2
  go_end0
  have key := TT.out.swapped i j (by omega) (by omega)
  rw [HX.out.1, HX.out.2.1, HX.out.2.2.1, HX.out.2.2.2] at key
  refine ⟨rfl, ?_, ?_⟩
  · rw [HW1.out]; exact key.of_blocks (Nat.le_refl _) rfl rfl
  · rw [HW1.out]; exact ((((((KK.out.setCell (Or.inr (Or.inl rfl)) _).setCell (Or.inr (Or.inl rfl)) _).drew).setCell (Or.inr (Or.inr rfl)) _).setCell (Or.inr (Or.inr rfl)) _).drew)

end Go.Proofs.Ybulkbqzo
