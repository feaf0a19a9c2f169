/-
  Seat b3380a. treeNode.child.
-/
import Derived.Test.YbulkbqzaNodi
namespace Go.Proofs.Ybulkbqza
open Go.RowKit
set_option linter.unusedVariables false
set_option maxRecDepth 100000
set_option linter.unusedSimpArgs false

/-- Which kid. -/
def chi (bs : List Nat) (v : Nat) : Nat := lo bs.tail v + if v ∈ bs.tail then 1 else 0

theorem child_calls (nb kb n v : Nat) (q : Value) (c s : Nat) (xs : List Nat) (w : World) (N : Blk w nb (nd (sl kb n 33) q c s) 63) (B : Blk w kb (ids xs) 30) (hxs : xs.length = 33) (hn : n ≤ 33) (hpos : 0 < n)
    (hx : ∀ x ∈ xs, x < 4294967296) (hv : v < 4294967296) (hs : (xs.take n).tail.Pairwise (· < ·)) :
    Calls Yba.prog 41 #[.pointer (some ⟨nb, 0, none⟩), .agg (idc v).toArray] w fun e w' => e = .returned (.int .i64 (chi (xs.take n) v)) ∧ Below w.heap.size w w' := by
  have hlen : (xs.take n).tail.length = n - 1 := by rw [List.length_tail, List.length_take]; omega
  have hsub : ∀ x ∈ (xs.take n).tail, x < 4294967296 := fun x h => hx x (List.mem_of_mem_take (List.mem_of_mem_tail h))
  have hpre : (xs.take n).tail <+: xs.drop 1 := by
    rw [← List.drop_one, List.drop_take]
    exact List.take_prefix _ _
  go_enter Yba.func41, Yba.ntmps41
  go_wp2_with fail
  have BV : Blk (w.alloc (.cells (idc v).toArray 30)) w.heap.size (idc v) 30 := Blk.new w _ 30
  have hb : Below w.heap.size w (w.alloc (.cells (idc v).toArray 30)) := (Below.refl _ w).alloc (Nat.le_refl _) _
  generalize w.alloc (.cells (idc v).toArray 30) = wr at *
  have N1 := N.below hb
  have B1 := B.below hb
  have c1 : wr.cell? ⟨nb, 0, none⟩ = some (.slice (some ⟨kb, 0, none⟩) n 33) := N1.cell 0
  have g1 : (1 : Int) ≤ (n : Int) := by omega
  have hC : ∀ w1, Below wr.heap.size wr w1 → Calls Yba.prog 11 #[.slice (some ⟨kb, 20, none⟩) (n - 1) 32, .agg (idc v).toArray, .func (.func 12) #[] #[]] w1 fun e w' => e = .returned (.tuple #[.int .i64 (lo (xs.take n).tail v), .bool (decide (v ∈ (xs.take n).tail))]) ∧ Below wr.heap.size wr w' := fun w1 h1 => by
    rw [← hlen]
    exact (bsf_calls (some ⟨kb, 20, none⟩) (xs.take n).tail 32 v w1 (.inr ⟨kb, 20, rfl, Nat.lt_of_lt_of_le B1.lt h1.size, by have := (B1.below h1).ids 1 hpre; simpa using this⟩) hsub hv (by omega) hs).mono fun e w' ⟨he, hw⟩ => ⟨he, h1.trans (hw.mono h1.size)⟩
  have hch : Hid (chi (xs.take n) v = lo (xs.take n).tail v + if v ∈ (xs.take n).tail then 1 else 0) := rfl
  have hlo : lo (xs.take n).tail v ≤ n - 1 := by rw [← hlen]; exact List.countP_le_length
  clear hs hpre hsub hx
  generalize (xs.take n).tail = ys at *
  generalize lo ys v = L at *
  refine wp_region_held_drew (S := fun w' => w'.cell? ⟨nb, 0, none⟩ = some (.slice (some ⟨kb, 0, none⟩) n 33) ∧ Below wr.heap.size wr w') (by kernel_rfl) (⟨by simpa using c1, (Below.refl _ wr).drew⟩) (fun hHeld => ?_)
  simp only [List.size_toArray, List.length_cons, List.length_nil, Nat.reduceAdd, Array.replicate_succ, Array.replicate_zero, List.push_toArray, List.append_toArray, List.nil_append, List.cons_append]
  refine wpAnyH_take (i := 0) (v := ?_) rfl (by kernel_rfl) (by kernel_rfl) (by kernel_rfl) (fun _ _ _ h => h) (Or.inl ⟨by rfl, ?_⟩) (by assumption) ?_
  rotate_left 1
  · intro w hSw; (try dsimp only at hSw); go_simp <;> with_reducible rfl
  try simp only [Act.put, List.setIfInBounds_toArray, List.set_cons_zero, List.set_cons_succ, List.getElem_toArray, List.getElem_cons_succ, List.getElem_cons_zero]
  refine wpAnyH_take (i := 1) (v := ?_) rfl (by kernel_rfl) (by kernel_rfl) (by kernel_rfl) (fun _ _ _ h => h) (Or.inl ⟨by rfl, ?_⟩) (by assumption) ?_
  rotate_left 1
  · intro w hSw; (try dsimp only at hSw); go_simp <;> with_reducible rfl
  try simp only [Act.put, List.setIfInBounds_toArray, List.set_cons_zero, List.set_cons_succ, List.getElem_toArray, List.getElem_cons_succ, List.getElem_cons_zero]
  refine wpAnyH_take (i := 2) (v := ?_) rfl (by kernel_rfl) (by kernel_rfl) (by kernel_rfl) (fun _ _ _ h => h) (Or.inl ⟨by rfl, ?_⟩) (by assumption) ?_
  rotate_left 1
  · intro w hSw; (try dsimp only at hSw); go_simp <;> with_reducible rfl
  try simp only [Act.put, List.setIfInBounds_toArray, List.set_cons_zero, List.set_cons_succ, List.getElem_toArray, List.getElem_cons_succ, List.getElem_cons_zero]
  refine wpAnyH_take (i := 3) (v := ?_) rfl (by kernel_rfl) (by kernel_rfl) (by kernel_rfl) (fun _ _ _ h => h) (Or.inl ⟨by rfl, ?_⟩) (by assumption) ?_
  rotate_left 1
  · intro w hSw; (try dsimp only at hSw); obtain ⟨q1, q2⟩ := hSw; go_simp <;> with_reducible rfl
  try simp only [Act.put, List.setIfInBounds_toArray, List.set_cons_zero, List.set_cons_succ, List.getElem_toArray, List.getElem_cons_succ, List.getElem_cons_zero]
  refine wpAnyH_take (i := 4) (v := ?_) rfl (by kernel_rfl) (by kernel_rfl) (by kernel_rfl) (fun _ _ _ h => h) (Or.inl ⟨by rfl, ?_⟩) (by assumption) ?_
  rotate_left 1
  · intro w hSw; (try dsimp only at hSw); go_simp <;> with_reducible rfl
  try simp only [Act.put, List.setIfInBounds_toArray, List.set_cons_zero, List.set_cons_succ, List.getElem_toArray, List.getElem_cons_succ, List.getElem_cons_zero]
  refine wpAnyH_take (i := 5) rfl (by kernel_rfl) (by kernel_rfl) (by kernel_rfl) (fun _ _ _ h => h) (yieldsIf_load_mid (by rfl) _ _ rfl _ _ rfl (idc v) _ (fun w hSw => rangeAt_of_block BV.id (hSw.2.block _ BV.lt)) Yba.underlying30 rfl (by rw [idc_length]; exact info30)) (by assumption) ?_
  try simp only [Act.put, List.setIfInBounds_toArray, List.set_cons_zero, List.set_cons_succ, List.getElem_toArray, List.getElem_cons_succ, List.getElem_cons_zero]
  refine wpAnyH_ready (rs := [6]) (by kernel_rfl) (by simp) ?_
  refine AllReadyH.cons rfl (fun K hK => ?_) AllReadyH.nil
  go_simp
  refine (hC _ hHeld.2).mono ?_
  rintro e w' ⟨rfl, hw'⟩
  dsimp only
  refine hK.out _ _ (⟨(hw'.cell (p := ⟨nb, 0, none⟩) N1.lt).trans c1, hw'⟩) (fun hHeld => ?_)
  clear hK K
  try simp only [Act.put, List.setIfInBounds_toArray, List.set_cons_zero, List.set_cons_succ, List.getElem_toArray, List.getElem_cons_succ, List.getElem_cons_zero]
  refine wpAnyH_take (i := 7) (v := ?_) rfl (by kernel_rfl) (by kernel_rfl) (by kernel_rfl) (fun _ _ _ h => h) (Or.inl ⟨by rfl, ?_⟩) (by assumption) ?_
  rotate_left 1
  · intro w hSw; (try dsimp only at hSw); go_simp <;> with_reducible rfl
  try simp only [Act.put, List.setIfInBounds_toArray, List.set_cons_zero, List.set_cons_succ, List.getElem_toArray, List.getElem_cons_succ, List.getElem_cons_zero]
  refine wpAnyH_take (i := 8) (v := ?_) rfl (by kernel_rfl) (by kernel_rfl) (by kernel_rfl) (fun _ _ _ h => h) (Or.inl ⟨by rfl, ?_⟩) (by assumption) ?_
  rotate_left 1
  · intro w hSw; (try dsimp only at hSw); go_simp <;> with_reducible rfl
  try simp only [Act.put, List.setIfInBounds_toArray, List.set_cons_zero, List.set_cons_succ, List.getElem_toArray, List.getElem_cons_succ, List.getElem_cons_zero]
  refine wpAnyH_take (i := 9) (v := ?_) rfl (by kernel_rfl) (by kernel_rfl) (by kernel_rfl) (fun _ _ _ h => h) (Or.inl ⟨by rfl, ?_⟩) (by assumption) ?_
  rotate_left 1
  · intro w hSw; (try dsimp only at hSw); go_simp <;> with_reducible rfl
  try simp only [Act.put, List.setIfInBounds_toArray, List.set_cons_zero, List.set_cons_succ, List.getElem_toArray, List.getElem_cons_succ, List.getElem_cons_zero]
  refine wpAnyH_take (i := 10) (v := ?_) rfl (by kernel_rfl) (by kernel_rfl) (by kernel_rfl) (fun _ _ _ h => h) (Or.inl ⟨by rfl, ?_⟩) (by assumption) ?_
  rotate_left 1
  · intro w hSw; (try dsimp only at hSw); go_simp <;> with_reducible rfl
  try simp only [Act.put, List.setIfInBounds_toArray, List.set_cons_zero, List.set_cons_succ, List.getElem_toArray, List.getElem_cons_succ, List.getElem_cons_zero]
  refine wpAnyH_take (i := 11) (v := ?_) rfl (by kernel_rfl) (by kernel_rfl) (by kernel_rfl) (fun _ _ _ h => h) (Or.inl ⟨by rfl, ?_⟩) (by assumption) ?_
  rotate_left 1
  · intro w hSw; (try dsimp only at hSw); go_simp <;> with_reducible rfl
  try simp only [Act.put, List.setIfInBounds_toArray, List.set_cons_zero, List.set_cons_succ, List.getElem_toArray, List.getElem_cons_succ, List.getElem_cons_zero]
  refine wpAnyH_done (by kernel_rfl) ?_ _
  have hbw : Below w.heap.size w w' := hb.trans (hw'.mono hb.size)
  clear hC hHeld
  by_cases hf : v ∈ ys
  · have hf' : decide (v ∈ ys) = true := decide_eq_true hf
    have hL : (L : Int) < 1000 := by omega
    rw [hf']
    go_wp2_with fail
    go_ret
    exact ⟨by rw [hch.out, if_pos hf]; rfl, hbw⟩
  · have hf' : decide (v ∈ ys) = false := decide_eq_false hf
    rw [hf']
    go_wp2_with fail
    go_ret
    exact ⟨by rw [hch.out, if_neg hf]; rfl, hbw⟩
end Go.Proofs.Ybulkbqza
