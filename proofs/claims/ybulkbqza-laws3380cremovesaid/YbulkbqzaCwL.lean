/-
  Seat b3380a. zzs3380cwalk at a leaf.
-/
import Derived.Test.YbulkbqzaEq
namespace Go.Proofs.Ybulkbqza
open Go.RowKit
set_option linter.unusedVariables false
set_option maxRecDepth 100000
set_option linter.unusedSimpArgs false

theorem step_app0 {ops : Array Oper} {o : Oper} {a : Act} {w : World} {K : Act → World → Prop} {Q : Exit → Act → World → Prop} {E : Prop} (hg : o.guard = none) (s x : Operand) (hop : o.op = Op.call { callee := Callee.builtin Builtin.append, args := #[s, x], argTypes := #[28, 28] })
    (hs : a.eval s = .slice none 0 0) (ad : Addr) (c : Nat) (hx : a.eval x = .slice (some ad) 0 c) (h : K (a.put o.dst (.slice none 0 0)) w) :
    if Region.wanted o (yielded ops a.tmps) = true then Oper.wp Yba.prog o a w K Q else E := by
  have hw : Region.wanted o (yielded ops a.tmps) = true := by simp [Region.wanted, hg]
  rw [if_pos hw]
  obtain ⟨i0, hi, h1, h2, hz⟩ := info30_parts
  have hl : (loadCells ad 0).run Yba.prog w = .ok #[] w := by simpa using run_loadCells_list (P := Yba.prog) w ad [] (by simp)
  have hrun : (Builtin.append_ #[28, 28] o.type #[.slice none 0 0, .slice (some ad) 0 c]).run Yba.prog w = .ok (.slice none 0 0) w := by
    simp [Builtin.append_, run_underlying Yba.underlying28, sizeOf, typeInfo, hi, Builtin.lenOf, Builtin.firstCells, hl]
  unfold Oper.wp
  simp [execOp, hop, resolve, invoke, builtin, hs, hx, hrun]
  exact h

/-- What the walk leaves. -/
def Walked (base : Nat) (w w' : World) (ob : Nat) (acc ks : List Nat) : Prop := Out base w' ob (acc ++ ks) ∧ Kept (fun b => b = ob ∨ Arr w ob b) w w' ∧ ∀ b, Arr w' ob b → Arr w ob b ∨ w.heap.size ≤ b

set_option maxHeartbeats 1000000 in
theorem cwalk_leaf (w : World) (nb : Nat) (ks : List Nat) (n : Nat) (own : List Nat) (base ob : Nat) (acc : List Nat) (root : Bool) (T : Tree 0 33 33 w nb ks n own) (hroot : root = true ∨ (16 ≤ n ∧ n ≤ 32)) (hO : Out base w ob acc)
    (hown : ∀ b ∈ own, b < base ∧ b ≠ ob) (hob : ob < w.heap.size) (hbase : base ≤ w.heap.size) (hsum : ks.sum < 18446744073709551616) (hlen : acc.length + ks.length < 10000) (hke : ks = [] → acc = []) :
    Calls Yba.prog 17 #[.pointer (some ⟨nb, 0, none⟩), .bool root, .pointer (some ⟨ob, 0, none⟩)] w fun e w' => e = .returned (.tuple #[.int .i64 1, .bool true]) ∧ Walked base w w' ob acc ks := by
  obtain ⟨kb, xs, F⟩ := T
  obtain rfl := F.hN
  have en := eql_nil
  have en47 := neq47
  have N := F.hNode
  have KB := F.hKeys
  have hle := F.hLe
  obtain ⟨hnb1, hnb2⟩ := hown nb (by rw [F.hOwn]; simp)
  obtain ⟨hkb1, hkb2⟩ := hown kb (by rw [F.hOwn]; simp)
  have c0 : w.cell? ⟨nb, 0, none⟩ = some (.slice (some ⟨kb, 0, none⟩) ks.length 33) := N.cell 0
  have c1 : w.cell? ⟨nb, 1, none⟩ = some (.slice none 0 0) := N.cell 1
  have c2 : w.cell? ⟨nb, 2, none⟩ = some (.int .i64 (ks.length : Nat)) := N.cell 2
  have hI : Hid (∀ w1, Below w.heap.size w w1 → Ids w1 kb 0 ks) := fun w1 h1 => by
    have := (KB.below h1).ids 0 (zs := ks) (by rw [List.drop_zero]; exact ⟨xs.drop ks.length, (by have := List.take_append_drop ks.length xs; rw [F.hTake] at this; exact this)⟩)
    simpa using this
  have hC : ∀ w1, Below w.heap.size w w1 → Calls Yba.prog 10 #[.slice (some ⟨kb, 0, none⟩) ks.length 33] w1 fun e w' => e = .returned (.agg (dgc ks.sum).toArray) ∧ Below w.heap.size w w' := fun w1 h1 =>
    (csum_calls (some ⟨kb, 0, none⟩) ks 33 w1 (.inr ⟨kb, 0, rfl, Nat.lt_of_lt_of_le KB.lt h1.size, hI.out w1 h1⟩) F.hSmall hsum (by omega)).mono fun e w' ⟨he, hw⟩ => ⟨he, h1.trans (hw.mono h1.size)⟩
  have hguard : root = false → ¬ (ks.length : Int) < 16 ∧ ¬ (32 : Int) < (ks.length : Int) := fun h => by
    rcases hroot with h1 | h1
    · rw [h] at h1; cases h1
    · omega
  clear hroot
  cases root with
  | false =>
    obtain ⟨gd1, gd2⟩ := hguard rfl
    clear hguard
    go_enter Yba.func17, Yba.ntmps17
    go_wp2_with fail
    refine wp_region_B (fun w' => w'.cell? ⟨nb, 2, none⟩ = some (.int .i64 (ks.length : Nat)) ∧ w'.cell? ⟨nb, 0, none⟩ = some (.slice (some ⟨kb, 0, none⟩) ks.length 33) ∧ Below w.heap.size w w') (fun _ => true) (by kernel_rfl) (⟨by simpa using c2, by simpa using c0, (Below.refl _ w).drew⟩) (fun hHeld => ?_)
    simp only [List.size_toArray, List.length_cons, List.length_nil, Nat.reduceAdd, Array.replicate_succ, Array.replicate_zero, List.push_toArray, List.append_toArray, List.nil_append, List.cons_append]
    refine wpAnyB_takeW (i := 0) (v := ?_) rfl (by kernel_rfl) (by kernel_rfl) (by kernel_rfl) (fun _ _ _ h => h) (Or.inl ⟨by rfl, ?_⟩) ?_
    rotate_left 1
    · intro w hSw; go_simp <;> with_reducible rfl
    try simp only [Act.put, List.setIfInBounds_toArray, List.set_cons_zero, List.set_cons_succ, List.getElem_toArray, List.getElem_cons_succ, List.getElem_cons_zero]
    refine wpAnyB_takeW (i := 1) (v := ?_) rfl (by kernel_rfl) (by kernel_rfl) (by kernel_rfl) (fun _ _ _ h => h) (Or.inl ⟨by rfl, ?_⟩) ?_
    rotate_left 1
    · intro w hSw; go_simp <;> with_reducible rfl
    try simp only [Act.put, List.setIfInBounds_toArray, List.set_cons_zero, List.set_cons_succ, List.getElem_toArray, List.getElem_cons_succ, List.getElem_cons_zero]
    refine wpAnyB_takeW (i := 2) (v := ?_) rfl (by kernel_rfl) (by kernel_rfl) (by kernel_rfl) (fun _ _ _ h => h) (Or.inl ⟨by rfl, ?_⟩) ?_
    rotate_left 1
    · intro w hSw; go_simp <;> with_reducible rfl
    try simp only [Act.put, List.setIfInBounds_toArray, List.set_cons_zero, List.set_cons_succ, List.getElem_toArray, List.getElem_cons_succ, List.getElem_cons_zero]
    refine wpAnyB_take (i := 3) (v := ?_) rfl (by kernel_rfl) (by kernel_rfl) (by kernel_rfl) (by kernel_rfl) (fun _ _ _ h => h) (Or.inl ⟨by rfl, ?_⟩) hHeld ?_
    rotate_left 1
    · intro w hSw; (try dsimp only at hSw); obtain ⟨q1, q2, q3⟩ := hSw; go_simp <;> with_reducible rfl
    try simp only [Act.put, List.setIfInBounds_toArray, List.set_cons_zero, List.set_cons_succ, List.getElem_toArray, List.getElem_cons_succ, List.getElem_cons_zero]
    refine wpAnyB_takeW (i := 4) (v := ?_) rfl (by kernel_rfl) (by kernel_rfl) (by kernel_rfl) (fun _ _ _ h => h) (Or.inl ⟨by rfl, ?_⟩) ?_
    rotate_left 1
    · intro w hSw; go_simp <;> with_reducible rfl
    try simp only [Act.put, List.setIfInBounds_toArray, List.set_cons_zero, List.set_cons_succ, List.getElem_toArray, List.getElem_cons_succ, List.getElem_cons_zero]
    refine wpAnyB_takeW (i := 5) (v := ?_) rfl (by kernel_rfl) (by kernel_rfl) (by kernel_rfl) (fun _ _ _ h => h) (Or.inl ⟨by rfl, ?_⟩) ?_
    rotate_left 1
    · intro w hSw; go_simp <;> with_reducible rfl
    try simp only [Act.put, List.setIfInBounds_toArray, List.set_cons_zero, List.set_cons_succ, List.getElem_toArray, List.getElem_cons_succ, List.getElem_cons_zero]
    refine wpAnyB_takeW (i := 6) (v := ?_) rfl (by kernel_rfl) (by kernel_rfl) (by kernel_rfl) (fun _ _ _ h => h) (Or.inl ⟨by rfl, ?_⟩) ?_
    rotate_left 1
    · intro w hSw; go_simp <;> with_reducible rfl
    try simp only [Act.put, List.setIfInBounds_toArray, List.set_cons_zero, List.set_cons_succ, List.getElem_toArray, List.getElem_cons_succ, List.getElem_cons_zero]
    refine wpAnyB_take (i := 7) (v := ?_) rfl (by kernel_rfl) (by kernel_rfl) (by kernel_rfl) (by kernel_rfl) (fun _ _ _ h => h) (Or.inl ⟨by rfl, ?_⟩) hHeld ?_
    rotate_left 1
    · intro w hSw; (try dsimp only at hSw); obtain ⟨q1, q2, q3⟩ := hSw; go_simp <;> with_reducible rfl
    try simp only [Act.put, List.setIfInBounds_toArray, List.set_cons_zero, List.set_cons_succ, List.getElem_toArray, List.getElem_cons_succ, List.getElem_cons_zero]
    refine wpAnyB_takeW (i := 8) (v := ?_) rfl (by kernel_rfl) (by kernel_rfl) (by kernel_rfl) (fun _ _ _ h => h) (Or.inl ⟨by rfl, ?_⟩) ?_
    rotate_left 1
    · intro w hSw; go_simp <;> with_reducible rfl
    try simp only [Act.put, List.setIfInBounds_toArray, List.set_cons_zero, List.set_cons_succ, List.getElem_toArray, List.getElem_cons_succ, List.getElem_cons_zero]
    refine wpAnyB_takeW (i := 9) (v := ?_) rfl (by kernel_rfl) (by kernel_rfl) (by kernel_rfl) (fun _ _ _ h => h) (Or.inl ⟨by rfl, ?_⟩) ?_
    rotate_left 1
    · intro w hSw; go_simp <;> with_reducible rfl
    try simp only [Act.put, List.setIfInBounds_toArray, List.set_cons_zero, List.set_cons_succ, List.getElem_toArray, List.getElem_cons_succ, List.getElem_cons_zero]
    refine wpAnyB_takeW (i := 10) (v := ?_) rfl (by kernel_rfl) (by kernel_rfl) (by kernel_rfl) (fun _ _ _ h => h) (Or.inl ⟨by rfl, ?_⟩) ?_
    rotate_left 1
    · intro w hSw; go_simp <;> with_reducible rfl
    try simp only [Act.put, List.setIfInBounds_toArray, List.set_cons_zero, List.set_cons_succ, List.getElem_toArray, List.getElem_cons_succ, List.getElem_cons_zero]
    refine wpAnyB_takeW (i := 11) (v := ?_) rfl (by kernel_rfl) (by kernel_rfl) (by kernel_rfl) (fun _ _ _ h => h) (Or.inl ⟨by rfl, ?_⟩) ?_
    rotate_left 1
    · intro w hSw; go_simp <;> with_reducible rfl
    try simp only [Act.put, List.setIfInBounds_toArray, List.set_cons_zero, List.set_cons_succ, List.getElem_toArray, List.getElem_cons_succ, List.getElem_cons_zero]
    refine wpAnyB_takeW (i := 12) (v := ?_) rfl (by kernel_rfl) (by kernel_rfl) (by kernel_rfl) (fun _ _ _ h => h) (Or.inl ⟨by rfl, ?_⟩) ?_
    rotate_left 1
    · intro w hSw; go_simp <;> with_reducible rfl
    try simp only [Act.put, List.setIfInBounds_toArray, List.set_cons_zero, List.set_cons_succ, List.getElem_toArray, List.getElem_cons_succ, List.getElem_cons_zero]
    refine wpAnyB_takeW (i := 13) (v := ?_) rfl (by kernel_rfl) (by kernel_rfl) (by kernel_rfl) (fun _ _ _ h => h) (Or.inl ⟨by rfl, ?_⟩) ?_
    rotate_left 1
    · intro w hSw; go_simp <;> with_reducible rfl
    try simp only [Act.put, List.setIfInBounds_toArray, List.set_cons_zero, List.set_cons_succ, List.getElem_toArray, List.getElem_cons_succ, List.getElem_cons_zero]
    refine wpAnyB_load47 (i := 14) rfl (by kernel_rfl) (by kernel_rfl) (by kernel_rfl) (by kernel_rfl) (nb) (3) (ks.sum) (.tmp 54) rfl rfl (fun _ _ _ h => h) (by rfl) (fun w hSw => rangeAt_of_block N.digR (hSw.2.2.block _ N.lt)) hHeld ?_
    try simp only [Act.put, List.setIfInBounds_toArray, List.set_cons_zero, List.set_cons_succ, List.getElem_toArray, List.getElem_cons_succ, List.getElem_cons_zero]
    refine wpAnyB_takeW (i := 15) (v := ?_) rfl (by kernel_rfl) (by kernel_rfl) (by kernel_rfl) (fun _ _ _ h => h) (Or.inl ⟨by rfl, ?_⟩) ?_
    rotate_left 1
    · intro w hSw; go_simp <;> with_reducible rfl
    try simp only [Act.put, List.setIfInBounds_toArray, List.set_cons_zero, List.set_cons_succ, List.getElem_toArray, List.getElem_cons_succ, List.getElem_cons_zero]
    refine wpAnyB_takeW (i := 16) (v := ?_) rfl (by kernel_rfl) (by kernel_rfl) (by kernel_rfl) (fun _ _ _ h => h) (Or.inl ⟨by rfl, ?_⟩) ?_
    rotate_left 1
    · intro w hSw; go_simp <;> with_reducible rfl
    try simp only [Act.put, List.setIfInBounds_toArray, List.set_cons_zero, List.set_cons_succ, List.getElem_toArray, List.getElem_cons_succ, List.getElem_cons_zero]
    refine wpAnyB_takeW (i := 17) (v := ?_) rfl (by kernel_rfl) (by kernel_rfl) (by kernel_rfl) (fun _ _ _ h => h) (Or.inl ⟨by rfl, ?_⟩) ?_
    rotate_left 1
    · intro w hSw; go_simp <;> with_reducible rfl
    try simp only [Act.put, List.setIfInBounds_toArray, List.set_cons_zero, List.set_cons_succ, List.getElem_toArray, List.getElem_cons_succ, List.getElem_cons_zero]
    refine wpAnyB_take (i := 18) (v := ?_) rfl (by kernel_rfl) (by kernel_rfl) (by kernel_rfl) (by kernel_rfl) (fun _ _ _ h => h) (Or.inl ⟨by rfl, ?_⟩) hHeld ?_
    rotate_left 1
    · intro w hSw; (try dsimp only at hSw); obtain ⟨q1, q2, q3⟩ := hSw; go_simp <;> with_reducible rfl
    try simp only [Act.put, List.setIfInBounds_toArray, List.set_cons_zero, List.set_cons_succ, List.getElem_toArray, List.getElem_cons_succ, List.getElem_cons_zero]
    refine wpAnyB_step (i := 19) (by kernel_rfl) rfl (fun Kq hKq => ?_)
    go_simp
    refine (hC _ hHeld.2.2).mono ?_
    rintro e w1 ⟨rfl, hw1⟩
    dsimp only
    have hHeld := (⟨(hw1.cell (p := ⟨nb, 2, none⟩) N.lt).trans c2, (hw1.cell (p := ⟨nb, 0, none⟩) N.lt).trans c0, hw1⟩ : _ ∧ _ ∧ _)
    refine hKq.out _ _ (fun _ _ => hHeld) ?_
    clear hKq Kq
    try simp only [Act.put, List.setIfInBounds_toArray, List.set_cons_zero, List.set_cons_succ, List.getElem_toArray, List.getElem_cons_succ, List.getElem_cons_zero]
    refine wpAnyB_takeW (i := 20) (v := ?_) rfl (by kernel_rfl) (by kernel_rfl) (by kernel_rfl) (fun _ _ _ h => h) (Or.inl ⟨by rfl, ?_⟩) ?_
    rotate_left 1
    · intro w hSw; go_simp <;> with_reducible rfl
    try simp only [Act.put, List.setIfInBounds_toArray, List.set_cons_zero, List.set_cons_succ, List.getElem_toArray, List.getElem_cons_succ, List.getElem_cons_zero]
    refine wpAnyB_takeW (i := 21) (v := ?_) rfl (by kernel_rfl) (by kernel_rfl) (by kernel_rfl) (fun _ _ _ h => h) (Or.inl ⟨by rfl, ?_⟩) ?_
    rotate_left 1
    · intro w hSw; go_simp <;> with_reducible rfl
    try simp only [Act.put, List.setIfInBounds_toArray, List.set_cons_zero, List.set_cons_succ, List.getElem_toArray, List.getElem_cons_succ, List.getElem_cons_zero]
    refine wpAnyB_done (by kernel_rfl) ?_ _
    go_wp2_with fail
    replace hO := hO.kept (S := fun _ => False) (Kept.of_below hw1) (fun h => h) (fun _ _ _ h => h)
    obtain ⟨av, cv, BO, hSl, hav⟩ := hO.value
    have y1 : w1.cell? ⟨ob, 0, none⟩ = some (.slice av acc.length cv) := BO.cell 0
    have y2 : w1.cell? ⟨nb, 0, none⟩ = some (.slice (some ⟨kb, 0, none⟩) ks.length 33) := (hw1.cell (p := ⟨nb, 0, none⟩) N.lt).trans c0
    have hs1 := hw1.size
    clear hHeld hC
    refine wp_region_B (fun w' => w'.cell? ⟨ob, 0, none⟩ = some (.slice av acc.length cv) ∧ w'.cell? ⟨nb, 0, none⟩ = some (.slice (some ⟨kb, 0, none⟩) ks.length 33)) (fun j => j != 10) (by kernel_rfl) (⟨by simpa using y1, by simpa using y2⟩) (fun hHeld => ?_)
    simp only [List.size_toArray, List.length_cons, List.length_nil, Nat.reduceAdd, Array.replicate_succ, Array.replicate_zero, List.push_toArray, List.append_toArray, List.nil_append, List.cons_append]
    refine wpAnyB_takeW (i := 0) (v := ?_) rfl (by kernel_rfl) (by kernel_rfl) (by kernel_rfl) (fun _ _ _ h => h) (Or.inl ⟨by rfl, ?_⟩) ?_
    rotate_left 1
    · intro w hSw; go_simp <;> with_reducible rfl
    try simp only [Act.put, List.setIfInBounds_toArray, List.set_cons_zero, List.set_cons_succ, List.getElem_toArray, List.getElem_cons_succ, List.getElem_cons_zero]
    refine wpAnyB_takeW (i := 1) (v := ?_) rfl (by kernel_rfl) (by kernel_rfl) (by kernel_rfl) (fun _ _ _ h => h) (Or.inl ⟨by rfl, ?_⟩) ?_
    rotate_left 1
    · intro w hSw; go_simp <;> with_reducible rfl
    try simp only [Act.put, List.setIfInBounds_toArray, List.set_cons_zero, List.set_cons_succ, List.getElem_toArray, List.getElem_cons_succ, List.getElem_cons_zero]
    refine wpAnyB_takeW (i := 2) (v := ?_) rfl (by kernel_rfl) (by kernel_rfl) (by kernel_rfl) (fun _ _ _ h => h) (Or.inl ⟨by rfl, ?_⟩) ?_
    rotate_left 1
    · intro w hSw; go_simp <;> with_reducible rfl
    try simp only [Act.put, List.setIfInBounds_toArray, List.set_cons_zero, List.set_cons_succ, List.getElem_toArray, List.getElem_cons_succ, List.getElem_cons_zero]
    refine wpAnyB_take (i := 3) (v := ?_) rfl (by kernel_rfl) (by kernel_rfl) (by kernel_rfl) (by kernel_rfl) (fun _ _ _ h => h) (Or.inl ⟨by rfl, ?_⟩) hHeld ?_
    rotate_left 1
    · intro w hSw; (try dsimp only at hSw); obtain ⟨q1, q2⟩ := hSw; go_simp <;> with_reducible rfl
    try simp only [Act.put, List.setIfInBounds_toArray, List.set_cons_zero, List.set_cons_succ, List.getElem_toArray, List.getElem_cons_succ, List.getElem_cons_zero]
    refine wpAnyB_takeW (i := 4) (v := ?_) rfl (by kernel_rfl) (by kernel_rfl) (by kernel_rfl) (fun _ _ _ h => h) (Or.inl ⟨by rfl, ?_⟩) ?_
    rotate_left 1
    · intro w hSw; go_simp <;> with_reducible rfl
    try simp only [Act.put, List.setIfInBounds_toArray, List.set_cons_zero, List.set_cons_succ, List.getElem_toArray, List.getElem_cons_succ, List.getElem_cons_zero]
    refine wpAnyB_takeW (i := 5) (v := ?_) rfl (by kernel_rfl) (by kernel_rfl) (by kernel_rfl) (fun _ _ _ h => h) (Or.inl ⟨by rfl, ?_⟩) ?_
    rotate_left 1
    · intro w hSw; go_simp <;> with_reducible rfl
    try simp only [Act.put, List.setIfInBounds_toArray, List.set_cons_zero, List.set_cons_succ, List.getElem_toArray, List.getElem_cons_succ, List.getElem_cons_zero]
    refine wpAnyB_takeW (i := 6) (v := ?_) rfl (by kernel_rfl) (by kernel_rfl) (by kernel_rfl) (fun _ _ _ h => h) (Or.inl ⟨by rfl, ?_⟩) ?_
    rotate_left 1
    · intro w hSw; go_simp <;> with_reducible rfl
    try simp only [Act.put, List.setIfInBounds_toArray, List.set_cons_zero, List.set_cons_succ, List.getElem_toArray, List.getElem_cons_succ, List.getElem_cons_zero]
    refine wpAnyB_take (i := 7) (v := ?_) rfl (by kernel_rfl) (by kernel_rfl) (by kernel_rfl) (by kernel_rfl) (fun _ _ _ h => h) (Or.inl ⟨by rfl, ?_⟩) hHeld ?_
    rotate_left 1
    · intro w hSw; (try dsimp only at hSw); obtain ⟨q1, q2⟩ := hSw; go_simp <;> with_reducible rfl
    try simp only [Act.put, List.setIfInBounds_toArray, List.set_cons_zero, List.set_cons_succ, List.getElem_toArray, List.getElem_cons_succ, List.getElem_cons_zero]
    by_cases hz : ks = []
    · have ha0 := hke hz
      have hv0 : av = none ∧ cv = 0 := by
        rcases hO with ⟨_, B⟩ | ⟨hne, _⟩
        · have := (BO.inj B).1; simp at this; exact ⟨this.1, this.2.2⟩
        · exact absurd ha0 hne
      obtain ⟨rfl, rfl⟩ := hv0
      subst ha0
      subst hz
      have fo := BO.frozen 0
      refine wpAnyB_step (i := 8) (by kernel_rfl) rfl (fun Kq hKq => ?_)
      refine step_app0 rfl (.tmp 66) (.tmp 70) rfl rfl ⟨kb, 0, none⟩ 33 rfl ?_
      have hHeld := hHeld
      refine hKq.out _ _ (fun _ _ => hHeld) ?_
      clear hKq Kq
      try simp only [Act.put, List.setIfInBounds_toArray, List.set_cons_zero, List.set_cons_succ, List.getElem_toArray, List.getElem_cons_succ, List.getElem_cons_zero]
      refine wpAnyB_takeW (i := 9) (v := ?_) rfl (by kernel_rfl) (by kernel_rfl) (by kernel_rfl) (fun _ _ _ h => h) (Or.inl ⟨by rfl, ?_⟩) ?_
      rotate_left 1
      · intro w hSw; go_simp <;> with_reducible rfl
      try simp only [Act.put, List.setIfInBounds_toArray, List.set_cons_zero, List.set_cons_succ, List.getElem_toArray, List.getElem_cons_succ, List.getElem_cons_zero]
      refine wpAnyB_step (i := 10) (by kernel_rfl) rfl (fun Kq hKq => ?_)
      go_simp
      refine hKq.out _ _ (fun h => absurd h (by decide)) ?_
      clear hKq Kq
      try simp only [Act.put, List.setIfInBounds_toArray, List.set_cons_zero, List.set_cons_succ, List.getElem_toArray, List.getElem_cons_succ, List.getElem_cons_zero]
      refine wpAnyB_done (by kernel_rfl) ?_ _
      go_wp2_with fail
      go_ret2
      refine ⟨rfl, .inl ⟨rfl, (BO.set 0 (.slice none 0 0)).drew⟩, ((Kept.of_below hw1).setCell (p := ⟨ob, 0, none⟩) (.inr (.inl rfl)) _).drew, ?_⟩
      rintro b ⟨n', cap', hb⟩
      have := (hb.inj (BO.set 0 (.slice none 0 0)).drew).1
      simp at this
    · refine wpAnyB_step (i := 8) (by kernel_rfl) rfl (fun Kq hKq => ?_)
      refine step_out rfl (.tmp 66) (.tmp 70) rfl base ob acc (w := w1.drew) ?_ (by show ob < w1.heap.size; omega) (by show base ≤ w1.heap.size; omega) _ BO.drew rfl ⟨kb, 0, none⟩ ks.length 33 ks rfl rfl (List.length_pos_iff.2 hz) ?_ hlen ?_
      · exact hO.kept (S := fun _ => False) (Kept.refl _ w1).drew (fun h => h) (fun _ _ _ h => h)
      · exact (hI.out w1 hw1 |>.of_block rfl : Ids w1.drew kb 0 ks).cells
      intro w2 g cap zs BG z1 z2 z3 z4 z5 BO2 k2 z6
      have hHeld := (⟨BO2.cell 0, (k2.cell (p := ⟨nb, 0, none⟩) (by show nb < w1.heap.size; have := N.lt; omega) (fun h => absurd hnb1 (Nat.not_lt.2 (hO.arr (h.of_block rfl)).1))).trans y2⟩ : _ ∧ _)
      refine hKq.out _ _ (fun _ _ => hHeld) ?_
      clear hKq Kq
      try simp only [Act.put, List.setIfInBounds_toArray, List.set_cons_zero, List.set_cons_succ, List.getElem_toArray, List.getElem_cons_succ, List.getElem_cons_zero]
      refine wpAnyB_takeW (i := 9) (v := ?_) rfl (by kernel_rfl) (by kernel_rfl) (by kernel_rfl) (fun _ _ _ h => h) (Or.inl ⟨by rfl, ?_⟩) ?_
      rotate_left 1
      · intro w hSw; go_simp <;> with_reducible rfl
      try simp only [Act.put, List.setIfInBounds_toArray, List.set_cons_zero, List.set_cons_succ, List.getElem_toArray, List.getElem_cons_succ, List.getElem_cons_zero]
      have fo := BO2.frozen 0
      have co : w2.cell? ⟨ob, 0, none⟩ = some (.slice av acc.length cv) := BO2.cell 0
      refine wpAnyB_step (i := 10) (by kernel_rfl) rfl (fun Kq hKq => ?_)
      go_simp
      refine hKq.out _ _ (fun h => absurd h (by decide)) ?_
      clear hKq Kq
      try simp only [Act.put, List.setIfInBounds_toArray, List.set_cons_zero, List.set_cons_succ, List.getElem_toArray, List.getElem_cons_succ, List.getElem_cons_zero]
      refine wpAnyB_done (by kernel_rfl) ?_ _
      go_wp2_with fail
      go_ret2
      refine ⟨rfl, .inr ⟨by simp [hz], g, cap, zs, ?_, z4, z5, BG.setOther (p := ⟨ob, 0, none⟩) (fun e => z5 e.symm) _, z1, by rw [List.length_append]; exact z2, by rw [List.length_append]; exact z3⟩, ?_, ?_⟩
      · rw [List.length_append]; exact BO2.set 0 _
      · refine Kept.setCell (S := fun b => b = ob ∨ Arr w ob b) (((Kept.of_below hw1).trans (Kept.refl _ w1).drew).trans ⟨k2.os, k2.tape, k2.output, k2.size, fun b hb hn => k2.block b hb (fun h => hn (.inr (h.of_block (hw1.block _ hob))))⟩) (p := ⟨ob, 0, none⟩) (.inr (.inl rfl)) _
      · rintro b ⟨n', cap', hb⟩
        have := (hb.inj (BO2.set 0 (.slice (some ⟨g, 0, none⟩) (acc.length + ks.length) cap))).1
        simp at this
        obtain ⟨rfl, _⟩ := this
        rcases z6 with h | h
        · exact .inl (h.of_block (hw1.block _ hob))
        · exact .inr (Nat.le_trans hs1 h)
  | true =>
    clear hguard
    go_enter Yba.func17, Yba.ntmps17
    go_wp2_with fail
    refine wp_region_B (fun w' => w'.cell? ⟨nb, 2, none⟩ = some (.int .i64 (ks.length : Nat)) ∧ w'.cell? ⟨nb, 0, none⟩ = some (.slice (some ⟨kb, 0, none⟩) ks.length 33) ∧ Below w.heap.size w w') (fun _ => true) (by kernel_rfl) (⟨by simpa using c2, by simpa using c0, (Below.refl _ w).drew⟩) (fun hHeld => ?_)
    simp only [List.size_toArray, List.length_cons, List.length_nil, Nat.reduceAdd, Array.replicate_succ, Array.replicate_zero, List.push_toArray, List.append_toArray, List.nil_append, List.cons_append]
    refine wpAnyB_takeW (i := 0) (v := ?_) rfl (by kernel_rfl) (by kernel_rfl) (by kernel_rfl) (fun _ _ _ h => h) (Or.inl ⟨by rfl, ?_⟩) ?_
    rotate_left 1
    · intro w hSw; go_simp <;> with_reducible rfl
    try simp only [Act.put, List.setIfInBounds_toArray, List.set_cons_zero, List.set_cons_succ, List.getElem_toArray, List.getElem_cons_succ, List.getElem_cons_zero]
    refine wpAnyB_takeW (i := 1) (v := ?_) rfl (by kernel_rfl) (by kernel_rfl) (by kernel_rfl) (fun _ _ _ h => h) (Or.inl ⟨by rfl, ?_⟩) ?_
    rotate_left 1
    · intro w hSw; go_simp <;> with_reducible rfl
    try simp only [Act.put, List.setIfInBounds_toArray, List.set_cons_zero, List.set_cons_succ, List.getElem_toArray, List.getElem_cons_succ, List.getElem_cons_zero]
    refine wpAnyB_takeW (i := 2) (v := ?_) rfl (by kernel_rfl) (by kernel_rfl) (by kernel_rfl) (fun _ _ _ h => h) (Or.inl ⟨by rfl, ?_⟩) ?_
    rotate_left 1
    · intro w hSw; go_simp <;> with_reducible rfl
    try simp only [Act.put, List.setIfInBounds_toArray, List.set_cons_zero, List.set_cons_succ, List.getElem_toArray, List.getElem_cons_succ, List.getElem_cons_zero]
    refine wpAnyB_take (i := 3) (v := ?_) rfl (by kernel_rfl) (by kernel_rfl) (by kernel_rfl) (by kernel_rfl) (fun _ _ _ h => h) (Or.inl ⟨by rfl, ?_⟩) hHeld ?_
    rotate_left 1
    · intro w hSw; (try dsimp only at hSw); obtain ⟨q1, q2, q3⟩ := hSw; go_simp <;> with_reducible rfl
    try simp only [Act.put, List.setIfInBounds_toArray, List.set_cons_zero, List.set_cons_succ, List.getElem_toArray, List.getElem_cons_succ, List.getElem_cons_zero]
    refine wpAnyB_takeW (i := 4) (v := ?_) rfl (by kernel_rfl) (by kernel_rfl) (by kernel_rfl) (fun _ _ _ h => h) (Or.inl ⟨by rfl, ?_⟩) ?_
    rotate_left 1
    · intro w hSw; go_simp <;> with_reducible rfl
    try simp only [Act.put, List.setIfInBounds_toArray, List.set_cons_zero, List.set_cons_succ, List.getElem_toArray, List.getElem_cons_succ, List.getElem_cons_zero]
    refine wpAnyB_takeW (i := 5) (v := ?_) rfl (by kernel_rfl) (by kernel_rfl) (by kernel_rfl) (fun _ _ _ h => h) (Or.inl ⟨by rfl, ?_⟩) ?_
    rotate_left 1
    · intro w hSw; go_simp <;> with_reducible rfl
    try simp only [Act.put, List.setIfInBounds_toArray, List.set_cons_zero, List.set_cons_succ, List.getElem_toArray, List.getElem_cons_succ, List.getElem_cons_zero]
    refine wpAnyB_takeW (i := 6) (v := ?_) rfl (by kernel_rfl) (by kernel_rfl) (by kernel_rfl) (fun _ _ _ h => h) (Or.inl ⟨by rfl, ?_⟩) ?_
    rotate_left 1
    · intro w hSw; go_simp <;> with_reducible rfl
    try simp only [Act.put, List.setIfInBounds_toArray, List.set_cons_zero, List.set_cons_succ, List.getElem_toArray, List.getElem_cons_succ, List.getElem_cons_zero]
    refine wpAnyB_take (i := 7) (v := ?_) rfl (by kernel_rfl) (by kernel_rfl) (by kernel_rfl) (by kernel_rfl) (fun _ _ _ h => h) (Or.inl ⟨by rfl, ?_⟩) hHeld ?_
    rotate_left 1
    · intro w hSw; (try dsimp only at hSw); obtain ⟨q1, q2, q3⟩ := hSw; go_simp <;> with_reducible rfl
    try simp only [Act.put, List.setIfInBounds_toArray, List.set_cons_zero, List.set_cons_succ, List.getElem_toArray, List.getElem_cons_succ, List.getElem_cons_zero]
    refine wpAnyB_takeW (i := 8) (v := ?_) rfl (by kernel_rfl) (by kernel_rfl) (by kernel_rfl) (fun _ _ _ h => h) (Or.inl ⟨by rfl, ?_⟩) ?_
    rotate_left 1
    · intro w hSw; go_simp <;> with_reducible rfl
    try simp only [Act.put, List.setIfInBounds_toArray, List.set_cons_zero, List.set_cons_succ, List.getElem_toArray, List.getElem_cons_succ, List.getElem_cons_zero]
    refine wpAnyB_takeW (i := 9) (v := ?_) rfl (by kernel_rfl) (by kernel_rfl) (by kernel_rfl) (fun _ _ _ h => h) (Or.inl ⟨by rfl, ?_⟩) ?_
    rotate_left 1
    · intro w hSw; go_simp <;> with_reducible rfl
    try simp only [Act.put, List.setIfInBounds_toArray, List.set_cons_zero, List.set_cons_succ, List.getElem_toArray, List.getElem_cons_succ, List.getElem_cons_zero]
    refine wpAnyB_takeW (i := 10) (v := ?_) rfl (by kernel_rfl) (by kernel_rfl) (by kernel_rfl) (fun _ _ _ h => h) (Or.inl ⟨by rfl, ?_⟩) ?_
    rotate_left 1
    · intro w hSw; go_simp <;> with_reducible rfl
    try simp only [Act.put, List.setIfInBounds_toArray, List.set_cons_zero, List.set_cons_succ, List.getElem_toArray, List.getElem_cons_succ, List.getElem_cons_zero]
    refine wpAnyB_takeW (i := 11) (v := ?_) rfl (by kernel_rfl) (by kernel_rfl) (by kernel_rfl) (fun _ _ _ h => h) (Or.inl ⟨by rfl, ?_⟩) ?_
    rotate_left 1
    · intro w hSw; go_simp <;> with_reducible rfl
    try simp only [Act.put, List.setIfInBounds_toArray, List.set_cons_zero, List.set_cons_succ, List.getElem_toArray, List.getElem_cons_succ, List.getElem_cons_zero]
    refine wpAnyB_takeW (i := 12) (v := ?_) rfl (by kernel_rfl) (by kernel_rfl) (by kernel_rfl) (fun _ _ _ h => h) (Or.inl ⟨by rfl, ?_⟩) ?_
    rotate_left 1
    · intro w hSw; go_simp <;> with_reducible rfl
    try simp only [Act.put, List.setIfInBounds_toArray, List.set_cons_zero, List.set_cons_succ, List.getElem_toArray, List.getElem_cons_succ, List.getElem_cons_zero]
    refine wpAnyB_takeW (i := 13) (v := ?_) rfl (by kernel_rfl) (by kernel_rfl) (by kernel_rfl) (fun _ _ _ h => h) (Or.inl ⟨by rfl, ?_⟩) ?_
    rotate_left 1
    · intro w hSw; go_simp <;> with_reducible rfl
    try simp only [Act.put, List.setIfInBounds_toArray, List.set_cons_zero, List.set_cons_succ, List.getElem_toArray, List.getElem_cons_succ, List.getElem_cons_zero]
    refine wpAnyB_load47 (i := 14) rfl (by kernel_rfl) (by kernel_rfl) (by kernel_rfl) (by kernel_rfl) (nb) (3) (ks.sum) (.tmp 54) rfl rfl (fun _ _ _ h => h) (by rfl) (fun w hSw => rangeAt_of_block N.digR (hSw.2.2.block _ N.lt)) hHeld ?_
    try simp only [Act.put, List.setIfInBounds_toArray, List.set_cons_zero, List.set_cons_succ, List.getElem_toArray, List.getElem_cons_succ, List.getElem_cons_zero]
    refine wpAnyB_takeW (i := 15) (v := ?_) rfl (by kernel_rfl) (by kernel_rfl) (by kernel_rfl) (fun _ _ _ h => h) (Or.inl ⟨by rfl, ?_⟩) ?_
    rotate_left 1
    · intro w hSw; go_simp <;> with_reducible rfl
    try simp only [Act.put, List.setIfInBounds_toArray, List.set_cons_zero, List.set_cons_succ, List.getElem_toArray, List.getElem_cons_succ, List.getElem_cons_zero]
    refine wpAnyB_takeW (i := 16) (v := ?_) rfl (by kernel_rfl) (by kernel_rfl) (by kernel_rfl) (fun _ _ _ h => h) (Or.inl ⟨by rfl, ?_⟩) ?_
    rotate_left 1
    · intro w hSw; go_simp <;> with_reducible rfl
    try simp only [Act.put, List.setIfInBounds_toArray, List.set_cons_zero, List.set_cons_succ, List.getElem_toArray, List.getElem_cons_succ, List.getElem_cons_zero]
    refine wpAnyB_takeW (i := 17) (v := ?_) rfl (by kernel_rfl) (by kernel_rfl) (by kernel_rfl) (fun _ _ _ h => h) (Or.inl ⟨by rfl, ?_⟩) ?_
    rotate_left 1
    · intro w hSw; go_simp <;> with_reducible rfl
    try simp only [Act.put, List.setIfInBounds_toArray, List.set_cons_zero, List.set_cons_succ, List.getElem_toArray, List.getElem_cons_succ, List.getElem_cons_zero]
    refine wpAnyB_take (i := 18) (v := ?_) rfl (by kernel_rfl) (by kernel_rfl) (by kernel_rfl) (by kernel_rfl) (fun _ _ _ h => h) (Or.inl ⟨by rfl, ?_⟩) hHeld ?_
    rotate_left 1
    · intro w hSw; (try dsimp only at hSw); obtain ⟨q1, q2, q3⟩ := hSw; go_simp <;> with_reducible rfl
    try simp only [Act.put, List.setIfInBounds_toArray, List.set_cons_zero, List.set_cons_succ, List.getElem_toArray, List.getElem_cons_succ, List.getElem_cons_zero]
    refine wpAnyB_step (i := 19) (by kernel_rfl) rfl (fun Kq hKq => ?_)
    go_simp
    refine (hC _ hHeld.2.2).mono ?_
    rintro e w1 ⟨rfl, hw1⟩
    dsimp only
    have hHeld := (⟨(hw1.cell (p := ⟨nb, 2, none⟩) N.lt).trans c2, (hw1.cell (p := ⟨nb, 0, none⟩) N.lt).trans c0, hw1⟩ : _ ∧ _ ∧ _)
    refine hKq.out _ _ (fun _ _ => hHeld) ?_
    clear hKq Kq
    try simp only [Act.put, List.setIfInBounds_toArray, List.set_cons_zero, List.set_cons_succ, List.getElem_toArray, List.getElem_cons_succ, List.getElem_cons_zero]
    refine wpAnyB_takeW (i := 20) (v := ?_) rfl (by kernel_rfl) (by kernel_rfl) (by kernel_rfl) (fun _ _ _ h => h) (Or.inl ⟨by rfl, ?_⟩) ?_
    rotate_left 1
    · intro w hSw; go_simp <;> with_reducible rfl
    try simp only [Act.put, List.setIfInBounds_toArray, List.set_cons_zero, List.set_cons_succ, List.getElem_toArray, List.getElem_cons_succ, List.getElem_cons_zero]
    refine wpAnyB_takeW (i := 21) (v := ?_) rfl (by kernel_rfl) (by kernel_rfl) (by kernel_rfl) (fun _ _ _ h => h) (Or.inl ⟨by rfl, ?_⟩) ?_
    rotate_left 1
    · intro w hSw; go_simp <;> with_reducible rfl
    try simp only [Act.put, List.setIfInBounds_toArray, List.set_cons_zero, List.set_cons_succ, List.getElem_toArray, List.getElem_cons_succ, List.getElem_cons_zero]
    refine wpAnyB_done (by kernel_rfl) ?_ _
    go_wp2_with fail
    replace hO := hO.kept (S := fun _ => False) (Kept.of_below hw1) (fun h => h) (fun _ _ _ h => h)
    obtain ⟨av, cv, BO, hSl, hav⟩ := hO.value
    have y1 : w1.cell? ⟨ob, 0, none⟩ = some (.slice av acc.length cv) := BO.cell 0
    have y2 : w1.cell? ⟨nb, 0, none⟩ = some (.slice (some ⟨kb, 0, none⟩) ks.length 33) := (hw1.cell (p := ⟨nb, 0, none⟩) N.lt).trans c0
    have hs1 := hw1.size
    clear hHeld hC
    refine wp_region_B (fun w' => w'.cell? ⟨ob, 0, none⟩ = some (.slice av acc.length cv) ∧ w'.cell? ⟨nb, 0, none⟩ = some (.slice (some ⟨kb, 0, none⟩) ks.length 33)) (fun j => j != 10) (by kernel_rfl) (⟨by simpa using y1, by simpa using y2⟩) (fun hHeld => ?_)
    simp only [List.size_toArray, List.length_cons, List.length_nil, Nat.reduceAdd, Array.replicate_succ, Array.replicate_zero, List.push_toArray, List.append_toArray, List.nil_append, List.cons_append]
    refine wpAnyB_takeW (i := 0) (v := ?_) rfl (by kernel_rfl) (by kernel_rfl) (by kernel_rfl) (fun _ _ _ h => h) (Or.inl ⟨by rfl, ?_⟩) ?_
    rotate_left 1
    · intro w hSw; go_simp <;> with_reducible rfl
    try simp only [Act.put, List.setIfInBounds_toArray, List.set_cons_zero, List.set_cons_succ, List.getElem_toArray, List.getElem_cons_succ, List.getElem_cons_zero]
    refine wpAnyB_takeW (i := 1) (v := ?_) rfl (by kernel_rfl) (by kernel_rfl) (by kernel_rfl) (fun _ _ _ h => h) (Or.inl ⟨by rfl, ?_⟩) ?_
    rotate_left 1
    · intro w hSw; go_simp <;> with_reducible rfl
    try simp only [Act.put, List.setIfInBounds_toArray, List.set_cons_zero, List.set_cons_succ, List.getElem_toArray, List.getElem_cons_succ, List.getElem_cons_zero]
    refine wpAnyB_takeW (i := 2) (v := ?_) rfl (by kernel_rfl) (by kernel_rfl) (by kernel_rfl) (fun _ _ _ h => h) (Or.inl ⟨by rfl, ?_⟩) ?_
    rotate_left 1
    · intro w hSw; go_simp <;> with_reducible rfl
    try simp only [Act.put, List.setIfInBounds_toArray, List.set_cons_zero, List.set_cons_succ, List.getElem_toArray, List.getElem_cons_succ, List.getElem_cons_zero]
    refine wpAnyB_take (i := 3) (v := ?_) rfl (by kernel_rfl) (by kernel_rfl) (by kernel_rfl) (by kernel_rfl) (fun _ _ _ h => h) (Or.inl ⟨by rfl, ?_⟩) hHeld ?_
    rotate_left 1
    · intro w hSw; (try dsimp only at hSw); obtain ⟨q1, q2⟩ := hSw; go_simp <;> with_reducible rfl
    try simp only [Act.put, List.setIfInBounds_toArray, List.set_cons_zero, List.set_cons_succ, List.getElem_toArray, List.getElem_cons_succ, List.getElem_cons_zero]
    refine wpAnyB_takeW (i := 4) (v := ?_) rfl (by kernel_rfl) (by kernel_rfl) (by kernel_rfl) (fun _ _ _ h => h) (Or.inl ⟨by rfl, ?_⟩) ?_
    rotate_left 1
    · intro w hSw; go_simp <;> with_reducible rfl
    try simp only [Act.put, List.setIfInBounds_toArray, List.set_cons_zero, List.set_cons_succ, List.getElem_toArray, List.getElem_cons_succ, List.getElem_cons_zero]
    refine wpAnyB_takeW (i := 5) (v := ?_) rfl (by kernel_rfl) (by kernel_rfl) (by kernel_rfl) (fun _ _ _ h => h) (Or.inl ⟨by rfl, ?_⟩) ?_
    rotate_left 1
    · intro w hSw; go_simp <;> with_reducible rfl
    try simp only [Act.put, List.setIfInBounds_toArray, List.set_cons_zero, List.set_cons_succ, List.getElem_toArray, List.getElem_cons_succ, List.getElem_cons_zero]
    refine wpAnyB_takeW (i := 6) (v := ?_) rfl (by kernel_rfl) (by kernel_rfl) (by kernel_rfl) (fun _ _ _ h => h) (Or.inl ⟨by rfl, ?_⟩) ?_
    rotate_left 1
    · intro w hSw; go_simp <;> with_reducible rfl
    try simp only [Act.put, List.setIfInBounds_toArray, List.set_cons_zero, List.set_cons_succ, List.getElem_toArray, List.getElem_cons_succ, List.getElem_cons_zero]
    refine wpAnyB_take (i := 7) (v := ?_) rfl (by kernel_rfl) (by kernel_rfl) (by kernel_rfl) (by kernel_rfl) (fun _ _ _ h => h) (Or.inl ⟨by rfl, ?_⟩) hHeld ?_
    rotate_left 1
    · intro w hSw; (try dsimp only at hSw); obtain ⟨q1, q2⟩ := hSw; go_simp <;> with_reducible rfl
    try simp only [Act.put, List.setIfInBounds_toArray, List.set_cons_zero, List.set_cons_succ, List.getElem_toArray, List.getElem_cons_succ, List.getElem_cons_zero]
    by_cases hz : ks = []
    · have ha0 := hke hz
      have hv0 : av = none ∧ cv = 0 := by
        rcases hO with ⟨_, B⟩ | ⟨hne, _⟩
        · have := (BO.inj B).1; simp at this; exact ⟨this.1, this.2.2⟩
        · exact absurd ha0 hne
      obtain ⟨rfl, rfl⟩ := hv0
      subst ha0
      subst hz
      have fo := BO.frozen 0
      refine wpAnyB_step (i := 8) (by kernel_rfl) rfl (fun Kq hKq => ?_)
      refine step_app0 rfl (.tmp 66) (.tmp 70) rfl rfl ⟨kb, 0, none⟩ 33 rfl ?_
      have hHeld := hHeld
      refine hKq.out _ _ (fun _ _ => hHeld) ?_
      clear hKq Kq
      try simp only [Act.put, List.setIfInBounds_toArray, List.set_cons_zero, List.set_cons_succ, List.getElem_toArray, List.getElem_cons_succ, List.getElem_cons_zero]
      refine wpAnyB_takeW (i := 9) (v := ?_) rfl (by kernel_rfl) (by kernel_rfl) (by kernel_rfl) (fun _ _ _ h => h) (Or.inl ⟨by rfl, ?_⟩) ?_
      rotate_left 1
      · intro w hSw; go_simp <;> with_reducible rfl
      try simp only [Act.put, List.setIfInBounds_toArray, List.set_cons_zero, List.set_cons_succ, List.getElem_toArray, List.getElem_cons_succ, List.getElem_cons_zero]
      refine wpAnyB_step (i := 10) (by kernel_rfl) rfl (fun Kq hKq => ?_)
      go_simp
      refine hKq.out _ _ (fun h => absurd h (by decide)) ?_
      clear hKq Kq
      try simp only [Act.put, List.setIfInBounds_toArray, List.set_cons_zero, List.set_cons_succ, List.getElem_toArray, List.getElem_cons_succ, List.getElem_cons_zero]
      refine wpAnyB_done (by kernel_rfl) ?_ _
      go_wp2_with fail
      go_ret2
      refine ⟨rfl, .inl ⟨rfl, (BO.set 0 (.slice none 0 0)).drew⟩, ((Kept.of_below hw1).setCell (p := ⟨ob, 0, none⟩) (.inr (.inl rfl)) _).drew, ?_⟩
      rintro b ⟨n', cap', hb⟩
      have := (hb.inj (BO.set 0 (.slice none 0 0)).drew).1
      simp at this
    · refine wpAnyB_step (i := 8) (by kernel_rfl) rfl (fun Kq hKq => ?_)
      refine step_out rfl (.tmp 66) (.tmp 70) rfl base ob acc (w := w1.drew) ?_ (by show ob < w1.heap.size; omega) (by show base ≤ w1.heap.size; omega) _ BO.drew rfl ⟨kb, 0, none⟩ ks.length 33 ks rfl rfl (List.length_pos_iff.2 hz) ?_ hlen ?_
      · exact hO.kept (S := fun _ => False) (Kept.refl _ w1).drew (fun h => h) (fun _ _ _ h => h)
      · exact (hI.out w1 hw1 |>.of_block rfl : Ids w1.drew kb 0 ks).cells
      intro w2 g cap zs BG z1 z2 z3 z4 z5 BO2 k2 z6
      have hHeld := (⟨BO2.cell 0, (k2.cell (p := ⟨nb, 0, none⟩) (by show nb < w1.heap.size; have := N.lt; omega) (fun h => absurd hnb1 (Nat.not_lt.2 (hO.arr (h.of_block rfl)).1))).trans y2⟩ : _ ∧ _)
      refine hKq.out _ _ (fun _ _ => hHeld) ?_
      clear hKq Kq
      try simp only [Act.put, List.setIfInBounds_toArray, List.set_cons_zero, List.set_cons_succ, List.getElem_toArray, List.getElem_cons_succ, List.getElem_cons_zero]
      refine wpAnyB_takeW (i := 9) (v := ?_) rfl (by kernel_rfl) (by kernel_rfl) (by kernel_rfl) (fun _ _ _ h => h) (Or.inl ⟨by rfl, ?_⟩) ?_
      rotate_left 1
      · intro w hSw; go_simp <;> with_reducible rfl
      try simp only [Act.put, List.setIfInBounds_toArray, List.set_cons_zero, List.set_cons_succ, List.getElem_toArray, List.getElem_cons_succ, List.getElem_cons_zero]
      have fo := BO2.frozen 0
      have co : w2.cell? ⟨ob, 0, none⟩ = some (.slice av acc.length cv) := BO2.cell 0
      refine wpAnyB_step (i := 10) (by kernel_rfl) rfl (fun Kq hKq => ?_)
      go_simp
      refine hKq.out _ _ (fun h => absurd h (by decide)) ?_
      clear hKq Kq
      try simp only [Act.put, List.setIfInBounds_toArray, List.set_cons_zero, List.set_cons_succ, List.getElem_toArray, List.getElem_cons_succ, List.getElem_cons_zero]
      refine wpAnyB_done (by kernel_rfl) ?_ _
      go_wp2_with fail
      go_ret2
      refine ⟨rfl, .inr ⟨by simp [hz], g, cap, zs, ?_, z4, z5, BG.setOther (p := ⟨ob, 0, none⟩) (fun e => z5 e.symm) _, z1, by rw [List.length_append]; exact z2, by rw [List.length_append]; exact z3⟩, ?_, ?_⟩
      · rw [List.length_append]; exact BO2.set 0 _
      · refine Kept.setCell (S := fun b => b = ob ∨ Arr w ob b) (((Kept.of_below hw1).trans (Kept.refl _ w1).drew).trans ⟨k2.os, k2.tape, k2.output, k2.size, fun b hb hn => k2.block b hb (fun h => hn (.inr (h.of_block (hw1.block _ hob))))⟩) (p := ⟨ob, 0, none⟩) (.inr (.inl rfl)) _
      · rintro b ⟨n', cap', hb⟩
        have := (hb.inj (BO2.set 0 (.slice (some ⟨g, 0, none⟩) (acc.length + ks.length) cap))).1
        simp at this
        obtain ⟨rfl, _⟩ := this
        rcases z6 with h | h
        · exact .inl (h.of_block (hw1.block _ hob))
        · exact .inr (Nat.le_trans hs1 h)
end Go.Proofs.Ybulkbqza
