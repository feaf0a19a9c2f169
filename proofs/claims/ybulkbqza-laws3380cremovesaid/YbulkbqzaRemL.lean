/-
  Seat b3380a. treeNode.remove.
-/
import Derived.Test.YbulkbqzaRem
namespace Go.Proofs.Ybulkbqza
open Go.RowKit
set_option linter.unusedVariables false
set_option maxRecDepth 100000
set_option linter.unusedSimpArgs false

set_option maxHeartbeats 1000000 in
theorem remove_leaf (w : World) (nb : Nat) (ks : List Nat) (n : Nat) (own : List Nat) (v : Nat) (T : Tree 0 33 33 w nb ks n own) (hv : v < 4294967296) (hsum : ks.sum < 18446744073709551616) :
    Calls Yba.prog 25 #[.pointer (some ⟨nb, 0, none⟩), .agg (idc v).toArray, .agg (dgc v).toArray, .func (.func 10) #[] #[]] w fun e w' => e = .returned (.bool (decide (v ∈ ks))) ∧ RemOut 0 w w' nb ks v n own := by
  have T0 := T
  obtain ⟨kb, xs, F⟩ := T
  have en := eql_nil
  have hn := F.hN
  have hle := F.hLe
  have hsort := F.hSorted
  have hnbo : nb ∈ own := by rw [F.hOwn]; simp
  have hkbo : kb ∈ own := by rw [F.hOwn]; simp
  replace hn := Hid.mk' hn
  go_enter Yba.func25, Yba.ntmps25
  have c1 : ∀ o1 o2, ((w.alloc o1).alloc o2).cell? ⟨nb, 1, none⟩ = some (.slice none 0 0) := fun o1 o2 => ((F.hNode.alloc o1).alloc o2).cell 1
  go_wp2_with fail
  have BV : Blk ((w.alloc (.cells (idc v).toArray 30)).alloc (.cells (dgc v).toArray 47)) w.heap.size (idc v) 30 := (Blk.new w _ 30).alloc _
  have BD : Blk ((w.alloc (.cells (idc v).toArray 30)).alloc (.cells (dgc v).toArray 47)) (w.heap.size + 1) (dgc v) 47 := Blk.last _ _ _ (by simp)
  have hb : Below w.heap.size w ((w.alloc (.cells (idc v).toArray 30)).alloc (.cells (dgc v).toArray 47)) := ((Below.refl _ w).alloc (Nat.le_refl _) _).alloc (by simp) _
  generalize (w.alloc (.cells (idc v).toArray 30)).alloc (.cells (dgc v).toArray 47) = wr at *
  clear c1
  have N := F.hNode.below hb
  have KB := F.hKeys.below hb
  have c0 : wr.cell? ⟨nb, 0, none⟩ = some (.slice (some ⟨kb, 0, none⟩) n 33) := N.cell 0
  have hlenk : ks.length = n := hn.out.symm
  have hC : ∀ w1, Below wr.heap.size wr w1 → Calls Yba.prog 11 #[.slice (some ⟨kb, 0, none⟩) n 33, .agg (idc v).toArray, .func (.func 12) #[] #[]] w1 fun e w' => e = .returned (.tuple #[.int .i64 (lo ks v), .bool (decide (v ∈ ks))]) ∧ Below wr.heap.size wr w' := fun w1 h1 => by
    rw [← hlenk]
    exact (bsf_calls (some ⟨kb, 0, none⟩) ks 33 v w1 (.inr ⟨kb, 0, rfl, Nat.lt_of_lt_of_le KB.lt h1.size, by
      have := (KB.below h1).ids 0 (zs := ks) (by rw [List.drop_zero, ← F.hTake]; exact List.take_prefix _ _)
      simpa using this⟩) F.hSmall hv (by omega) hsort).mono fun e w' ⟨he, hw⟩ => ⟨he, h1.trans (hw.mono h1.size)⟩
  replace hlenk := Hid.mk' hlenk
  refine wp_region_held_drew (S := fun w' => w'.cell? ⟨nb, 0, none⟩ = some (.slice (some ⟨kb, 0, none⟩) n 33) ∧ Below wr.heap.size wr w') (by kernel_rfl) (⟨by simpa using c0, (Below.refl _ wr).drew⟩) (fun hHeld => ?_)
  simp only [List.size_toArray, List.length_cons, List.length_nil, Nat.reduceAdd, Array.replicate_succ, Array.replicate_zero, List.push_toArray, List.append_toArray, List.nil_append, List.cons_append]
  refine wpAnyH_take (i := 0) (v := ?_) rfl (by kernel_rfl) (by kernel_rfl) (by kernel_rfl) (fun _ _ _ h => h) (Or.inl ⟨by rfl, ?_⟩) (by assumption) ?_
  rotate_left 1
  · intro w hSw; (try dsimp only at hSw); go_simp <;> with_reducible rfl
  try simp only [Act.put, List.setIfInBounds_toArray, List.set_cons_zero, List.set_cons_succ, List.getElem_toArray, List.getElem_cons_succ, List.getElem_cons_zero]
  refine wpAnyH_take (i := 1) (v := ?_) rfl (by kernel_rfl) (by kernel_rfl) (by kernel_rfl) (fun _ _ _ h => h) (Or.inl ⟨by rfl, ?_⟩) (by assumption) ?_
  rotate_left 1
  · intro w hSw; (try dsimp only at hSw); go_simp <;> with_reducible rfl
  try simp only [Act.put, List.setIfInBounds_toArray, List.set_cons_zero, List.set_cons_succ, List.getElem_toArray, List.getElem_cons_succ, List.getElem_cons_zero]
  refine wpAnyH_take (i := 2) (v := ?_) rfl (by kernel_rfl) (by kernel_rfl) (by kernel_rfl) (fun _ _ _ h => h) (Or.inl ⟨by rfl, ?_⟩) (by assumption) ?_
  rotate_left 1
  · intro w hSw; (try dsimp only at hSw); go_simp <;> with_reducible rfl
  try simp only [Act.put, List.setIfInBounds_toArray, List.set_cons_zero, List.set_cons_succ, List.getElem_toArray, List.getElem_cons_succ, List.getElem_cons_zero]
  refine wpAnyH_take (i := 3) (v := ?_) rfl (by kernel_rfl) (by kernel_rfl) (by kernel_rfl) (fun _ _ _ h => h) (Or.inl ⟨by rfl, ?_⟩) (by assumption) ?_
  rotate_left 1
  · intro w hSw; (try dsimp only at hSw); obtain ⟨q1, q2⟩ := hSw; go_simp <;> with_reducible rfl
  try simp only [Act.put, List.setIfInBounds_toArray, List.set_cons_zero, List.set_cons_succ, List.getElem_toArray, List.getElem_cons_succ, List.getElem_cons_zero]
  refine wpAnyH_take (i := 4) rfl (by kernel_rfl) (by kernel_rfl) (by kernel_rfl) (fun _ _ _ h => h) (yieldsIf_load_mid (by rfl) _ _ rfl _ _ rfl (idc v) _ (fun w hSw => rangeAt_of_block BV.id (hSw.2.block _ BV.lt)) Yba.underlying30 rfl (by rw [idc_length]; exact info30)) (by assumption) ?_
  try simp only [Act.put, List.setIfInBounds_toArray, List.set_cons_zero, List.set_cons_succ, List.getElem_toArray, List.getElem_cons_succ, List.getElem_cons_zero]
  refine wpAnyH_ready (rs := [5]) (by kernel_rfl) (by simp) ?_
  refine AllReadyH.cons rfl (fun Kq hKq => ?_) AllReadyH.nil
  go_simp
  refine (hC _ hHeld.2).mono ?_
  rintro e w' ⟨rfl, hw'⟩
  dsimp only
  refine hKq.out _ _ (⟨(hw'.cell (p := ⟨nb, 0, none⟩) N.lt).trans c0, hw'⟩) (fun hHeld => ?_)
  clear hKq Kq
  try simp only [Act.put, List.setIfInBounds_toArray, List.set_cons_zero, List.set_cons_succ, List.getElem_toArray, List.getElem_cons_succ, List.getElem_cons_zero]
  refine wpAnyH_take (i := 6) (v := ?_) rfl (by kernel_rfl) (by kernel_rfl) (by kernel_rfl) (fun _ _ _ h => h) (Or.inl ⟨by rfl, ?_⟩) (by assumption) ?_
  rotate_left 1
  · intro w hSw; (try dsimp only at hSw); go_simp <;> with_reducible rfl
  try simp only [Act.put, List.setIfInBounds_toArray, List.set_cons_zero, List.set_cons_succ, List.getElem_toArray, List.getElem_cons_succ, List.getElem_cons_zero]
  refine wpAnyH_take (i := 7) (v := ?_) rfl (by kernel_rfl) (by kernel_rfl) (by kernel_rfl) (fun _ _ _ h => h) (Or.inl ⟨by rfl, ?_⟩) (by assumption) ?_
  rotate_left 1
  · intro w hSw; (try dsimp only at hSw); go_simp <;> with_reducible rfl
  try simp only [Act.put, List.setIfInBounds_toArray, List.set_cons_zero, List.set_cons_succ, List.getElem_toArray, List.getElem_cons_succ, List.getElem_cons_zero]
  refine wpAnyH_take (i := 8) (v := ?_) rfl (by kernel_rfl) (by kernel_rfl) (by kernel_rfl) (fun _ _ _ h => h) (Or.inl ⟨by rfl, ?_⟩) (by assumption) ?_
  rotate_left 1
  · intro w hSw; (try dsimp only at hSw); go_simp <;> with_reducible rfl
  try simp only [Act.put, List.setIfInBounds_toArray, List.set_cons_zero, List.set_cons_succ, List.getElem_toArray, List.getElem_cons_succ, List.getElem_cons_zero]
  refine wpAnyH_take (i := 9) (v := ?_) rfl (by kernel_rfl) (by kernel_rfl) (by kernel_rfl) (fun _ _ _ h => h) (Or.inl ⟨by rfl, ?_⟩) (by assumption) ?_
  rotate_left 1
  · intro w hSw; (try dsimp only at hSw); go_simp <;> with_reducible rfl
  try simp only [Act.put, List.setIfInBounds_toArray, List.set_cons_zero, List.set_cons_succ, List.getElem_toArray, List.getElem_cons_succ, List.getElem_cons_zero]
  refine wpAnyH_take (i := 10) (v := ?_) rfl (by kernel_rfl) (by kernel_rfl) (by kernel_rfl) (fun _ _ _ h => h) (Or.inl ⟨by rfl, ?_⟩) (by assumption) ?_
  rotate_left 1
  · intro w hSw; (try dsimp only at hSw); go_simp <;> with_reducible rfl
  try simp only [Act.put, List.setIfInBounds_toArray, List.set_cons_zero, List.set_cons_succ, List.getElem_toArray, List.getElem_cons_succ, List.getElem_cons_zero]
  refine wpAnyH_done (by kernel_rfl) ?_ _
  have hbr : Below w.heap.size w w' := hb.trans (hw'.mono hb.size)
  clear hC hHeld c0
  by_cases hm : v ∈ ks
  · obtain ⟨f1, f2, f3, f4⟩ := erase_facts hsort hm
    have hm' : decide (v ∈ ks) = true := decide_eq_true hm
    rw [hm']
    replace N := N.below hw'
    replace KB := KB.below hw'
    replace BD := BD.below hw'
    clear BV hw' hb
    obtain ⟨i, hi⟩ : ∃ i, i = lo ks v := ⟨_, rfl⟩
    rw [← hi]
    have hin : i < n := by rw [hi, ← hlenk.out]; exact f4
    have hD := del_calls kb n 33 i xs w' KB (by rw [F.hXs]; omega) F.hXs.symm hin (by rw [F.hXs]; omega)
    have hlt : Hid ((xs.take n).eraseIdx i = ks.erase v) := by show _ = _; rw [F.hTake, hi, f1]
    have hne : kb ≠ nb := fun e => F.hNe e.symm
    have hsle : v ≤ ks.sum := by omega
    have hA := fun w => sub_calls ks.sum v hsle hsum w
    have x0 : w'.cell? ⟨nb, 0, none⟩ = some (.slice (some ⟨kb, 0, none⟩) n 33) := N.cell 0
    have hin2 : (i : Int) < 1000 := by omega
    replace hi := Hid.mk' hi
    replace hne := Hid.mk' hne
    replace f1 := Hid.mk' f1
    replace f2 := Hid.mk' f2
    replace f3 := Hid.mk' f3
    obtain ⟨c, hc⟩ : ∃ c, Hid (ks.length = c) := ⟨_, rfl⟩
    obtain ⟨s, hs⟩ : ∃ s, Hid (ks.sum = s) := ⟨_, rfl⟩
    rw [hc.out, hs.out] at N
    rw [hs.out] at hA
    have hcpos : 0 < c := by rw [← hc.out, hlenk.out]; omega
    have hc32 : c ≤ 33 := by rw [← hc.out, hlenk.out]; omega
    have hwc : IntKind.i64.wrap ((c : Int) - 1) = (c : Int) - 1 := by rw [IntKind.wrap_i64]; omega
    have hnb1 : nb ≠ w.heap.size + 1 := by have := F.hNode.lt; omega
    go_wp2_with (first
      | (go_at_call 14; refine hD.mono ?_; rintro e X1 ⟨rfl, KB1, k1⟩; have N1 := N.kept k1 (fun e => hne.out e.symm); have x1 : X1.cell? ⟨nb, 0, none⟩ = some (.slice (some ⟨kb, 0, none⟩) n 33) := N1.cell 0; have g1 := N1.frozen 0; have N2 := N1.setKeys (.slice (some ⟨kb, 0, none⟩) (n - 1) 33); have x2 : (X1.setCell ⟨nb, 0, none⟩ (.slice (some ⟨kb, 0, none⟩) (n - 1) 33)).cell? ⟨nb, 2, none⟩ = some (.int .i64 (c : Nat)) := N2.cell 2; have g2 := N2.frozen 2))
    have hcc : (c : Int) - 1 = ((c - 1 : Nat) : Int) := by omega
    rw [hcc]
    clear hcc
    have N3 := N2.setCount (c - 1)
    have kA := kept_set (nb := nb) (kept_set (nb := nb) (Kept.refl _ X1) 0 (.slice (some ⟨kb, 0, none⟩) (n - 1) 33)) 2 (.int .i64 ((c - 1 : Nat) : Int))
    generalize (X1.setCell ⟨nb, 0, none⟩ (.slice (some ⟨kb, 0, none⟩) (n - 1) 33)).setCell ⟨nb, 2, none⟩ (.int .i64 ((c - 1 : Nat) : Int)) = X2 at *
    have KB2 := KB1.kept kA hne.out
    have hkbs := F.hKeys.lt
    have BD2 := (BD.kept k1 (by omega)).kept kA (fun e => hnb1 e.symm)
    replace N := N3
    replace BD := BD2
    obtain ⟨bD, hbD⟩ : ∃ bD, bD = w.heap.size + 1 := ⟨_, rfl⟩
    rw [← hbD] at BD ⊢
    clear hD x0 x1 g1 N1 N2 x2 g2 hwc
    refine wp_region_B (fun w' => Below X2.heap.size X2 w') (fun j => j != 9) (by kernel_rfl) ((Below.refl _ X2).drew) (fun hHeld => ?_)
    simp only [List.size_toArray, List.length_cons, List.length_nil, Nat.reduceAdd, Array.replicate_succ, Array.replicate_zero, List.push_toArray, List.append_toArray, List.nil_append, List.cons_append]
    refine wpAnyB_takeW (i := 0) (v := ?_) rfl (by kernel_rfl) (by kernel_rfl) (by kernel_rfl) (fun _ _ _ h => h) (Or.inl ⟨by rfl, ?_⟩) ?_
    rotate_left 1
    · intro w hSw; go_simp <;> with_reducible rfl
    try simp only [Act.put, List.setIfInBounds_toArray, List.set_cons_zero, List.set_cons_succ, List.getElem_toArray, List.getElem_cons_succ, List.getElem_cons_zero]
    refine wpAnyB_takeW (i := 1) (v := ?_) rfl (by kernel_rfl) (by kernel_rfl) (by kernel_rfl) (fun _ _ _ h => h) (Or.inl ⟨by rfl, ?_⟩) ?_
    rotate_left 1
    · intro w hSw; go_simp <;> with_reducible rfl
    try simp only [Act.put, List.setIfInBounds_toArray, List.set_cons_zero, List.set_cons_succ, List.getElem_toArray, List.getElem_cons_succ, List.getElem_cons_zero]
    refine wpAnyB_takeW (i := 2) (v := ?_) rfl (by kernel_rfl) (by kernel_rfl) (by kernel_rfl) (fun _ _ _ h => h) (Or.inl ⟨by rfl, ?_⟩) ?_
    rotate_left 1
    · intro w hSw; go_simp <;> with_reducible rfl
    try simp only [Act.put, List.setIfInBounds_toArray, List.set_cons_zero, List.set_cons_succ, List.getElem_toArray, List.getElem_cons_succ, List.getElem_cons_zero]
    refine wpAnyB_takeW (i := 3) (v := ?_) rfl (by kernel_rfl) (by kernel_rfl) (by kernel_rfl) (fun _ _ _ h => h) (Or.inl ⟨by rfl, ?_⟩) ?_
    rotate_left 1
    · intro w hSw; go_simp <;> with_reducible rfl
    try simp only [Act.put, List.setIfInBounds_toArray, List.set_cons_zero, List.set_cons_succ, List.getElem_toArray, List.getElem_cons_succ, List.getElem_cons_zero]
    refine wpAnyB_load47 (i := 4) rfl (by kernel_rfl) (by kernel_rfl) (by kernel_rfl) (by kernel_rfl) (nb) (3) (s) (.tmp 88) rfl rfl (fun _ _ _ h => h) (by rfl) (fun w hSw => rangeAt_of_block N.digR (hSw.block _ N.lt)) hHeld ?_
    try simp only [Act.put, List.setIfInBounds_toArray, List.set_cons_zero, List.set_cons_succ, List.getElem_toArray, List.getElem_cons_succ, List.getElem_cons_zero]
    refine wpAnyB_load47 (i := 5) rfl (by kernel_rfl) (by kernel_rfl) (by kernel_rfl) (by kernel_rfl) (bD) (0) (v) (.tmp 6) rfl rfl (fun _ _ _ h => h) (by rfl) (fun w hSw => rangeAt_of_block BD.dg (hSw.block _ BD.lt)) hHeld ?_
    try simp only [Act.put, List.setIfInBounds_toArray, List.set_cons_zero, List.set_cons_succ, List.getElem_toArray, List.getElem_cons_succ, List.getElem_cons_zero]
    refine wpAnyB_step (i := 6) (by kernel_rfl) rfl (fun Kq hKq => ?_)
    go_simp
    refine (hA _).mono ?_
    rintro e w7 ⟨rfl, hw7⟩
    dsimp only
    have hb7 : Below X2.heap.size X2 w7 := hHeld.trans (hw7.mono hHeld.size)
    have hHeld := hb7
    refine hKq.out _ _ (fun _ _ => hHeld) ?_
    clear hKq Kq
    try simp only [Act.put, List.setIfInBounds_toArray, List.set_cons_zero, List.set_cons_succ, List.getElem_toArray, List.getElem_cons_succ, List.getElem_cons_zero]
    refine wpAnyB_takeW (i := 7) (v := ?_) rfl (by kernel_rfl) (by kernel_rfl) (by kernel_rfl) (fun _ _ _ h => h) (Or.inl ⟨by rfl, ?_⟩) ?_
    rotate_left 1
    · intro w hSw; go_simp <;> with_reducible rfl
    try simp only [Act.put, List.setIfInBounds_toArray, List.set_cons_zero, List.set_cons_succ, List.getElem_toArray, List.getElem_cons_succ, List.getElem_cons_zero]
    refine wpAnyB_takeW (i := 8) (v := ?_) rfl (by kernel_rfl) (by kernel_rfl) (by kernel_rfl) (fun _ _ _ h => h) (Or.inl ⟨by rfl, ?_⟩) ?_
    rotate_left 1
    · intro w hSw; go_simp <;> with_reducible rfl
    try simp only [Act.put, List.setIfInBounds_toArray, List.set_cons_zero, List.set_cons_succ, List.getElem_toArray, List.getElem_cons_succ, List.getElem_cons_zero]
    have N7 := N.below hb7
    have T7 := N7.digT
    refine wpAnyB_step (i := 9) (by kernel_rfl) rfl (fun Kq hKq => ?_)
    refine step_st47 rfl rfl (.tmp 93) (.tmp 91) rfl nb 3 (s - v) rfl rfl T7 ?_
    refine hKq.out _ _ (fun h => absurd h (by decide)) ?_
    clear hKq Kq
    try simp only [Act.put, List.setIfInBounds_toArray, List.set_cons_zero, List.set_cons_succ, List.getElem_toArray, List.getElem_cons_succ, List.getElem_cons_zero]
    refine wpAnyB_done (by kernel_rfl) ?_ _
    have N8 := N7.setDig (s - v)
    have k8 : Kept (· = nb) X2 (w7.setCells nb 3 (dgc (s - v))) := kept_sets (Kept.of_below hb7) _ _
    generalize w7.setCells nb 3 (dgc (s - v)) = X at *
    clear hHeld hb7 hw7 N7 T7
    go_wp2_with fail
    go_ret
    have hk1 : Kept (· ∈ own) w X := ((Kept.of_below hbr).trans (k1.mono (fun b _ h => by subst h; exact hkbo))).trans ((kA.trans k8).mono (fun b _ h => by subst h; exact hnbo))
    refine ⟨by rw [hm']; rfl, n - 1, own, ⟨kb, _, ⟨F.hOwn, F.hNe, ?_, ?_, ?_, by omega, ?_, KB2.kept k8 hne.out, hsort.sublist List.erase_sublist, fun x hx => F.hSmall x (List.mem_of_mem_erase hx)⟩⟩, by omega, by omega, fun x hx => .inl hx, hk1, fun h => absurd hm h⟩
    · have := f2.out; have := hn.out; omega
    · rw [List.length_append, List.length_eraseIdx, List.length_cons, List.length_drop, List.length_take, F.hXs]; split <;> omega
    · rw [hlt.out, List.take_append_of_le_length (by have := f2.out; have := hn.out; omega), List.take_of_length_le (by have := f2.out; have := hn.out; omega)]
    · have e1 : c - 1 = (ks.erase v).length := by have := f2.out; have := hc.out; omega
      have e2 : s - v = (ks.erase v).sum := by have := f3.out; have := hs.out; omega
      rw [← e1, ← e2]
      exact N8
  · have hm' : decide (v ∈ ks) = false := decide_eq_false hm
    rw [hm']
    go_wp2_with fail
    go_ret
    exact ⟨by rw [hm']; rfl, n, own, by rw [List.erase_of_not_mem hm]; exact T0.below hbr, Nat.le_refl _, Nat.le_succ _, fun x hx => .inl hx, Kept.of_below hbr, fun _ => hbr⟩
end Go.Proofs.Ybulkbqza
