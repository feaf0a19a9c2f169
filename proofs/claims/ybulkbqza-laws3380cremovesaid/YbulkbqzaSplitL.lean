/-
  Seat b3380a. treeNode.split at a leaf.
-/
import Derived.Test.YbulkbqzaStep
namespace Go.Proofs.Ybulkbqza
open Go.RowKit
set_option linter.unusedVariables false
set_option maxRecDepth 100000
set_option linter.unusedSimpArgs false

theorem ids_sub_take {w : World} {kb : Nat} {xs : List Nat} (B : Blk w kb (ids xs) 30) (n h : Nat) : Ids w kb (h * 20) ((xs.take n).drop h) := B.ids h (by
  rw [List.drop_take]
  exact List.take_prefix _ _)

theorem kept_set {nb : Nat} {a w : World} (h : Kept (· = nb) a w) (o : Nat) (v : Value) : Kept (· = nb) a (w.setCell ⟨nb, o, none⟩ v) := Kept.setCell (S := (· = nb)) h (p := ⟨nb, o, none⟩) (.inr rfl) v
theorem kept_sets {nb : Nat} {a w : World} (h : Kept (· = nb) a w) (o : Nat) (vs : List Value) : Kept (· = nb) a (w.setCells nb o vs) := Kept.setCells (S := (· = nb)) h (.inr rfl) o vs

set_option maxHeartbeats 1000000 in
theorem split_leaf (K : Nat) (w : World) (nb : Nat) (ks : List Nat) (n : Nat) (own : List Nat) (kb : Nat) (xs : List Nat) (F : Leaf K w nb ks n own kb xs) (hn : 33 ≤ n) (hn2 : n ≤ 64) (hsum : ks.sum < 18446744073709551616) :
    Calls Yba.prog 52 #[.pointer (some ⟨nb, 0, none⟩), .func (.func 10) #[] #[]] w fun e w' => ∃ nb2 own2 kb3 xs3, e = .returned (ptr nb2) ∧ Leaf 33 w' nb (ks.take (n / 2)) (n / 2) [nb, kb3] kb3 xs3 ∧ w.heap.size ≤ kb3 ∧
      Tree 0 33 33 w' nb2 (ks.drop (n / 2)) (n - n / 2) own2 ∧ (∀ x ∈ own2, w.heap.size ≤ x) ∧ kb3 ∉ own2 ∧ Kept (· = nb) w w' := by
  have en := neq_nil
  have N0 := F.hNode
  have hkl := F.hN
  have hle := F.hLe
  have hxs := F.hXs
  have g1 : w.cell? ⟨nb, 0, none⟩ = some (.slice (some ⟨kb, 0, none⟩) n K) := N0.cell 0
  have g2 : w.cell? ⟨nb, 1, none⟩ = some (.slice none 0 0) := N0.cell 1
  have g3 : ¬ (n : Int) ≤ 32 := by omega
  obtain ⟨h, hh⟩ : ∃ h, h = n / 2 := ⟨_, rfl⟩
  have hd : (n : Int) / 2 = (h : Int) := by omega
  have k1 : (h : Int) ≤ n := by omega
  have k2 : ¬ K = h := by omega
  have k3 : (h : Int) ≤ K := by omega
  have hlen : (ks.drop h).length = n - h := by rw [List.length_drop]; omega
  have hC : Calls Yba.prog 22 #[.slice (some ⟨kb, h * 20, none⟩) (n - h) (K - h), .slice none 0 0, .func (.func 10) #[] #[]] w fun e w' => ∃ nb2 own2, e = .returned (ptr nb2) ∧ Tree 0 33 33 w' nb2 (ks.drop h) (ks.drop h).length own2 ∧ (∀ x ∈ own2, w.heap.size ≤ x) ∧ Below w.heap.size w w' := by
    rw [← hlen]
    refine nodeOf_leaf kb (h * 20) (K - h) (ks.drop h) w F.hKeys.lt ?_ (by omega) (fun x hx => F.hSmall x (List.mem_of_mem_drop hx)) (F.hSorted.sublist (List.drop_sublist _ _)) ?_
    · rw [← F.hTake]
      exact ids_sub_take F.hKeys n h
    · have : (ks.take h).sum + (ks.drop h).sum = ks.sum := by rw [← List.sum_append, List.take_append_drop]
      omega
  replace hkl := Hid.mk' hkl
  replace hh := Hid.mk' hh
  replace hxs := Hid.mk' hxs
  replace hlen := Hid.mk' hlen
  go_enter Yba.func52, Yba.ntmps52
  go_wp2_with (go_at_call 22; refine hC.mono ?_; rintro e W ⟨nb2, own2, rfl, T2, hnew, hbW⟩; unfold ptr)
  rw [hlen.out] at T2
  have N := N0.below hbW
  have B := F.hKeys.below hbW
  have c0 : W.cell? ⟨nb, 0, none⟩ = some (.slice (some ⟨kb, 0, none⟩) n K) := N.cell 0
  obtain ⟨hnb2, kb2, q2, xs2, hkb2, M2, MK2, _, _⟩ := T2.node
  have hlt2 := T2.lt
  have hnbw : nb < w.heap.size := N0.lt
  have hkbw : kb < w.heap.size := F.hKeys.lt
  have hnb2w := hnew _ hnb2
  have hkb2w := hnew _ hkb2
  have hWs := hbW.size
  have hxs' := hxs.out
  refine wp_region_B (fun w' => w'.cell? ⟨nb, 0, none⟩ = some (.slice (some ⟨kb, 0, none⟩) n K) ∧ Below W.heap.size W w') (fun j => j != 11) (by kernel_rfl) (⟨by simpa using c0, (Below.refl _ W).drew⟩) (fun hHeld => ?_)
  simp only [List.size_toArray, List.length_cons, List.length_nil, Nat.reduceAdd, Array.replicate_succ, Array.replicate_zero, List.push_toArray, List.append_toArray, List.nil_append, List.cons_append]
  refine wpAnyB_takeW (i := 0) (v := ?_) rfl (by kernel_rfl) (by kernel_rfl) (by kernel_rfl) (fun _ _ _ h => h) (Or.inl ⟨by rfl, ?_⟩) ?_
  rotate_left 1
  · intro w hSw; go_simp <;> with_reducible rfl
  try simp only [Act.put, List.setIfInBounds_toArray, List.set_cons_zero, List.set_cons_succ, List.getElem_toArray, List.getElem_cons_succ, List.getElem_cons_zero]
  refine wpAnyB_takeW (i := 2) (v := ?_) rfl (by kernel_rfl) (by kernel_rfl) (by kernel_rfl) (fun _ _ _ h => h) (Or.inl ⟨by rfl, ?_⟩) ?_
  rotate_left 1
  · intro w hSw; go_simp <;> with_reducible rfl
  try simp only [Act.put, List.setIfInBounds_toArray, List.set_cons_zero, List.set_cons_succ, List.getElem_toArray, List.getElem_cons_succ, List.getElem_cons_zero]
  refine wpAnyB_takeW (i := 3) (v := ?_) rfl (by kernel_rfl) (by kernel_rfl) (by kernel_rfl) (fun _ _ _ h => h) (Or.inl ⟨by rfl, ?_⟩) ?_
  rotate_left 1
  · intro w hSw; go_simp <;> with_reducible rfl
  try simp only [Act.put, List.setIfInBounds_toArray, List.set_cons_zero, List.set_cons_succ, List.getElem_toArray, List.getElem_cons_succ, List.getElem_cons_zero]
  refine wpAnyB_takeW (i := 4) (v := ?_) rfl (by kernel_rfl) (by kernel_rfl) (by kernel_rfl) (fun _ _ _ h => h) (Or.inl ⟨by rfl, ?_⟩) ?_
  rotate_left 1
  · intro w hSw; go_simp <;> with_reducible rfl
  try simp only [Act.put, List.setIfInBounds_toArray, List.set_cons_zero, List.set_cons_succ, List.getElem_toArray, List.getElem_cons_succ, List.getElem_cons_zero]
  refine wpAnyB_take (i := 5) (v := ?_) rfl (by kernel_rfl) (by kernel_rfl) (by kernel_rfl) (by kernel_rfl) (fun _ _ _ h => h) (Or.inl ⟨by rfl, ?_⟩) hHeld ?_
  rotate_left 1
  · intro w hSw; (try dsimp only at hSw); obtain ⟨q1, q2⟩ := hSw; go_simp <;> with_reducible rfl
  try simp only [Act.put, List.setIfInBounds_toArray, List.set_cons_zero, List.set_cons_succ, List.getElem_toArray, List.getElem_cons_succ, List.getElem_cons_zero]
  refine wpAnyB_takeW (i := 6) (v := ?_) rfl (by kernel_rfl) (by kernel_rfl) (by kernel_rfl) (fun _ _ _ h => h) (Or.inl ⟨by rfl, ?_⟩) ?_
  rotate_left 1
  · intro w hSw; go_simp <;> with_reducible rfl
  try simp only [Act.put, List.setIfInBounds_toArray, List.set_cons_zero, List.set_cons_succ, List.getElem_toArray, List.getElem_cons_succ, List.getElem_cons_zero]
  refine wpAnyB_takeW (i := 7) (v := ?_) rfl (by kernel_rfl) (by kernel_rfl) (by kernel_rfl) (fun _ _ _ h => h) (Or.inl ⟨by rfl, ?_⟩) ?_
  rotate_left 1
  · intro w hSw; go_simp <;> with_reducible rfl
  try simp only [Act.put, List.setIfInBounds_toArray, List.set_cons_zero, List.set_cons_succ, List.getElem_toArray, List.getElem_cons_succ, List.getElem_cons_zero]
  refine wpAnyB_step (i := 1) (by kernel_rfl) rfl (fun Kq hKq => ?_)
  refine step_mk30 rfl _ _ rfl .i64 .i64 0 33 rfl rfl (by decide) (by decide) W.heap.size rfl ?_
  intro W1 BK b1 s1
  replace b1 : Below W.heap.size W W1 := (Below.refl _ W).drew.trans b1
  have hHeld := (⟨(b1.cell (p := ⟨nb, 0, none⟩) N.lt).trans c0, b1⟩ : _ ∧ _)
  refine hKq.out _ _ (fun _ _ => hHeld) ?_
  clear hKq Kq
  try simp only [Act.put, List.setIfInBounds_toArray, List.set_cons_zero, List.set_cons_succ, List.getElem_toArray, List.getElem_cons_succ, List.getElem_cons_zero]
  have hc1 : ∀ j u, (ids (xs.take h))[j]? = some u → W1.cell? ((⟨kb, 0, none⟩ : Addr).add j) = some u := fun j u hu => by
    rw [Addr.add_mid]
    exact (B.below b1).sub (k := 0) (zs := xs.take h) (List.take_prefix _ _) j u hu
  refine wpAnyB_step (i := 8) (by kernel_rfl) rfl (fun Kq hKq => ?_)
  refine step_app30 rfl (.tmp 52) (.tmp 58) rfl W.heap.size 0 33 rfl ⟨kb, 0, none⟩ h K (List.replicate 33 0) (xs.take h) BK rfl (by rw [List.length_take]; omega) hc1 (by omega) (by simp) ?_
  intro W2 BK2 k2
  rw [List.take_zero, List.nil_append, List.drop_replicate, Nat.zero_add] at BK2
  have hHeld := (⟨(k2.cell (p := ⟨nb, 0, none⟩) (Nat.lt_of_lt_of_le N.lt b1.size) (by have := N.lt; simp; omega)).trans ((b1.cell (p := ⟨nb, 0, none⟩) N.lt).trans c0), k2.below b1.size (fun k hk => by omega) |> b1.trans⟩ : _ ∧ _)
  refine hKq.out _ _ (fun _ _ => hHeld) ?_
  clear hKq Kq
  try simp only [Act.put, List.setIfInBounds_toArray, List.set_cons_zero, List.set_cons_succ, List.getElem_toArray, List.getElem_cons_succ, List.getElem_cons_zero]
  refine wpAnyB_takeW (i := 9) (v := ?_) rfl (by kernel_rfl) (by kernel_rfl) (by kernel_rfl) (fun _ _ _ h => h) (Or.inl ⟨by rfl, ?_⟩) ?_
  rotate_left 1
  · intro w hSw; go_simp <;> with_reducible rfl
  try simp only [Act.put, List.setIfInBounds_toArray, List.set_cons_zero, List.set_cons_succ, List.getElem_toArray, List.getElem_cons_succ, List.getElem_cons_zero]
  refine wpAnyB_takeW (i := 10) (v := ?_) rfl (by kernel_rfl) (by kernel_rfl) (by kernel_rfl) (fun _ _ _ h => h) (Or.inl ⟨by rfl, ?_⟩) ?_
  rotate_left 1
  · intro w hSw; go_simp <;> with_reducible rfl
  try simp only [Act.put, List.setIfInBounds_toArray, List.set_cons_zero, List.set_cons_succ, List.getElem_toArray, List.getElem_cons_succ, List.getElem_cons_zero]
  have N2 := N.below hHeld.2
  have c2 : W2.cell? ⟨nb, 0, none⟩ = some (.slice (some ⟨kb, 0, none⟩) n K) := N2.cell 0
  have f2 := N2.frozen 0
  refine wpAnyB_step (i := 11) (by kernel_rfl) rfl (fun Kq hKq => ?_)
  go_simp
  refine hKq.out _ _ (fun h => absurd h (by decide)) ?_
  clear hKq Kq
  try simp only [Act.put, List.setIfInBounds_toArray, List.set_cons_zero, List.set_cons_succ, List.getElem_toArray, List.getElem_cons_succ, List.getElem_cons_zero]
  refine wpAnyB_done (by kernel_rfl) ?_ _
  have N3 := N2.setKeys (.slice (some ⟨W.heap.size, 0, none⟩) (0 + h) 33)
  rw [Nat.zero_add] at N3
  generalize hc0 : W2.setCell ⟨nb, 0, none⟩ (.slice (some ⟨W.heap.size, 0, none⟩) h 33) = V at *
  have kV : Kept (· = nb) w V := by
    rw [← hc0]
    exact kept_set ((Kept.of_below hbW).trans (Kept.of_below hHeld.2)) _ _
  have BK3 : Blk V W.heap.size (ids (xs.take h ++ List.replicate (33 - h) 0)) 30 := by rw [← hc0]; exact BK2.setOther (p := ⟨nb, 0, none⟩) (by simp; omega) _
  have kW : Kept (· = nb) W V := by
    rw [← hc0]
    exact kept_set (Kept.of_below hHeld.2) _ _
  have T3 : Tree 0 33 33 V nb2 (ks.drop h) (n - h) own2 := T2.kept kW (fun b hb e => by have := hnew b hb; omega)
  have M3 := M2.kept kW (by omega)
  clear hHeld BK BK2 k2 hc1 b1 s1 N2 c2 f2 N B c0 hC en hc0
  have hks : ks.length - (ks.drop h).length = (ks.take h).length ∧ (ks.drop h).length ≤ ks.length := by rw [List.length_drop, List.length_take]; omega
  have hss : (ks.take h).sum + (ks.drop h).sum = ks.sum := by rw [← List.sum_append, List.take_append_drop]
  have hs1 : (ks.drop h).sum ≤ ks.sum := by omega
  have hA := fun w => sub_calls ks.sum (ks.drop h).sum hs1 hsum w
  have d1 : V.cell? ⟨nb, 2, none⟩ = some (.int .i64 (ks.length : Nat)) := N3.cell 2
  have d2 : V.cell? ⟨nb2, 2, none⟩ = some (.int .i64 ((ks.drop h).length : Nat)) := M3.cell 2
  have hcc := hks.2
  have hksl : ks.length < 1000 := by have := hkl.out; omega
  replace hks : Hid (ks.length - (ks.drop h).length = (ks.take h).length) := hks.1
  replace hss := Hid.mk' hss
  have hsz : Kept (· = nb) w V := kV
  generalize hgc : ks.length = c at *
  generalize hgs : ks.sum = s at *
  generalize hgc2 : (ks.drop h).length = c2 at *
  generalize hgs2 : (ks.drop h).sum = s2 at *
  have hwrap : IntKind.i64.wrap ((c : Int) - (c2 : Int)) = (c : Int) - (c2 : Int) := by rw [IntKind.wrap_i64]; omega
  have N := N3
  have N2 := M3
  go_wp2_with fail
  refine wp_region_B (fun w' => w'.cell? ⟨nb, 2, none⟩ = some (.int .i64 (c : Nat)) ∧ w'.cell? ⟨nb2, 2, none⟩ = some (.int .i64 (c2 : Nat)) ∧ Below V.heap.size V w') (fun j => j != 22 && j != 25) (by kernel_rfl) (⟨by simpa using d1, by simpa using d2, (Below.refl _ V).drew⟩) (fun hHeld => ?_)
  simp only [List.size_toArray, List.length_cons, List.length_nil, Nat.reduceAdd, Array.replicate_succ, Array.replicate_zero, List.push_toArray, List.append_toArray, List.nil_append, List.cons_append]
  refine wpAnyB_takeW (i := 0) (v := ?_) rfl (by kernel_rfl) (by kernel_rfl) (by kernel_rfl) (fun _ _ _ h => h) (Or.inl ⟨by rfl, ?_⟩) ?_
  rotate_left 1
  · intro w hSw; go_simp <;> with_reducible rfl
  try simp only [Act.put, List.setIfInBounds_toArray, List.set_cons_zero, List.set_cons_succ, List.getElem_toArray, List.getElem_cons_succ, List.getElem_cons_zero]
  refine wpAnyB_takeW (i := 1) (v := ?_) rfl (by kernel_rfl) (by kernel_rfl) (by kernel_rfl) (fun _ _ _ h => h) (Or.inl ⟨by rfl, ?_⟩) ?_
  rotate_left 1
  · intro w hSw; go_simp <;> with_reducible rfl
  try simp only [Act.put, List.setIfInBounds_toArray, List.set_cons_zero, List.set_cons_succ, List.getElem_toArray, List.getElem_cons_succ, List.getElem_cons_zero]
  refine wpAnyB_takeW (i := 2) (v := ?_) rfl (by kernel_rfl) (by kernel_rfl) (by kernel_rfl) (fun _ _ _ h => h) (Or.inl ⟨by rfl, ?_⟩) ?_
  rotate_left 1
  · intro w hSw; go_simp <;> with_reducible rfl
  try simp only [Act.put, List.setIfInBounds_toArray, List.set_cons_zero, List.set_cons_succ, List.getElem_toArray, List.getElem_cons_succ, List.getElem_cons_zero]
  refine wpAnyB_takeW (i := 3) (v := ?_) rfl (by kernel_rfl) (by kernel_rfl) (by kernel_rfl) (fun _ _ _ h => h) (Or.inl ⟨by rfl, ?_⟩) ?_
  rotate_left 1
  · intro w hSw; go_simp <;> with_reducible rfl
  try simp only [Act.put, List.setIfInBounds_toArray, List.set_cons_zero, List.set_cons_succ, List.getElem_toArray, List.getElem_cons_succ, List.getElem_cons_zero]
  refine wpAnyB_takeW (i := 4) (v := ?_) rfl (by kernel_rfl) (by kernel_rfl) (by kernel_rfl) (fun _ _ _ h => h) (Or.inl ⟨by rfl, ?_⟩) ?_
  rotate_left 1
  · intro w hSw; go_simp <;> with_reducible rfl
  try simp only [Act.put, List.setIfInBounds_toArray, List.set_cons_zero, List.set_cons_succ, List.getElem_toArray, List.getElem_cons_succ, List.getElem_cons_zero]
  refine wpAnyB_take (i := 5) (v := ?_) rfl (by kernel_rfl) (by kernel_rfl) (by kernel_rfl) (by kernel_rfl) (fun _ _ _ h => h) (Or.inl ⟨by rfl, ?_⟩) hHeld ?_
  rotate_left 1
  · intro w hSw; (try dsimp only at hSw); obtain ⟨q1, q2, q3⟩ := hSw; go_simp <;> with_reducible rfl
  try simp only [Act.put, List.setIfInBounds_toArray, List.set_cons_zero, List.set_cons_succ, List.getElem_toArray, List.getElem_cons_succ, List.getElem_cons_zero]
  refine wpAnyB_takeW (i := 6) (v := ?_) rfl (by kernel_rfl) (by kernel_rfl) (by kernel_rfl) (fun _ _ _ h => h) (Or.inl ⟨by rfl, ?_⟩) ?_
  rotate_left 1
  · intro w hSw; go_simp <;> with_reducible rfl
  try simp only [Act.put, List.setIfInBounds_toArray, List.set_cons_zero, List.set_cons_succ, List.getElem_toArray, List.getElem_cons_succ, List.getElem_cons_zero]
  refine wpAnyB_takeW (i := 7) (v := ?_) rfl (by kernel_rfl) (by kernel_rfl) (by kernel_rfl) (fun _ _ _ h => h) (Or.inl ⟨by rfl, ?_⟩) ?_
  rotate_left 1
  · intro w hSw; go_simp <;> with_reducible rfl
  try simp only [Act.put, List.setIfInBounds_toArray, List.set_cons_zero, List.set_cons_succ, List.getElem_toArray, List.getElem_cons_succ, List.getElem_cons_zero]
  refine wpAnyB_takeW (i := 8) (v := ?_) rfl (by kernel_rfl) (by kernel_rfl) (by kernel_rfl) (fun _ _ _ h => h) (Or.inl ⟨by rfl, ?_⟩) ?_
  rotate_left 1
  · intro w hSw; go_simp <;> with_reducible rfl
  try simp only [Act.put, List.setIfInBounds_toArray, List.set_cons_zero, List.set_cons_succ, List.getElem_toArray, List.getElem_cons_succ, List.getElem_cons_zero]
  refine wpAnyB_take (i := 9) (v := ?_) rfl (by kernel_rfl) (by kernel_rfl) (by kernel_rfl) (by kernel_rfl) (fun _ _ _ h => h) (Or.inl ⟨by rfl, ?_⟩) hHeld ?_
  rotate_left 1
  · intro w hSw; (try dsimp only at hSw); obtain ⟨q1, q2, q3⟩ := hSw; go_simp <;> with_reducible rfl
  try simp only [Act.put, List.setIfInBounds_toArray, List.set_cons_zero, List.set_cons_succ, List.getElem_toArray, List.getElem_cons_succ, List.getElem_cons_zero]
  refine wpAnyB_takeW (i := 10) (v := ?_) rfl (by kernel_rfl) (by kernel_rfl) (by kernel_rfl) (fun _ _ _ h => h) (Or.inl ⟨by rfl, ?_⟩) ?_
  rotate_left 1
  · intro w hSw; go_simp <;> with_reducible rfl
  try simp only [Act.put, List.setIfInBounds_toArray, List.set_cons_zero, List.set_cons_succ, List.getElem_toArray, List.getElem_cons_succ, List.getElem_cons_zero]
  refine wpAnyB_takeW (i := 11) (v := ?_) rfl (by kernel_rfl) (by kernel_rfl) (by kernel_rfl) (fun _ _ _ h => h) (Or.inl ⟨by rfl, ?_⟩) ?_
  rotate_left 1
  · intro w hSw; go_simp <;> with_reducible rfl
  try simp only [Act.put, List.setIfInBounds_toArray, List.set_cons_zero, List.set_cons_succ, List.getElem_toArray, List.getElem_cons_succ, List.getElem_cons_zero]
  refine wpAnyB_takeW (i := 12) (v := ?_) rfl (by kernel_rfl) (by kernel_rfl) (by kernel_rfl) (fun _ _ _ h => h) (Or.inl ⟨by rfl, ?_⟩) ?_
  rotate_left 1
  · intro w hSw; go_simp <;> with_reducible rfl
  try simp only [Act.put, List.setIfInBounds_toArray, List.set_cons_zero, List.set_cons_succ, List.getElem_toArray, List.getElem_cons_succ, List.getElem_cons_zero]
  refine wpAnyB_takeW (i := 13) (v := ?_) rfl (by kernel_rfl) (by kernel_rfl) (by kernel_rfl) (fun _ _ _ h => h) (Or.inl ⟨by rfl, ?_⟩) ?_
  rotate_left 1
  · intro w hSw; go_simp <;> with_reducible rfl
  try simp only [Act.put, List.setIfInBounds_toArray, List.set_cons_zero, List.set_cons_succ, List.getElem_toArray, List.getElem_cons_succ, List.getElem_cons_zero]
  refine wpAnyB_load47 (i := 14) rfl (by kernel_rfl) (by kernel_rfl) (by kernel_rfl) (by kernel_rfl) (nb) (3) (s) (.tmp 75) rfl rfl (fun _ _ _ h => h) (by rfl) (fun w hSw => rangeAt_of_block N.digR (hSw.2.2.block _ N.lt)) hHeld ?_
  try simp only [Act.put, List.setIfInBounds_toArray, List.set_cons_zero, List.set_cons_succ, List.getElem_toArray, List.getElem_cons_succ, List.getElem_cons_zero]
  refine wpAnyB_takeW (i := 15) (v := ?_) rfl (by kernel_rfl) (by kernel_rfl) (by kernel_rfl) (fun _ _ _ h => h) (Or.inl ⟨by rfl, ?_⟩) ?_
  rotate_left 1
  · intro w hSw; go_simp <;> with_reducible rfl
  try simp only [Act.put, List.setIfInBounds_toArray, List.set_cons_zero, List.set_cons_succ, List.getElem_toArray, List.getElem_cons_succ, List.getElem_cons_zero]
  refine wpAnyB_takeW (i := 16) (v := ?_) rfl (by kernel_rfl) (by kernel_rfl) (by kernel_rfl) (fun _ _ _ h => h) (Or.inl ⟨by rfl, ?_⟩) ?_
  rotate_left 1
  · intro w hSw; go_simp <;> with_reducible rfl
  try simp only [Act.put, List.setIfInBounds_toArray, List.set_cons_zero, List.set_cons_succ, List.getElem_toArray, List.getElem_cons_succ, List.getElem_cons_zero]
  refine wpAnyB_takeW (i := 17) (v := ?_) rfl (by kernel_rfl) (by kernel_rfl) (by kernel_rfl) (fun _ _ _ h => h) (Or.inl ⟨by rfl, ?_⟩) ?_
  rotate_left 1
  · intro w hSw; go_simp <;> with_reducible rfl
  try simp only [Act.put, List.setIfInBounds_toArray, List.set_cons_zero, List.set_cons_succ, List.getElem_toArray, List.getElem_cons_succ, List.getElem_cons_zero]
  refine wpAnyB_load47 (i := 18) rfl (by kernel_rfl) (by kernel_rfl) (by kernel_rfl) (by kernel_rfl) (nb2) (3) (s2) (.tmp 79) rfl rfl (fun _ _ _ h => h) (by rfl) (fun w hSw => rangeAt_of_block N2.digR (hSw.2.2.block _ N2.lt)) hHeld ?_
  try simp only [Act.put, List.setIfInBounds_toArray, List.set_cons_zero, List.set_cons_succ, List.getElem_toArray, List.getElem_cons_succ, List.getElem_cons_zero]
  refine wpAnyB_step (i := 19) (by kernel_rfl) rfl (fun Kq hKq => ?_)
  go_simp
  refine (hA _).mono ?_
  rintro e w' ⟨rfl, hw'⟩
  dsimp only
  have hb7 : Below V.heap.size V w' := hHeld.2.2.trans (hw'.mono hHeld.2.2.size)
  have hHeld := (⟨(hb7.cell (p := ⟨nb, 2, none⟩) N.lt).trans d1, (hb7.cell (p := ⟨nb2, 2, none⟩) N2.lt).trans d2, hb7⟩ : _ ∧ _ ∧ _)
  refine hKq.out _ _ (fun _ _ => hHeld) ?_
  clear hKq Kq
  try simp only [Act.put, List.setIfInBounds_toArray, List.set_cons_zero, List.set_cons_succ, List.getElem_toArray, List.getElem_cons_succ, List.getElem_cons_zero]
  refine wpAnyB_takeW (i := 20) (v := ?_) rfl (by kernel_rfl) (by kernel_rfl) (by kernel_rfl) (fun _ _ _ h => h) (Or.inl ⟨by rfl, ?_⟩) ?_
  rotate_left 1
  · intro w hSw; go_simp <;> with_reducible rfl
  try simp only [Act.put, List.setIfInBounds_toArray, List.set_cons_zero, List.set_cons_succ, List.getElem_toArray, List.getElem_cons_succ, List.getElem_cons_zero]
  refine wpAnyB_takeW (i := 21) (v := ?_) rfl (by kernel_rfl) (by kernel_rfl) (by kernel_rfl) (fun _ _ _ h => h) (Or.inl ⟨by rfl, ?_⟩) ?_
  rotate_left 1
  · intro w hSw; go_simp <;> with_reducible rfl
  try simp only [Act.put, List.setIfInBounds_toArray, List.set_cons_zero, List.set_cons_succ, List.getElem_toArray, List.getElem_cons_succ, List.getElem_cons_zero]
  have N7 := N.below hb7
  have c7 : w'.cell? ⟨nb, 2, none⟩ = some (.int .i64 (c : Nat)) := N7.cell 2
  have f7 := N7.frozen 2
  refine wpAnyB_step (i := 22) (by kernel_rfl) rfl (fun Kq hKq => ?_)
  go_simp
  refine hKq.out _ _ (fun h => absurd h (by decide)) ?_
  clear hKq Kq
  try simp only [Act.put, List.setIfInBounds_toArray, List.set_cons_zero, List.set_cons_succ, List.getElem_toArray, List.getElem_cons_succ, List.getElem_cons_zero]
  have e8 : (c : Int) - (c2 : Int) = ((c - c2 : Nat) : Int) := by omega
  rw [e8]
  clear e8 hwrap
  have N8 := N7.setCount (c - c2)
  have T8 := N8.digT
  refine wpAnyB_takeW (i := 23) (v := ?_) rfl (by kernel_rfl) (by kernel_rfl) (by kernel_rfl) (fun _ _ _ h => h) (Or.inl ⟨by rfl, ?_⟩) ?_
  rotate_left 1
  · intro w hSw; go_simp <;> with_reducible rfl
  try simp only [Act.put, List.setIfInBounds_toArray, List.set_cons_zero, List.set_cons_succ, List.getElem_toArray, List.getElem_cons_succ, List.getElem_cons_zero]
  refine wpAnyB_takeW (i := 24) (v := ?_) rfl (by kernel_rfl) (by kernel_rfl) (by kernel_rfl) (fun _ _ _ h => h) (Or.inl ⟨by rfl, ?_⟩) ?_
  rotate_left 1
  · intro w hSw; go_simp <;> with_reducible rfl
  try simp only [Act.put, List.setIfInBounds_toArray, List.set_cons_zero, List.set_cons_succ, List.getElem_toArray, List.getElem_cons_succ, List.getElem_cons_zero]
  refine wpAnyB_step (i := 25) (by kernel_rfl) rfl (fun Kq hKq => ?_)
  refine step_st47 rfl rfl (.tmp 85) (.tmp 81) rfl nb 3 (s - s2) rfl rfl T8 ?_
  refine hKq.out _ _ (fun h => absurd h (by decide)) ?_
  clear hKq Kq
  try simp only [Act.put, List.setIfInBounds_toArray, List.set_cons_zero, List.set_cons_succ, List.getElem_toArray, List.getElem_cons_succ, List.getElem_cons_zero]
  refine wpAnyB_done (by kernel_rfl) ?_ _
  have N9 := N8.setDig (s - s2)
  have kF : Kept (· = nb) V ((w'.setCell ⟨nb, 2, none⟩ (.int .i64 ((c - c2 : Nat) : Int))).setCells nb 3 (dgc (s - s2))) := kept_sets (kept_set (Kept.of_below hb7) _ _) _ _
  generalize (w'.setCell ⟨nb, 2, none⟩ (.int .i64 ((c - c2 : Nat) : Int))).setCells nb 3 (dgc (s - s2)) = Z at *
  clear hA N7 c7 f7 N8 T8 hHeld hb7 hw' d1 d2
  go_wp2_with fail
  go_ret
  have e1 := hks.out
  have e2 := hss.out
  have e3 := hkl.out
  rw [← hh.out]
  refine ⟨nb2, own2, W.heap.size, xs.take h ++ List.replicate (33 - h) 0, rfl, ?_, by omega, T3.kept kF (fun b hb e => by have := hnew b hb; omega), hnew, fun hm => by have := hlt2 _ hm; omega, kV.trans kF⟩
  refine { hOwn := rfl, hNe := by omega, hN := by rw [List.length_take]; omega, hXs := by rw [List.length_append, List.length_take, List.length_replicate]; omega, hTake := ?_, hLe := by omega, hNode := ?_, hKeys := BK3.kept kF (by omega), hSorted := F.hSorted.sublist (List.take_sublist _ _), hSmall := fun x hx => F.hSmall x (List.mem_of_mem_take hx) }
  · rw [List.take_append_of_le_length (by rw [List.length_take]; omega), List.take_take, Nat.min_self, ← F.hTake, List.take_take, Nat.min_eq_left (by omega)]
  · rw [← e1, ← Nat.add_sub_cancel (n := (ks.take h).sum) (m := s2), e2]
    exact N9
end Go.Proofs.Ybulkbqza
