/-
  Seat b3380a. treeNode.split at an inner node.
-/
import Derived.Test.YbulkbqzaSplitL
namespace Go.Proofs.Ybulkbqza
open Go.RowKit
set_option linter.unusedVariables false
set_option maxRecDepth 100000
set_option linter.unusedSimpArgs false

set_option maxHeartbeats 2000000 in
theorem split_inner (d K C : Nat) (w : World) (nb : Nat) (ks : List Nat) (n : Nat) (own : List Nat) (kb cb : Nat) (xs : List Nat) (ps : List Value) (es : List Kid) (F : Inner K C w nb ks n own kb cb xs ps es)
    (hk : ∀ e ∈ es, 16 ≤ e.n ∧ e.n ≤ 32 ∧ Tree d 33 33 w e.nb e.ks e.n e.own) (hn : 33 ≤ n) (hn2 : n ≤ 64) (hsum : ks.sum < 18446744073709551616) (hcnt : ks.length < 1099511627776) :
    Calls Yba.prog 52 #[.pointer (some ⟨nb, 0, none⟩), .func (.func 10) #[] #[]] w fun e w' => ∃ nb2 kb2 cb2 xs2 ps2 kb3 cb3 xs3 ps3, e = .returned (ptr nb2) ∧
      Inner 33 33 w' nb (keysOf (es.take (n / 2))) (n / 2) (nb :: kb3 :: cb3 :: ownOf (es.take (n / 2))) kb3 cb3 xs3 ps3 (es.take (n / 2)) ∧
      Inner 33 33 w' nb2 (keysOf (es.drop (n / 2))) (n - n / 2) (nb2 :: kb2 :: cb2 :: ownOf (es.drop (n / 2))) kb2 cb2 xs2 ps2 (es.drop (n / 2)) ∧
      (w.heap.size ≤ nb2 ∧ w.heap.size ≤ kb2 ∧ w.heap.size ≤ cb2 ∧ w.heap.size ≤ kb3 ∧ w.heap.size ≤ cb3) ∧ [nb2, kb2, cb2, kb3, cb3].Nodup ∧ Kept (· = nb) w w' := by
  have en := neq_nil
  have N0 := F.hNode
  have C0 := F.hKids
  have hone := F.hOne
  have hkl := F.hN
  have hle := F.hLe
  have hleC := F.hLeC
  have hxs := F.hXs
  have hps := F.hPs
  have g1 : w.cell? ⟨nb, 0, none⟩ = some (.slice (some ⟨kb, 0, none⟩) n K) := N0.cell 0
  have g2 : w.cell? ⟨nb, 1, none⟩ = some (.slice (some ⟨cb, 0, none⟩) n C) := N0.cell 1
  have g3 : ¬ (n : Int) ≤ 32 := by omega
  obtain ⟨h, hh⟩ : ∃ h, h = n / 2 := ⟨_, rfl⟩
  have hd : (n : Int) / 2 = (h : Int) := by omega
  have k1 : (h : Int) ≤ n := by omega
  have k2 : ¬ K = h := by omega
  have k3 : (h : Int) ≤ K := by omega
  have k4 : ¬ C = h := by omega
  have k5 : (h : Int) ≤ C := by omega
  have hh2 : h ≤ 32 := by omega
  have hh3 : n - h ≤ 33 ∧ 0 < n - h ∧ 0 < h := by omega
  have hhn : h ≤ n := by omega
  have hlen : (es.drop h).length = n - h := by rw [List.length_drop]; omega
  replace hkl := Hid.mk' hkl
  replace hh := Hid.mk' hh
  replace hlen := Hid.mk' hlen
  have hnd := F.hNodup
  rw [F.hOwn] at hnd
  simp only [List.nodup_cons, List.mem_cons, not_or] at hnd
  obtain ⟨⟨hn1, hn2', hn3⟩, ⟨hn4, hn5⟩, hn6, hnodup⟩ := hnd
  have hnbw : nb < w.heap.size := N0.lt
  have hkbw : kb < w.heap.size := F.hKeys.lt
  have hcbw : cb < w.heap.size := C0.lt
  go_enter Yba.func52, Yba.ntmps52
  go_wp2_with fail
  refine wp_region_B (fun w' => w'.cell? ⟨nb, 1, none⟩ = some (.slice (some ⟨cb, 0, none⟩) n C) ∧ Below w.heap.size w w') (fun j => j != 18) (by kernel_rfl) (⟨by simpa using g2, (Below.refl _ w).drew⟩) (fun hHeld => ?_)
  simp only [List.size_toArray, List.length_cons, List.length_nil, Nat.reduceAdd, Array.replicate_succ, Array.replicate_zero, List.push_toArray, List.append_toArray, List.nil_append, List.cons_append]
  refine wpAnyB_takeW (i := 0) (v := ?_) rfl (by kernel_rfl) (by kernel_rfl) (by kernel_rfl) (fun _ _ _ h => h) (Or.inl ⟨by rfl, ?_⟩) ?_
  rotate_left 1
  · intro w hSw; go_simp <;> with_reducible rfl
  try simp only [Act.put, List.setIfInBounds_toArray, List.set_cons_zero, List.set_cons_succ, List.getElem_toArray, List.getElem_cons_succ, List.getElem_cons_zero]
  refine wpAnyB_takeW (i := 1) (v := ?_) rfl (by kernel_rfl) (by kernel_rfl) (by kernel_rfl) (fun _ _ _ h => h) (Or.inl ⟨by rfl, ?_⟩) ?_
  rotate_left 1
  · intro w hSw; go_simp <;> with_reducible rfl
  try simp only [Act.put, List.setIfInBounds_toArray, List.set_cons_zero, List.set_cons_succ, List.getElem_toArray, List.getElem_cons_succ, List.getElem_cons_zero]
  refine wpAnyB_takeW (i := 2) (v := ?_) rfl (by kernel_rfl) (by kernel_rfl) (by kernel_rfl) (fun _ _ _ h => h) (Or.inl ⟨by rfl, ?_⟩) ?_
  rotate_left 1
  · intro w hSw; go_simp <;> with_reducible rfl
  try simp only [Act.put, List.setIfInBounds_toArray, List.set_cons_zero, List.set_cons_succ, List.getElem_toArray, List.getElem_cons_succ, List.getElem_cons_zero]
  refine wpAnyB_takeW (i := 3) (v := ?_) rfl (by kernel_rfl) (by kernel_rfl) (by kernel_rfl) (fun _ _ _ h => h) (Or.inl ⟨by rfl, ?_⟩) ?_
  rotate_left 1
  · intro w hSw; go_simp <;> with_reducible rfl
  try simp only [Act.put, List.setIfInBounds_toArray, List.set_cons_zero, List.set_cons_succ, List.getElem_toArray, List.getElem_cons_succ, List.getElem_cons_zero]
  refine wpAnyB_take (i := 4) (v := ?_) rfl (by kernel_rfl) (by kernel_rfl) (by kernel_rfl) (by kernel_rfl) (fun _ _ _ h => h) (Or.inl ⟨by rfl, ?_⟩) hHeld ?_
  rotate_left 1
  · intro w hSw; (try dsimp only at hSw); obtain ⟨q1, q2⟩ := hSw; go_simp <;> with_reducible rfl
  try simp only [Act.put, List.setIfInBounds_toArray, List.set_cons_zero, List.set_cons_succ, List.getElem_toArray, List.getElem_cons_succ, List.getElem_cons_zero]
  refine wpAnyB_takeW (i := 5) (v := ?_) rfl (by kernel_rfl) (by kernel_rfl) (by kernel_rfl) (fun _ _ _ h => h) (Or.inl ⟨by rfl, ?_⟩) ?_
  rotate_left 1
  · intro w hSw; go_simp <;> with_reducible rfl
  try simp only [Act.put, List.setIfInBounds_toArray, List.set_cons_zero, List.set_cons_succ, List.getElem_toArray, List.getElem_cons_succ, List.getElem_cons_zero]
  refine wpAnyB_takeW (i := 6) (v := ?_) rfl (by kernel_rfl) (by kernel_rfl) (by kernel_rfl) (fun _ _ _ h => h) (Or.inl ⟨by rfl, ?_⟩) ?_
  rotate_left 1
  · intro w hSw; go_simp <;> with_reducible rfl
  try simp only [Act.put, List.setIfInBounds_toArray, List.set_cons_zero, List.set_cons_succ, List.getElem_toArray, List.getElem_cons_succ, List.getElem_cons_zero]
  refine wpAnyB_takeW (i := 8) (v := ?_) rfl (by kernel_rfl) (by kernel_rfl) (by kernel_rfl) (fun _ _ _ h => h) (Or.inl ⟨by rfl, ?_⟩) ?_
  rotate_left 1
  · intro w hSw; go_simp <;> with_reducible rfl
  try simp only [Act.put, List.setIfInBounds_toArray, List.set_cons_zero, List.set_cons_succ, List.getElem_toArray, List.getElem_cons_succ, List.getElem_cons_zero]
  refine wpAnyB_takeW (i := 9) (v := ?_) rfl (by kernel_rfl) (by kernel_rfl) (by kernel_rfl) (fun _ _ _ h => h) (Or.inl ⟨by rfl, ?_⟩) ?_
  rotate_left 1
  · intro w hSw; go_simp <;> with_reducible rfl
  try simp only [Act.put, List.setIfInBounds_toArray, List.set_cons_zero, List.set_cons_succ, List.getElem_toArray, List.getElem_cons_succ, List.getElem_cons_zero]
  refine wpAnyB_takeW (i := 10) (v := ?_) rfl (by kernel_rfl) (by kernel_rfl) (by kernel_rfl) (fun _ _ _ h => h) (Or.inl ⟨by rfl, ?_⟩) ?_
  rotate_left 1
  · intro w hSw; go_simp <;> with_reducible rfl
  try simp only [Act.put, List.setIfInBounds_toArray, List.set_cons_zero, List.set_cons_succ, List.getElem_toArray, List.getElem_cons_succ, List.getElem_cons_zero]
  refine wpAnyB_take (i := 11) (v := ?_) rfl (by kernel_rfl) (by kernel_rfl) (by kernel_rfl) (by kernel_rfl) (fun _ _ _ h => h) (Or.inl ⟨by rfl, ?_⟩) hHeld ?_
  rotate_left 1
  · intro w hSw; (try dsimp only at hSw); obtain ⟨q1, q2⟩ := hSw; go_simp <;> with_reducible rfl
  try simp only [Act.put, List.setIfInBounds_toArray, List.set_cons_zero, List.set_cons_succ, List.getElem_toArray, List.getElem_cons_succ, List.getElem_cons_zero]
  refine wpAnyB_takeW (i := 12) (v := ?_) rfl (by kernel_rfl) (by kernel_rfl) (by kernel_rfl) (fun _ _ _ h => h) (Or.inl ⟨by rfl, ?_⟩) ?_
  rotate_left 1
  · intro w hSw; go_simp <;> with_reducible rfl
  try simp only [Act.put, List.setIfInBounds_toArray, List.set_cons_zero, List.set_cons_succ, List.getElem_toArray, List.getElem_cons_succ, List.getElem_cons_zero]
  refine wpAnyB_takeW (i := 13) (v := ?_) rfl (by kernel_rfl) (by kernel_rfl) (by kernel_rfl) (fun _ _ _ h => h) (Or.inl ⟨by rfl, ?_⟩) ?_
  rotate_left 1
  · intro w hSw; go_simp <;> with_reducible rfl
  try simp only [Act.put, List.setIfInBounds_toArray, List.set_cons_zero, List.set_cons_succ, List.getElem_toArray, List.getElem_cons_succ, List.getElem_cons_zero]
  refine wpAnyB_step (i := 7) (by kernel_rfl) rfl (fun Kq hKq => ?_)
  refine step_mk57 rfl _ _ rfl .i64 .i64 0 33 rfl rfl (by decide) (by decide) w.heap.size rfl ?_
  intro w1 BC b1 s1
  replace b1 : Below w.heap.size w w1 := (Below.refl _ w).drew.trans b1
  have hHeld := (⟨(b1.cell (p := ⟨nb, 1, none⟩) N0.lt).trans g2, b1⟩ : _ ∧ _)
  refine hKq.out _ _ (fun _ _ => hHeld) ?_
  clear hKq Kq
  try simp only [Act.put, List.setIfInBounds_toArray, List.set_cons_zero, List.set_cons_succ, List.getElem_toArray, List.getElem_cons_succ, List.getElem_cons_zero]
  have hc1 : ∀ j u, (ps.take h)[j]? = some u → w1.cell? ((⟨cb, 0, none⟩ : Addr).add j) = some u := fun j u hu => by
    rw [Addr.add_mid, (C0.below b1).cell, Nat.zero_add]
    rw [List.getElem?_take] at hu
    split at hu
    · exact hu
    · cases hu
  refine wpAnyB_step (i := 14) (by kernel_rfl) rfl (fun Kq hKq => ?_)
  refine step_app57 rfl (.tmp 32) (.tmp 38) rfl w.heap.size 0 33 rfl ⟨cb, 0, none⟩ h C (List.replicate 33 (Value.pointer none)) (ps.take h) BC rfl (by rw [List.length_take]; omega) (fun u hu => hone u (List.mem_of_mem_take hu)) hc1 (by omega) (by simp) ?_
  intro w2 BC2 k2
  rw [List.take_zero, List.nil_append, List.drop_replicate, Nat.zero_add] at BC2
  have hHeld := (⟨(k2.cell (p := ⟨nb, 1, none⟩) (Nat.lt_of_lt_of_le N0.lt b1.size) (by have := N0.lt; simp; omega)).trans ((b1.cell (p := ⟨nb, 1, none⟩) N0.lt).trans g2), k2.below b1.size (fun k hk => by omega) |> b1.trans⟩ : _ ∧ _)
  refine hKq.out _ _ (fun _ _ => hHeld) ?_
  clear hKq Kq
  try simp only [Act.put, List.setIfInBounds_toArray, List.set_cons_zero, List.set_cons_succ, List.getElem_toArray, List.getElem_cons_succ, List.getElem_cons_zero]
  refine wpAnyB_takeW (i := 15) (v := ?_) rfl (by kernel_rfl) (by kernel_rfl) (by kernel_rfl) (fun _ _ _ h => h) (Or.inl ⟨by rfl, ?_⟩) ?_
  rotate_left 1
  · intro w hSw; go_simp <;> with_reducible rfl
  try simp only [Act.put, List.setIfInBounds_toArray, List.set_cons_zero, List.set_cons_succ, List.getElem_toArray, List.getElem_cons_succ, List.getElem_cons_zero]
  refine wpAnyB_takeW (i := 16) (v := ?_) rfl (by kernel_rfl) (by kernel_rfl) (by kernel_rfl) (fun _ _ _ h => h) (Or.inl ⟨by rfl, ?_⟩) ?_
  rotate_left 1
  · intro w hSw; go_simp <;> with_reducible rfl
  try simp only [Act.put, List.setIfInBounds_toArray, List.set_cons_zero, List.set_cons_succ, List.getElem_toArray, List.getElem_cons_succ, List.getElem_cons_zero]
  refine wpAnyB_takeW (i := 17) (v := ?_) rfl (by kernel_rfl) (by kernel_rfl) (by kernel_rfl) (fun _ _ _ h => h) (Or.inl ⟨by rfl, ?_⟩) ?_
  rotate_left 1
  · intro w hSw; go_simp <;> with_reducible rfl
  try simp only [Act.put, List.setIfInBounds_toArray, List.set_cons_zero, List.set_cons_succ, List.getElem_toArray, List.getElem_cons_succ, List.getElem_cons_zero]
  have N2 := N0.below hHeld.2
  have c2 : w2.cell? ⟨nb, 1, none⟩ = some (.slice (some ⟨cb, 0, none⟩) n C) := N2.cell 1
  have f2 := N2.frozen 1
  refine wpAnyB_step (i := 18) (by kernel_rfl) rfl (fun Kq hKq => ?_)
  go_simp
  refine hKq.out _ _ (fun h => absurd h (by decide)) ?_
  clear hKq Kq
  try simp only [Act.put, List.setIfInBounds_toArray, List.set_cons_zero, List.set_cons_succ, List.getElem_toArray, List.getElem_cons_succ, List.getElem_cons_zero]
  refine wpAnyB_done (by kernel_rfl) ?_ _
  have N3 := N2.setKids (.slice (some ⟨w.heap.size, 0, none⟩) (0 + h) 33)
  rw [Nat.zero_add] at N3
  generalize hc0 : w2.setCell ⟨nb, 1, none⟩ (.slice (some ⟨w.heap.size, 0, none⟩) h 33) = W0 at *
  have hs0 : w.heap.size + 1 ≤ W0.heap.size := by
    have h1 := k2.size
    rw [← hc0]
    simp [World.setCell]
    omega
  have kV0 : Kept (· = nb) w W0 := by
    rw [← hc0]
    exact kept_set (Kept.of_below hHeld.2) _ _
  have BC3 : Blk W0 w.heap.size (ps.take h ++ List.replicate (33 - h) (.pointer none)) 32 := by rw [← hc0]; exact BC2.setOther (p := ⟨nb, 1, none⟩) (by simp; omega) _
  have BKs : Blk W0 kb (ids xs) 30 := F.hKeys.kept kV0 (fun e => hn1 e.symm)
  have BCs : Blk W0 cb ps 32 := C0.kept kV0 (fun e => hn2' e.symm)
  have hk0 : ∀ e ∈ es, 16 ≤ e.n ∧ e.n ≤ 32 ∧ Tree d 33 33 W0 e.nb e.ks e.n e.own := fun e he => ⟨(hk e he).1, (hk e he).2.1, (hk e he).2.2.kept kV0 (fun b hb eq => hn3 (mem_ownOf he (eq ▸ hb)))⟩
  clear hHeld BC BC2 k2 hc1 b1 s1 N2 c2 f2 hc0 g1 g2
  have g1 : W0.cell? ⟨nb, 0, none⟩ = some (.slice (some ⟨kb, 0, none⟩) n K) := N3.cell 0
  have hCall : Calls Yba.prog 22 #[.slice (some ⟨kb, h * 20, none⟩) (n - h) (K - h), .slice (some ⟨cb, h, none⟩) (n - h) (C - h), .func (.func 10) #[] #[]] W0 fun e w' => ∃ nb2 kb2 cb2 xs2 ps2, e = .returned (ptr nb2) ∧ Inner 33 33 w' nb2 (keysOf (es.drop h)) (es.drop h).length (nb2 :: kb2 :: cb2 :: ownOf (es.drop h)) kb2 cb2 xs2 ps2 (es.drop h) ∧ (W0.heap.size ≤ nb2 ∧ W0.heap.size ≤ kb2 ∧ W0.heap.size ≤ cb2) ∧ Below W0.heap.size W0 w' := by
    rw [← hlen.out]
    have hsub : keysOf (es.take h) ++ keysOf (es.drop h) = ks := by rw [← keysOf_append, List.take_append_drop, F.hKs]
    refine nodeOf_inner d kb (h * 20) (K - h) cb h (C - h) (es.drop h) W0 BKs.lt ?_ BCs.lt ?_ (by rw [hlen.out]; omega) (by rw [hlen.out]; omega) (fun e he => hk0 e (List.mem_of_mem_drop he)) (F.hOrd.sublist (List.drop_sublist _ _)) ?_ ?_ ?_ ?_
    · rw [List.map_drop, ← F.hTake]
      exact ids_sub_take BKs n h
    · rw [List.map_drop, ← F.hTakeP]
      refine BCs.range fun j v hj => ?_
      rw [List.drop_take, List.getElem?_take] at hj
      split at hj
      · rw [List.getElem?_drop] at hj; exact hj
      · cases hj
    · rw [← List.take_append_drop h es, ownOf_append] at hnodup
      exact (List.nodup_append.1 hnodup).2.1
    · intro e he
      refine F.hSmall _ (List.mem_of_mem_take (i := n) ?_)
      rw [F.hTake]
      exact List.mem_map.2 ⟨e, List.mem_of_mem_drop he, rfl⟩
    · rw [← hsub, List.sum_append] at hsum
      omega
    · rw [← hsub, List.length_append] at hcnt
      omega
  go_wp2_with (go_at_call 22; refine hCall.mono ?_; rintro e W ⟨nb2, kb2, cb2, xs2, ps2, rfl, I2, hnew, hbW⟩; unfold ptr)
  rw [hlen.out] at I2
  have N := N3.below hbW
  have B := BKs.below hbW
  have BC4 := BC3.below hbW
  have c0 : W.cell? ⟨nb, 0, none⟩ = some (.slice (some ⟨kb, 0, none⟩) n K) := N.cell 0
  obtain ⟨hnb2, hkb2, hcb2⟩ := hnew
  have hWs := hbW.size
  have l1 := I2.hNode.lt
  have l2 := I2.hKeys.lt
  have l3 := I2.hKids.lt
  have k0W : Kept (· = nb) w W := kV0.trans (Kept.of_below hbW)
  clear hCall g1 en N3
  refine wp_region_B (fun w' => w'.cell? ⟨nb, 0, none⟩ = some (.slice (some ⟨kb, 0, none⟩) n K) ∧ Below W.heap.size W w') (fun j => j != 11) (by kernel_rfl) (⟨by simpa using c0, (Below.refl _ W).drew⟩) (fun hHeld => ?_)
  simp only [List.size_toArray, List.length_cons, List.length_nil, Nat.reduceAdd, Array.replicate_succ, Array.replicate_zero, List.push_toArray, List.append_toArray, List.nil_append, List.cons_append]
  refine wpAnyB_takeW (i := 0) (v := ?_) rfl (by kernel_rfl) (by kernel_rfl) (by kernel_rfl) (fun _ _ _ h => h) (Or.inl ⟨by rfl, ?_⟩) ?_
  rotate_left 1
  · intro w hSw; go_simp <;> with_reducible rfl
  try simp only [Act.put, List.setIfInBounds_toArray, List.set_cons_zero, List.set_cons_succ, List.getElem_toArray, List.getElem_cons_succ, List.getElem_cons_zero]
  refine wpAnyB_takeW (i := 2) (v := ?_) rfl (by kernel_rfl) (by kernel_rfl) (by kernel_rfl) (fun _ _ _ h => h) (Or.inl ⟨by rfl, ?_⟩) ?_
  rotate_left 1
  · intro w hSw; go_simp <;> with_reducible rfl
  try simp only [Act.put, List.setIfInBounds_toArray, List.set_cons_zero, List.set_cons_succ, List.getElem_toArray, List.getElem_cons_succ, List.getElem_cons_zero]
  refine wpAnyB_takeW (i := 3) (v := ?_) rfl (by kernel_rfl) (by kernel_rfl) (by kernel_rfl) (fun _ _ _ h => h) (Or.inl ⟨by rfl, ?_⟩) ?_
  rotate_left 1
  · intro w hSw; go_simp <;> with_reducible rfl
  try simp only [Act.put, List.setIfInBounds_toArray, List.set_cons_zero, List.set_cons_succ, List.getElem_toArray, List.getElem_cons_succ, List.getElem_cons_zero]
  refine wpAnyB_takeW (i := 4) (v := ?_) rfl (by kernel_rfl) (by kernel_rfl) (by kernel_rfl) (fun _ _ _ h => h) (Or.inl ⟨by rfl, ?_⟩) ?_
  rotate_left 1
  · intro w hSw; go_simp <;> with_reducible rfl
  try simp only [Act.put, List.setIfInBounds_toArray, List.set_cons_zero, List.set_cons_succ, List.getElem_toArray, List.getElem_cons_succ, List.getElem_cons_zero]
  refine wpAnyB_take (i := 5) (v := ?_) rfl (by kernel_rfl) (by kernel_rfl) (by kernel_rfl) (by kernel_rfl) (fun _ _ _ h => h) (Or.inl ⟨by rfl, ?_⟩) hHeld ?_
  rotate_left 1
  · intro w hSw; (try dsimp only at hSw); obtain ⟨q1, q2⟩ := hSw; go_simp <;> with_reducible rfl
  try simp only [Act.put, List.setIfInBounds_toArray, List.set_cons_zero, List.set_cons_succ, List.getElem_toArray, List.getElem_cons_succ, List.getElem_cons_zero]
  refine wpAnyB_takeW (i := 6) (v := ?_) rfl (by kernel_rfl) (by kernel_rfl) (by kernel_rfl) (fun _ _ _ h => h) (Or.inl ⟨by rfl, ?_⟩) ?_
  rotate_left 1
  · intro w hSw; go_simp <;> with_reducible rfl
  try simp only [Act.put, List.setIfInBounds_toArray, List.set_cons_zero, List.set_cons_succ, List.getElem_toArray, List.getElem_cons_succ, List.getElem_cons_zero]
  refine wpAnyB_takeW (i := 7) (v := ?_) rfl (by kernel_rfl) (by kernel_rfl) (by kernel_rfl) (fun _ _ _ h => h) (Or.inl ⟨by rfl, ?_⟩) ?_
  rotate_left 1
  · intro w hSw; go_simp <;> with_reducible rfl
  try simp only [Act.put, List.setIfInBounds_toArray, List.set_cons_zero, List.set_cons_succ, List.getElem_toArray, List.getElem_cons_succ, List.getElem_cons_zero]
  refine wpAnyB_step (i := 1) (by kernel_rfl) rfl (fun Kq hKq => ?_)
  refine step_mk30 rfl _ _ rfl .i64 .i64 0 33 rfl rfl (by decide) (by decide) W.heap.size rfl ?_
  intro W1 BK b1 s1
  replace b1 : Below W.heap.size W W1 := (Below.refl _ W).drew.trans b1
  have hHeld := (⟨(b1.cell (p := ⟨nb, 0, none⟩) N.lt).trans c0, b1⟩ : _ ∧ _)
  refine hKq.out _ _ (fun _ _ => hHeld) ?_
  clear hKq Kq
  try simp only [Act.put, List.setIfInBounds_toArray, List.set_cons_zero, List.set_cons_succ, List.getElem_toArray, List.getElem_cons_succ, List.getElem_cons_zero]
  have hc1 : ∀ j u, (ids (xs.take h))[j]? = some u → W1.cell? ((⟨kb, 0, none⟩ : Addr).add j) = some u := fun j u hu => by
    rw [Addr.add_mid]
    exact (B.below b1).sub (k := 0) (zs := xs.take h) (List.take_prefix _ _) j u hu
  refine wpAnyB_step (i := 8) (by kernel_rfl) rfl (fun Kq hKq => ?_)
  refine step_app30 rfl (.tmp 52) (.tmp 58) rfl W.heap.size 0 33 rfl ⟨kb, 0, none⟩ h K (List.replicate 33 0) (xs.take h) BK rfl (by rw [List.length_take]; omega) hc1 (by omega) (by simp) ?_
  intro W2 BK2 k2
  rw [List.take_zero, List.nil_append, List.drop_replicate, Nat.zero_add] at BK2
  have hHeld := (⟨(k2.cell (p := ⟨nb, 0, none⟩) (Nat.lt_of_lt_of_le N.lt b1.size) (by have := N.lt; simp; omega)).trans ((b1.cell (p := ⟨nb, 0, none⟩) N.lt).trans c0), k2.below b1.size (fun k hk => by omega) |> b1.trans⟩ : _ ∧ _)
  refine hKq.out _ _ (fun _ _ => hHeld) ?_
  clear hKq Kq
  try simp only [Act.put, List.setIfInBounds_toArray, List.set_cons_zero, List.set_cons_succ, List.getElem_toArray, List.getElem_cons_succ, List.getElem_cons_zero]
  refine wpAnyB_takeW (i := 9) (v := ?_) rfl (by kernel_rfl) (by kernel_rfl) (by kernel_rfl) (fun _ _ _ h => h) (Or.inl ⟨by rfl, ?_⟩) ?_
  rotate_left 1
  · intro w hSw; go_simp <;> with_reducible rfl
  try simp only [Act.put, List.setIfInBounds_toArray, List.set_cons_zero, List.set_cons_succ, List.getElem_toArray, List.getElem_cons_succ, List.getElem_cons_zero]
  refine wpAnyB_takeW (i := 10) (v := ?_) rfl (by kernel_rfl) (by kernel_rfl) (by kernel_rfl) (fun _ _ _ h => h) (Or.inl ⟨by rfl, ?_⟩) ?_
  rotate_left 1
  · intro w hSw; go_simp <;> with_reducible rfl
  try simp only [Act.put, List.setIfInBounds_toArray, List.set_cons_zero, List.set_cons_succ, List.getElem_toArray, List.getElem_cons_succ, List.getElem_cons_zero]
  have N2 := N.below hHeld.2
  have c2 : W2.cell? ⟨nb, 0, none⟩ = some (.slice (some ⟨kb, 0, none⟩) n K) := N2.cell 0
  have f2 := N2.frozen 0
  refine wpAnyB_step (i := 11) (by kernel_rfl) rfl (fun Kq hKq => ?_)
  go_simp
  refine hKq.out _ _ (fun h => absurd h (by decide)) ?_
  clear hKq Kq
  try simp only [Act.put, List.setIfInBounds_toArray, List.set_cons_zero, List.set_cons_succ, List.getElem_toArray, List.getElem_cons_succ, List.getElem_cons_zero]
  refine wpAnyB_done (by kernel_rfl) ?_ _
  have N3 := N2.setKeys (.slice (some ⟨W.heap.size, 0, none⟩) (0 + h) 33)
  rw [Nat.zero_add] at N3
  generalize hc0 : W2.setCell ⟨nb, 0, none⟩ (.slice (some ⟨W.heap.size, 0, none⟩) h 33) = V at *
  have kW : Kept (· = nb) W V := by
    rw [← hc0]
    exact kept_set (Kept.of_below hHeld.2) _ _
  have kV : Kept (· = nb) w V := k0W.trans kW
  have BK3 : Blk V W.heap.size (ids (xs.take h ++ List.replicate (33 - h) 0)) 30 := by rw [← hc0]; exact BK2.setOther (p := ⟨nb, 0, none⟩) (by simp; omega) _
  have BC5 : Blk V w.heap.size (ps.take h ++ List.replicate (33 - h) (.pointer none)) 32 := BC4.kept kW (by omega)
  have I3 : Inner 33 33 V nb2 (keysOf (es.drop h)) (n - h) (nb2 :: kb2 :: cb2 :: ownOf (es.drop h)) kb2 cb2 xs2 ps2 (es.drop h) := I2.of_blocks fun b hb => by
    simp at hb
    rcases hb with rfl | rfl | rfl
    · exact kW.block _ l1 (by omega)
    · exact kW.block _ l2 (by omega)
    · exact kW.block _ l3 (by omega)
  have M3 := I3.hNode
  have hsV : W.heap.size + 1 ≤ V.heap.size := BK3.lt
  clear hHeld BK BK2 k2 hc1 b1 s1 N2 c2 f2 N B c0 hc0
  have hsub : keysOf (es.take h) ++ keysOf (es.drop h) = ks := by rw [← keysOf_append, List.take_append_drop, F.hKs]
  have hks : ks.length = (keysOf (es.take h)).length + (keysOf (es.drop h)).length ∧ ks.sum = (keysOf (es.take h)).sum + (keysOf (es.drop h)).sum := by rw [← hsub]; exact ⟨List.length_append, List.sum_append⟩
  have hs1 : (keysOf (es.drop h)).sum ≤ ks.sum := by omega
  have hA := fun w => sub_calls ks.sum (keysOf (es.drop h)).sum hs1 hsum w
  have d1 : V.cell? ⟨nb, 2, none⟩ = some (.int .i64 (ks.length : Nat)) := N3.cell 2
  have d2 : V.cell? ⟨nb2, 2, none⟩ = some (.int .i64 ((keysOf (es.drop h)).length : Nat)) := M3.cell 2
  have hcc : (keysOf (es.drop h)).length ≤ ks.length := by omega
  have hksl := hcnt
  replace hks := Hid.mk' hks
  replace hsub := Hid.mk' hsub
  generalize hgc : ks.length = c at *
  generalize hgs : ks.sum = s at *
  generalize hgc2 : (keysOf (es.drop h)).length = c2 at *
  generalize hgs2 : (keysOf (es.drop h)).sum = s2 at *
  have hwrap : IntKind.i64.wrap ((c : Int) - (c2 : Int)) = (c : Int) - (c2 : Int) := by rw [IntKind.wrap_i64]; omega
  have N := N3
  have N2 := M3
  replace hgc := Hid.mk' hgc
  replace hgs := Hid.mk' hgs
  replace hgc2 := Hid.mk' hgc2
  replace hgs2 := Hid.mk' hgs2
  go_wp2_with fail
  refine wp_region_B (fun w' => w'.cell? ⟨nb, 2, none⟩ = some (.int .i64 (c : Nat)) ∧ w'.cell? ⟨nb2, 2, none⟩ = some (.int .i64 (c2 : Nat)) ∧ Below V.heap.size V w') (fun j => j != 22 && j != 25) (by kernel_rfl) (⟨by simpa using d1, by simpa using d2, (Below.refl _ V).drew⟩) (fun hHeld => ?_)
  simp only [List.size_toArray, List.length_cons, List.length_nil, Nat.reduceAdd, Array.replicate_succ, Array.replicate_zero, List.push_toArray, List.append_toArray, List.nil_append, List.cons_append]
  refine wpAnyB_takeW (i := 0) (v := ?_) rfl (by kernel_rfl) (by kernel_rfl) (by kernel_rfl) (fun _ _ _ h => h) (Or.inl ⟨by rfl, ?_⟩) ?_
  rotate_left 1
  · intro w hSw; go_simp <;> with_reducible rfl
  try simp only [Act.put, List.setIfInBounds_toArray, List.set_cons_zero, List.set_cons_succ, List.getElem_toArray, List.getElem_cons_succ, List.getElem_cons_zero]
  refine wpAnyB_takeW (i := 1) (v := ?_) rfl (by kernel_rfl) (by kernel_rfl) (by kernel_rfl) (fun _ _ _ h => h) (Or.inl ⟨by rfl, ?_⟩) ?_
  rotate_left 1
  · intro w hSw; go_simp <;> with_reducible rfl
  try simp only [Act.put, List.setIfInBounds_toArray, List.set_cons_zero, List.set_cons_succ, List.getElem_toArray, List.getElem_cons_succ, List.getElem_cons_zero]
  refine wpAnyB_takeW (i := 2) (v := ?_) rfl (by kernel_rfl) (by kernel_rfl) (by kernel_rfl) (fun _ _ _ h => h) (Or.inl ⟨by rfl, ?_⟩) ?_
  rotate_left 1
  · intro w hSw; go_simp <;> with_reducible rfl
  try simp only [Act.put, List.setIfInBounds_toArray, List.set_cons_zero, List.set_cons_succ, List.getElem_toArray, List.getElem_cons_succ, List.getElem_cons_zero]
  refine wpAnyB_takeW (i := 3) (v := ?_) rfl (by kernel_rfl) (by kernel_rfl) (by kernel_rfl) (fun _ _ _ h => h) (Or.inl ⟨by rfl, ?_⟩) ?_
  rotate_left 1
  · intro w hSw; go_simp <;> with_reducible rfl
  try simp only [Act.put, List.setIfInBounds_toArray, List.set_cons_zero, List.set_cons_succ, List.getElem_toArray, List.getElem_cons_succ, List.getElem_cons_zero]
  refine wpAnyB_takeW (i := 4) (v := ?_) rfl (by kernel_rfl) (by kernel_rfl) (by kernel_rfl) (fun _ _ _ h => h) (Or.inl ⟨by rfl, ?_⟩) ?_
  rotate_left 1
  · intro w hSw; go_simp <;> with_reducible rfl
  try simp only [Act.put, List.setIfInBounds_toArray, List.set_cons_zero, List.set_cons_succ, List.getElem_toArray, List.getElem_cons_succ, List.getElem_cons_zero]
  refine wpAnyB_take (i := 5) (v := ?_) rfl (by kernel_rfl) (by kernel_rfl) (by kernel_rfl) (by kernel_rfl) (fun _ _ _ h => h) (Or.inl ⟨by rfl, ?_⟩) hHeld ?_
  rotate_left 1
  · intro w hSw; (try dsimp only at hSw); obtain ⟨q1, q2, q3⟩ := hSw; go_simp <;> with_reducible rfl
  try simp only [Act.put, List.setIfInBounds_toArray, List.set_cons_zero, List.set_cons_succ, List.getElem_toArray, List.getElem_cons_succ, List.getElem_cons_zero]
  refine wpAnyB_takeW (i := 6) (v := ?_) rfl (by kernel_rfl) (by kernel_rfl) (by kernel_rfl) (fun _ _ _ h => h) (Or.inl ⟨by rfl, ?_⟩) ?_
  rotate_left 1
  · intro w hSw; go_simp <;> with_reducible rfl
  try simp only [Act.put, List.setIfInBounds_toArray, List.set_cons_zero, List.set_cons_succ, List.getElem_toArray, List.getElem_cons_succ, List.getElem_cons_zero]
  refine wpAnyB_takeW (i := 7) (v := ?_) rfl (by kernel_rfl) (by kernel_rfl) (by kernel_rfl) (fun _ _ _ h => h) (Or.inl ⟨by rfl, ?_⟩) ?_
  rotate_left 1
  · intro w hSw; go_simp <;> with_reducible rfl
  try simp only [Act.put, List.setIfInBounds_toArray, List.set_cons_zero, List.set_cons_succ, List.getElem_toArray, List.getElem_cons_succ, List.getElem_cons_zero]
  refine wpAnyB_takeW (i := 8) (v := ?_) rfl (by kernel_rfl) (by kernel_rfl) (by kernel_rfl) (fun _ _ _ h => h) (Or.inl ⟨by rfl, ?_⟩) ?_
  rotate_left 1
  · intro w hSw; go_simp <;> with_reducible rfl
  try simp only [Act.put, List.setIfInBounds_toArray, List.set_cons_zero, List.set_cons_succ, List.getElem_toArray, List.getElem_cons_succ, List.getElem_cons_zero]
  refine wpAnyB_take (i := 9) (v := ?_) rfl (by kernel_rfl) (by kernel_rfl) (by kernel_rfl) (by kernel_rfl) (fun _ _ _ h => h) (Or.inl ⟨by rfl, ?_⟩) hHeld ?_
  rotate_left 1
  · intro w hSw; (try dsimp only at hSw); obtain ⟨q1, q2, q3⟩ := hSw; go_simp <;> with_reducible rfl
  try simp only [Act.put, List.setIfInBounds_toArray, List.set_cons_zero, List.set_cons_succ, List.getElem_toArray, List.getElem_cons_succ, List.getElem_cons_zero]
  refine wpAnyB_takeW (i := 10) (v := ?_) rfl (by kernel_rfl) (by kernel_rfl) (by kernel_rfl) (fun _ _ _ h => h) (Or.inl ⟨by rfl, ?_⟩) ?_
  rotate_left 1
  · intro w hSw; go_simp <;> with_reducible rfl
  try simp only [Act.put, List.setIfInBounds_toArray, List.set_cons_zero, List.set_cons_succ, List.getElem_toArray, List.getElem_cons_succ, List.getElem_cons_zero]
  refine wpAnyB_takeW (i := 11) (v := ?_) rfl (by kernel_rfl) (by kernel_rfl) (by kernel_rfl) (fun _ _ _ h => h) (Or.inl ⟨by rfl, ?_⟩) ?_
  rotate_left 1
  · intro w hSw; go_simp <;> with_reducible rfl
  try simp only [Act.put, List.setIfInBounds_toArray, List.set_cons_zero, List.set_cons_succ, List.getElem_toArray, List.getElem_cons_succ, List.getElem_cons_zero]
  refine wpAnyB_takeW (i := 12) (v := ?_) rfl (by kernel_rfl) (by kernel_rfl) (by kernel_rfl) (fun _ _ _ h => h) (Or.inl ⟨by rfl, ?_⟩) ?_
  rotate_left 1
  · intro w hSw; go_simp <;> with_reducible rfl
  try simp only [Act.put, List.setIfInBounds_toArray, List.set_cons_zero, List.set_cons_succ, List.getElem_toArray, List.getElem_cons_succ, List.getElem_cons_zero]
  refine wpAnyB_takeW (i := 13) (v := ?_) rfl (by kernel_rfl) (by kernel_rfl) (by kernel_rfl) (fun _ _ _ h => h) (Or.inl ⟨by rfl, ?_⟩) ?_
  rotate_left 1
  · intro w hSw; go_simp <;> with_reducible rfl
  try simp only [Act.put, List.setIfInBounds_toArray, List.set_cons_zero, List.set_cons_succ, List.getElem_toArray, List.getElem_cons_succ, List.getElem_cons_zero]
  refine wpAnyB_load47 (i := 14) rfl (by kernel_rfl) (by kernel_rfl) (by kernel_rfl) (by kernel_rfl) (nb) (3) (s) (.tmp 75) rfl rfl (fun _ _ _ h => h) (by rfl) (fun w hSw => rangeAt_of_block N.digR (hSw.2.2.block _ N.lt)) hHeld ?_
  try simp only [Act.put, List.setIfInBounds_toArray, List.set_cons_zero, List.set_cons_succ, List.getElem_toArray, List.getElem_cons_succ, List.getElem_cons_zero]
  refine wpAnyB_takeW (i := 15) (v := ?_) rfl (by kernel_rfl) (by kernel_rfl) (by kernel_rfl) (fun _ _ _ h => h) (Or.inl ⟨by rfl, ?_⟩) ?_
  rotate_left 1
  · intro w hSw; go_simp <;> with_reducible rfl
  try simp only [Act.put, List.setIfInBounds_toArray, List.set_cons_zero, List.set_cons_succ, List.getElem_toArray, List.getElem_cons_succ, List.getElem_cons_zero]
  refine wpAnyB_takeW (i := 16) (v := ?_) rfl (by kernel_rfl) (by kernel_rfl) (by kernel_rfl) (fun _ _ _ h => h) (Or.inl ⟨by rfl, ?_⟩) ?_
  rotate_left 1
  · intro w hSw; go_simp <;> with_reducible rfl
  try simp only [Act.put, List.setIfInBounds_toArray, List.set_cons_zero, List.set_cons_succ, List.getElem_toArray, List.getElem_cons_succ, List.getElem_cons_zero]
  refine wpAnyB_takeW (i := 17) (v := ?_) rfl (by kernel_rfl) (by kernel_rfl) (by kernel_rfl) (fun _ _ _ h => h) (Or.inl ⟨by rfl, ?_⟩) ?_
  rotate_left 1
  · intro w hSw; go_simp <;> with_reducible rfl
  try simp only [Act.put, List.setIfInBounds_toArray, List.set_cons_zero, List.set_cons_succ, List.getElem_toArray, List.getElem_cons_succ, List.getElem_cons_zero]
  refine wpAnyB_load47 (i := 18) rfl (by kernel_rfl) (by kernel_rfl) (by kernel_rfl) (by kernel_rfl) (nb2) (3) (s2) (.tmp 79) rfl rfl (fun _ _ _ h => h) (by rfl) (fun w hSw => rangeAt_of_block N2.digR (hSw.2.2.block _ N2.lt)) hHeld ?_
  try simp only [Act.put, List.setIfInBounds_toArray, List.set_cons_zero, List.set_cons_succ, List.getElem_toArray, List.getElem_cons_succ, List.getElem_cons_zero]
  refine wpAnyB_step (i := 19) (by kernel_rfl) rfl (fun Kq hKq => ?_)
  go_simp
  refine (hA _).mono ?_
  rintro e w' ⟨rfl, hw'⟩
  dsimp only
  have hb7 : Below V.heap.size V w' := hHeld.2.2.trans (hw'.mono hHeld.2.2.size)
  have hHeld := (⟨(hb7.cell (p := ⟨nb, 2, none⟩) N.lt).trans d1, (hb7.cell (p := ⟨nb2, 2, none⟩) N2.lt).trans d2, hb7⟩ : _ ∧ _ ∧ _)
  refine hKq.out _ _ (fun _ _ => hHeld) ?_
  clear hKq Kq
  try simp only [Act.put, List.setIfInBounds_toArray, List.set_cons_zero, List.set_cons_succ, List.getElem_toArray, List.getElem_cons_succ, List.getElem_cons_zero]
  refine wpAnyB_takeW (i := 20) (v := ?_) rfl (by kernel_rfl) (by kernel_rfl) (by kernel_rfl) (fun _ _ _ h => h) (Or.inl ⟨by rfl, ?_⟩) ?_
  rotate_left 1
  · intro w hSw; go_simp <;> with_reducible rfl
  try simp only [Act.put, List.setIfInBounds_toArray, List.set_cons_zero, List.set_cons_succ, List.getElem_toArray, List.getElem_cons_succ, List.getElem_cons_zero]
  refine wpAnyB_takeW (i := 21) (v := ?_) rfl (by kernel_rfl) (by kernel_rfl) (by kernel_rfl) (fun _ _ _ h => h) (Or.inl ⟨by rfl, ?_⟩) ?_
  rotate_left 1
  · intro w hSw; go_simp <;> with_reducible rfl
  try simp only [Act.put, List.setIfInBounds_toArray, List.set_cons_zero, List.set_cons_succ, List.getElem_toArray, List.getElem_cons_succ, List.getElem_cons_zero]
  have N7 := N.below hb7
  have c7 : w'.cell? ⟨nb, 2, none⟩ = some (.int .i64 (c : Nat)) := N7.cell 2
  have f7 := N7.frozen 2
  refine wpAnyB_step (i := 22) (by kernel_rfl) rfl (fun Kq hKq => ?_)
  go_simp
  refine hKq.out _ _ (fun h => absurd h (by decide)) ?_
  clear hKq Kq
  try simp only [Act.put, List.setIfInBounds_toArray, List.set_cons_zero, List.set_cons_succ, List.getElem_toArray, List.getElem_cons_succ, List.getElem_cons_zero]
  have e8 : (c : Int) - (c2 : Int) = ((c - c2 : Nat) : Int) := by omega
  rw [e8]
  clear e8 hwrap
  have N8 := N7.setCount (c - c2)
  have T8 := N8.digT
  refine wpAnyB_takeW (i := 23) (v := ?_) rfl (by kernel_rfl) (by kernel_rfl) (by kernel_rfl) (fun _ _ _ h => h) (Or.inl ⟨by rfl, ?_⟩) ?_
  rotate_left 1
  · intro w hSw; go_simp <;> with_reducible rfl
  try simp only [Act.put, List.setIfInBounds_toArray, List.set_cons_zero, List.set_cons_succ, List.getElem_toArray, List.getElem_cons_succ, List.getElem_cons_zero]
  refine wpAnyB_takeW (i := 24) (v := ?_) rfl (by kernel_rfl) (by kernel_rfl) (by kernel_rfl) (fun _ _ _ h => h) (Or.inl ⟨by rfl, ?_⟩) ?_
  rotate_left 1
  · intro w hSw; go_simp <;> with_reducible rfl
  try simp only [Act.put, List.setIfInBounds_toArray, List.set_cons_zero, List.set_cons_succ, List.getElem_toArray, List.getElem_cons_succ, List.getElem_cons_zero]
  refine wpAnyB_step (i := 25) (by kernel_rfl) rfl (fun Kq hKq => ?_)
  refine step_st47 rfl rfl (.tmp 85) (.tmp 81) rfl nb 3 (s - s2) rfl rfl T8 ?_
  refine hKq.out _ _ (fun h => absurd h (by decide)) ?_
  clear hKq Kq
  try simp only [Act.put, List.setIfInBounds_toArray, List.set_cons_zero, List.set_cons_succ, List.getElem_toArray, List.getElem_cons_succ, List.getElem_cons_zero]
  refine wpAnyB_done (by kernel_rfl) ?_ _
  have N9 := N8.setDig (s - s2)
  have kF : Kept (· = nb) V ((w'.setCell ⟨nb, 2, none⟩ (.int .i64 ((c - c2 : Nat) : Int))).setCells nb 3 (dgc (s - s2))) := kept_sets (kept_set (Kept.of_below hb7) _ _) _ _
  generalize (w'.setCell ⟨nb, 2, none⟩ (.int .i64 ((c - c2 : Nat) : Int))).setCells nb 3 (dgc (s - s2)) = Z at *
  clear hA N7 c7 f7 N8 T8 hHeld hb7 hw' d1 d2
  go_wp2_with fail
  go_ret
  have e1 := hks.out
  have e3 := hkl.out
  rw [← hh.out]
  have hndI := I3.hNodup
  simp only [List.nodup_cons, List.mem_cons, not_or] at hndI
  refine ⟨nb2, kb2, cb2, xs2, ps2, W.heap.size, w.heap.size, xs.take h ++ List.replicate (33 - h) 0, ps.take h ++ List.replicate (33 - h) (.pointer none), rfl, ?_, I3.of_blocks ?_, ⟨by omega, by omega, by omega, by omega, Nat.le_refl _⟩, ?_, kV.trans kF⟩
  · have hownlt : ∀ x ∈ ownOf (es.take h), x < w.heap.size := fun x hx => by
      obtain ⟨e, he, hx⟩ := List.mem_flatMap.1 hx
      exact (hk e (List.mem_of_mem_take he)).2.2.lt x hx
    refine { hOwn := rfl, hNodup := ?_, hN := by rw [List.length_take]; omega, hPos := by omega, hXs := by rw [List.length_append, List.length_take, List.length_replicate]; omega, hTake := ?_, hSmall := ?_, hLe := by omega, hPs := by rw [List.length_append, List.length_take, List.length_replicate]; omega, hTakeP := ?_, hOne := ?_, hLeC := by omega, hKs := rfl, hNode := ?_, hKeys := BK3.kept kF (by omega), hKids := BC5.kept kF (by omega), hOrd := F.hOrd.sublist (List.take_sublist _ _) }
    · simp only [List.nodup_cons, List.mem_cons, not_or]
      refine ⟨⟨by omega, by omega, fun hm => ?_⟩, ⟨by omega, fun hm => by have := hownlt _ hm; omega⟩, fun hm => by have := hownlt _ hm; omega, ?_⟩
      · obtain ⟨e, he, hx⟩ := List.mem_flatMap.1 hm
        exact hn3 (mem_ownOf (List.mem_of_mem_take he) hx)
      · rw [← List.take_append_drop h es, ownOf_append] at hnodup
        exact (List.nodup_append.1 hnodup).1
    · rw [List.take_append_of_le_length (by rw [List.length_take]; omega), List.take_take, Nat.min_self, List.map_take, ← F.hTake, List.take_take, Nat.min_eq_left (by omega)]
    · intro x hx
      rcases List.mem_append.1 hx with h1 | h1
      · exact F.hSmall x (List.mem_of_mem_take h1)
      · rw [(List.mem_replicate.1 h1).2]; decide
    · rw [List.take_append_of_le_length (by rw [List.length_take]; omega), List.take_take, Nat.min_self, List.map_take, ← F.hTakeP, List.take_take, Nat.min_eq_left (by omega)]
    · intro u hu
      rcases List.mem_append.1 hu with h1 | h1
      · exact hone u (List.mem_of_mem_take h1)
      · rw [(List.mem_replicate.1 h1).2]; rfl
    · have e4 : c - c2 = (keysOf (es.take h)).length := by have := hgc.out; have := hgc2.out; omega
      have e5 : s - s2 = (keysOf (es.take h)).sum := by have := hgs.out; have := hgs2.out; omega
      rw [← e4, ← e5]
      exact N9
  · intro b hb
    simp at hb
    rcases hb with rfl | rfl | rfl
    · exact kF.block _ I3.hNode.lt (by omega)
    · exact kF.block _ I3.hKeys.lt (by omega)
    · exact kF.block _ I3.hKids.lt (by omega)
  · simp only [List.nodup_cons, List.mem_cons, not_or, List.not_mem_nil, not_false_eq_true, and_true, List.nodup_nil]
    exact ⟨⟨hndI.1.1, hndI.1.2.1, by omega, by omega⟩, ⟨hndI.2.1.1, by omega, by omega⟩, ⟨by omega, by omega⟩, by omega⟩
end Go.Proofs.Ybulkbqza
