/-
  Seat b3380a. nodeOf at an inner node.
-/
import Derived.Test.YbulkbqzaHeld
namespace Go.Proofs.Ybulkbqza
open Go.RowKit
set_option linter.unusedVariables false
set_option maxRecDepth 100000
set_option linter.unusedSimpArgs false

set_option maxHeartbeats 1000000 in
theorem nodeOf_inner (d b off c cb' coff c' : Nat) (es : List Kid) (w : World) (hb : b < w.heap.size) (hI : Ids w b off (es.map Kid.bd)) (hcb : cb' < w.heap.size) (hP : w.rangeAt cb' coff (es.map fun e => ptr e.nb))
    (hlen : es.length ≤ 33) (hpos : 0 < es.length) (hk : ∀ e ∈ es, 16 ≤ e.n ∧ e.n ≤ 32 ∧ Tree d 33 33 w e.nb e.ks e.n e.own) (hord : Ord es) (hnd : (ownOf es).Nodup) (hbd : ∀ e ∈ es, e.bd < 4294967296)
    (hsum : (keysOf es).sum < 18446744073709551616) (hcnt : (keysOf es).length < 1099511627776) :
    Calls Yba.prog 22 #[.slice (some ⟨b, off, none⟩) es.length c, .slice (some ⟨cb', coff, none⟩) es.length c', .func (.func 10) #[] #[]] w fun e w' => ∃ nb kb cb xs ps, e = .returned (ptr nb) ∧ Inner 33 33 w' nb (keysOf es) es.length (nb :: kb :: cb :: ownOf es) kb cb xs ps es ∧ (w.heap.size ≤ nb ∧ w.heap.size ≤ kb ∧ w.heap.size ≤ cb) ∧ Below w.heap.size w w' := by
  have en := eql_nil
  obtain ⟨xs, hxs⟩ : ∃ xs, xs = es.map Kid.bd := ⟨_, rfl⟩
  obtain ⟨qs, hqs⟩ : ∃ qs, qs = es.map fun e => ptr e.nb := ⟨_, rfl⟩
  have hxl : xs.length = es.length := by rw [hxs, List.length_map]
  have hql : qs.length = es.length := by rw [hqs, List.length_map]
  have hq1 : ∀ u ∈ qs, u.oneCell' = true := by
    intro u hu
    rw [hqs] at hu
    obtain ⟨e, _, rfl⟩ := List.mem_map.1 hu
    rfl
  rw [← hxs] at hI
  rw [← hqs] at hP
  have hilen : (ids xs).length = es.length * 20 := by rw [ids_length, hxl]
  have hqlen : qs.length = es.length * 1 := by omega
  go_enter Yba.func22, Yba.ntmps22
  go_wp2_with (first
    | (refine mk30 rfl _ _ rfl .i64 .i64 0 33 0 33 ?_ ?_ rfl rfl (by decide) (by decide) ?_; rfl; rfl; intro w1 B1 b1 s1; have T1 : w1.there w.heap.size (0 + 0 * 20) (es.length * 20) := B1.idsT (k := 0) (by simpa using hlen); have hc1 := (hI.below hb b1).cells)
    | (at_builtin; refine app_room rfl (.tmp 10) (.tmp 11) 28 rfl 30 20 Yba.underlying28 info30_q w.heap.size 0 0 33 ?_ ⟨b, off, none⟩ es.length c (ids xs) ?_ hilen hc1 (ids_one xs) (by omega) T1 ?_; rfl; rfl
       have B2 := B1.idsS (k := 0) (ys := xs) (by rw [hxl]; simpa using hlen)
       have b2 : Below w.heap.size w (w1.setCells w.heap.size (0 + 0 * 20) (ids xs)) := Below.setCells b1 (Nat.le_refl _) _ _
       have s2 : (w1.setCells w.heap.size (0 + 0 * 20) (ids xs)).heap.size = w.heap.size + 1 := by rw [size_setCells, s1]
       simp only [Nat.zero_mul, Nat.zero_add, Nat.add_zero] at B2 b2 s2 ⊢
       generalize w1.setCells w.heap.size 0 (ids xs) = w2 at *)
    | (refine bx rfl (.tmp 13) rfl (nd (.slice (some ⟨w.heap.size, 0, none⟩) es.length 33) (.slice none 0 0) 0 0) (w.heap.size + 1) ?_ s2 ?_; rfl; intro w3 N3 b3 s3; have h3 := b2.trans (b3.mono (Nat.le_succ _)); have B3 := B2.of_block (b3.block _ (Nat.lt_succ_self _)))
    | (refine mk57 rfl _ _ rfl .i64 .i64 0 33 0 33 ?_ ?_ rfl rfl (by decide) (by decide) ?_; rfl; rfl; rw [s3]; intro w4 C4 b4 s4
       have T4 : w4.there (w.heap.size + 1 + 1) (0 + 0 * 1) (es.length * 1) := C4.there (by simp; omega)
       have hc4 : ∀ j u, qs[j]? = some u → w4.cell? ((⟨cb', coff, none⟩ : Addr).add j) = some u := fun j u hu => by
         rw [Addr.add_mid]
         exact ((h3.trans (b4.mono (by omega))).cell (p := ⟨cb', coff + j, none⟩) hcb).trans (hP j u hu))
    | (at_builtin; refine app_room rfl (.tmp 30) (.tmp 31) 57 rfl 32 1 Yba.underlying57 info32_q (w.heap.size + 1 + 1) 0 0 33 ?_ ⟨cb', coff, none⟩ es.length c' qs ?_ hqlen hc4 hq1 (by omega) T4 ?_; rfl; rfl
       have C5 : Blk (w4.setCells (w.heap.size + 1 + 1) (0 + 0 * 1) qs) (w.heap.size + 1 + 1) (qs ++ List.replicate (33 - es.length) (.pointer none)) 32 := by
         have := C4.setCells (o := 0 + 0 * 1) (vs := qs)
         rwa [splice_eq _ _ _ (by simp; omega), show 0 + 0 * 1 + qs.length = es.length by omega, show 0 + 0 * 1 = 0 by omega, List.take_zero, List.nil_append, List.drop_replicate] at this
       have b5 : Below w.heap.size w (w4.setCells (w.heap.size + 1 + 1) (0 + 0 * 1) qs) := Below.setCells (h3.trans (b4.mono (by omega))) (by omega) _ _
       have N5 := (N3.of_block (b4.block _ (by omega))).setCellsOther (b' := w.heap.size + 1 + 1) (by omega) (0 + 0 * 1) qs
       have B5 := (B3.of_block (b4.block _ (by omega))).setCellsOther (b' := w.heap.size + 1 + 1) (by omega) (0 + 0 * 1) qs
       simp only [Nat.zero_mul, Nat.zero_add, Nat.add_zero] at C5 b5 N5 B5 ⊢
       generalize w4.setCells (w.heap.size + 1 + 1) 0 qs = w5 at *
       have c5 : w5.cell? ⟨w.heap.size + 1, 1, none⟩ = some (.slice none 0 0) := N5.cell 1
       have f5 := N5.frozen 1))
  have N6 := N5.setKids (.slice (some ⟨w.heap.size + 1 + 1, 0, none⟩) es.length 33)
  have B6 := B5.setOther (p := ⟨w.heap.size + 1, 1, none⟩) (by simp) (.slice (some ⟨w.heap.size + 1 + 1, 0, none⟩) es.length 33)
  have C6 := C5.setOther (p := ⟨w.heap.size + 1, 1, none⟩) (by simp) (.slice (some ⟨w.heap.size + 1 + 1, 0, none⟩) es.length 33)
  have b6 := b5.setCell (p := ⟨w.heap.size + 1, 1, none⟩) (Nat.le_succ _) (.slice (some ⟨w.heap.size + 1 + 1, 0, none⟩) es.length 33)
  generalize w5.setCell ⟨w.heap.size + 1, 1, none⟩ (.slice (some ⟨w.heap.size + 1 + 1, 0, none⟩) es.length 33) = W at *
  rw [List.take_zero, List.nil_append, List.drop_replicate] at B6
  clear N5 B5 C5 b5 c5 f5 C4 T4 hc4 N3 B3 b3 s3 h3 b4 s4 B2 b2 s2 B1 b1 s1 T1 hc1
  go_loopg [37] es.length (fun k s37 wr => ∃ i : Nat, s37 = .int .i64 i ∧ i + k = es.length ∧
      Blk wr (w.heap.size + 1) (nd (.slice (some ⟨w.heap.size, 0, none⟩) es.length 33) (.slice (some ⟨w.heap.size + 1 + 1, 0, none⟩) es.length 33) (keysOf (es.take i)).length (keysOf (es.take i)).sum) 63 ∧
      Blk wr w.heap.size (ids (xs ++ List.replicate (33 - xs.length) 0)) 30 ∧ Blk wr (w.heap.size + 1 + 1) (qs ++ List.replicate (33 - es.length) (.pointer none)) 32 ∧ Below w.heap.size w wr)
  case atStart => exact ⟨0, rfl, by omega, N6, B6, C6, b6⟩
  case round =>
    clear N6 B6 C6 b6
    obtain ⟨i, rfl, hik, N6, B6, C6, b6⟩ := hrel
    cases gk with
    | zero =>
      obtain rfl : i = es.length := by omega
      rw [List.take_length] at N6
      go_wp2_with fail
      go_ret
      refine ⟨w.heap.size + 1, w.heap.size, w.heap.size + 1 + 1, xs ++ List.replicate (33 - xs.length) 0, qs ++ List.replicate (33 - es.length) (.pointer none), rfl, ?_, ⟨by omega, by omega, by omega⟩, b6⟩
      · have hlt : ∀ x ∈ ownOf es, x < w.heap.size := fun x hx => by
          obtain ⟨e, he, hx⟩ := List.mem_flatMap.1 hx
          exact (hk e he).2.2.lt x hx
        refine { hOwn := rfl, hNodup := ?_, hN := rfl, hPos := hpos, hXs := by simp; omega, hTake := ?_, hSmall := ?_, hLe := hlen, hPs := by simp; omega, hTakeP := ?_, hOne := ?_, hLeC := hlen, hKs := rfl, hNode := N6, hKeys := B6, hKids := C6, hOrd := hord }
        · simp only [List.nodup_cons, List.mem_cons, not_or]
          exact ⟨⟨by omega, by omega, fun h => by have := hlt _ h; omega⟩, ⟨by omega, fun h => by have := hlt _ h; omega⟩, fun h => by have := hlt _ h; omega, hnd⟩
        · rw [← hxs, ← hxl, List.take_left]
        · intro x hx
          rcases List.mem_append.1 hx with h | h
          · rw [hxs] at h
            obtain ⟨e, he, rfl⟩ := List.mem_map.1 h
            exact hbd e he
          · rw [(List.mem_replicate.1 h).2]; decide
        · rw [← hqs, ← hql, List.take_left]
        · intro u hu
          rcases List.mem_append.1 hu with h | h
          · exact hq1 u h
          · rw [(List.mem_replicate.1 h).2]; rfl
    | succ m =>
      have hi : i < es.length := by omega
      have hlt' : (i : Int) < es.length := by omega
      obtain ⟨e, hei⟩ : ∃ e, es[i]? = some e := ⟨_, List.getElem?_eq_getElem hi⟩
      have hem := List.mem_of_getElem? hei
      obtain ⟨_, _, te⟩ := hk e hem
      obtain ⟨hnbo, kb2, q2, xs2, _, NE, _⟩ := (te.below b6).node
      have hne : e.nb ≠ w.heap.size + 1 := by have := te.lt _ hnbo; omega
      have hcell : wr.cell? ⟨cb', coff + i, none⟩ = some (.pointer (some ⟨e.nb, 0, none⟩)) := by
        rw [b6.cell (p := ⟨cb', coff + i, none⟩) hcb]
        exact hP i _ (by rw [hqs, List.getElem?_map, hei]; rfl)
      have e1 : keysOf (es.take (i + 1)) = keysOf (es.take i) ++ e.ks := by
        rw [List.take_add_one, hei, keysOf_append]
        simp [keysOf]
      have e2 : keysOf es = keysOf (es.take (i + 1)) ++ keysOf (es.drop (i + 1)) := by rw [← keysOf_append, List.take_append_drop]
      have e3 : Hid ((keysOf (es.take i)).length + e.ks.length = (keysOf (es.take (i + 1))).length ∧ (keysOf (es.take i)).sum + e.ks.sum = (keysOf (es.take (i + 1))).sum) := by rw [e1]; exact ⟨by simp, by simp⟩
      have e4 : (keysOf (es.take i)).sum + e.ks.sum < 18446744073709551616 := by
        have h1 := e3.out.2
        rw [e2, List.sum_append] at hsum
        omega
      have e5 : (keysOf (es.take i)).length + e.ks.length < 1099511627776 := by
        have h1 := e3.out.1
        rw [e2, List.length_append] at hcnt
        omega
      have hszw := b6.size
      clear hI hP hk hord hnd hbd hsum hcnt e1 e2 te hqs hxs
      generalize (keysOf (es.take i)).length = ci at *
      generalize (keysOf (es.take i)).sum = si at *
      generalize e.ks.length = ck at *
      generalize e.ks.sum = sk at *
      generalize e.nb = nb2 at *
      have hA := fun w => add_calls si sk e4 w
      have c1 : wr.cell? ⟨w.heap.size + 1, 2, none⟩ = some (.int .i64 (ci : Nat)) := N6.cell 2
      have c2 : wr.cell? ⟨nb2, 2, none⟩ = some (.int .i64 (ck : Nat)) := NE.cell 2
      have hwrap : IntKind.i64.wrap ((ci : Int) + (ck : Int)) = (ci : Int) + (ck : Int) := by rw [IntKind.wrap_i64]; omega
      go_wp2_with fail
      refine wp_region_B (fun w' => w'.cell? ⟨w.heap.size + 1, 2, none⟩ = some (.int .i64 (ci : Nat)) ∧ w'.cell? ⟨nb2, 2, none⟩ = some (.int .i64 (ck : Nat)) ∧ Below wr.heap.size wr w') (fun j => j != 22 && j != 25) (by kernel_rfl) (⟨by simpa using c1, by simpa using c2, (Below.refl _ wr).drew⟩) (fun hHeld => ?_)
      simp only [List.size_toArray, List.length_cons, List.length_nil, Nat.reduceAdd, Array.replicate_succ, Array.replicate_zero, List.push_toArray, List.append_toArray, List.nil_append, List.cons_append]
      refine wpAnyB_takeW (i := 0) (v := ?_) rfl (by kernel_rfl) (by kernel_rfl) (by kernel_rfl) (fun _ _ _ h => h) (Or.inl ⟨by rfl, ?_⟩) ?_
      rotate_left 1
      · intro w hSw; go_simp <;> with_reducible rfl
      try simp only [Act.put, List.setIfInBounds_toArray, List.set_cons_zero, List.set_cons_succ, List.getElem_toArray, List.getElem_cons_succ, List.getElem_cons_zero]
      refine wpAnyB_takeW (i := 1) (v := ?_) rfl (by kernel_rfl) (by kernel_rfl) (by kernel_rfl) (fun _ _ _ h => h) (Or.inl ⟨by rfl, ?_⟩) ?_
      rotate_left 1
      · intro w hSw; go_simp <;> with_reducible rfl
      try simp only [Act.put, List.setIfInBounds_toArray, List.set_cons_zero, List.set_cons_succ, List.getElem_toArray, List.getElem_cons_succ, List.getElem_cons_zero]
      refine wpAnyB_takeW (i := 2) (v := ?_) rfl (by kernel_rfl) (by kernel_rfl) (by kernel_rfl) (fun _ _ _ h => h) (Or.inl ⟨by rfl, ?_⟩) ?_
      rotate_left 1
      · intro w hSw; go_simp <;> with_reducible rfl
      try simp only [Act.put, List.setIfInBounds_toArray, List.set_cons_zero, List.set_cons_succ, List.getElem_toArray, List.getElem_cons_succ, List.getElem_cons_zero]
      refine wpAnyB_takeW (i := 3) (v := ?_) rfl (by kernel_rfl) (by kernel_rfl) (by kernel_rfl) (fun _ _ _ h => h) (Or.inl ⟨by rfl, ?_⟩) ?_
      rotate_left 1
      · intro w hSw; go_simp <;> with_reducible rfl
      try simp only [Act.put, List.setIfInBounds_toArray, List.set_cons_zero, List.set_cons_succ, List.getElem_toArray, List.getElem_cons_succ, List.getElem_cons_zero]
      refine wpAnyB_takeW (i := 4) (v := ?_) rfl (by kernel_rfl) (by kernel_rfl) (by kernel_rfl) (fun _ _ _ h => h) (Or.inl ⟨by rfl, ?_⟩) ?_
      rotate_left 1
      · intro w hSw; go_simp <;> with_reducible rfl
      try simp only [Act.put, List.setIfInBounds_toArray, List.set_cons_zero, List.set_cons_succ, List.getElem_toArray, List.getElem_cons_succ, List.getElem_cons_zero]
      refine wpAnyB_take (i := 5) (v := ?_) rfl (by kernel_rfl) (by kernel_rfl) (by kernel_rfl) (by kernel_rfl) (fun _ _ _ h => h) (Or.inl ⟨by rfl, ?_⟩) hHeld ?_
      rotate_left 1
      · intro w hSw; (try dsimp only at hSw); obtain ⟨q1, q2, q3⟩ := hSw; go_simp <;> with_reducible rfl
      try simp only [Act.put, List.setIfInBounds_toArray, List.set_cons_zero, List.set_cons_succ, List.getElem_toArray, List.getElem_cons_succ, List.getElem_cons_zero]
      refine wpAnyB_takeW (i := 6) (v := ?_) rfl (by kernel_rfl) (by kernel_rfl) (by kernel_rfl) (fun _ _ _ h => h) (Or.inl ⟨by rfl, ?_⟩) ?_
      rotate_left 1
      · intro w hSw; go_simp <;> with_reducible rfl
      try simp only [Act.put, List.setIfInBounds_toArray, List.set_cons_zero, List.set_cons_succ, List.getElem_toArray, List.getElem_cons_succ, List.getElem_cons_zero]
      refine wpAnyB_takeW (i := 7) (v := ?_) rfl (by kernel_rfl) (by kernel_rfl) (by kernel_rfl) (fun _ _ _ h => h) (Or.inl ⟨by rfl, ?_⟩) ?_
      rotate_left 1
      · intro w hSw; go_simp <;> with_reducible rfl
      try simp only [Act.put, List.setIfInBounds_toArray, List.set_cons_zero, List.set_cons_succ, List.getElem_toArray, List.getElem_cons_succ, List.getElem_cons_zero]
      refine wpAnyB_takeW (i := 8) (v := ?_) rfl (by kernel_rfl) (by kernel_rfl) (by kernel_rfl) (fun _ _ _ h => h) (Or.inl ⟨by rfl, ?_⟩) ?_
      rotate_left 1
      · intro w hSw; go_simp <;> with_reducible rfl
      try simp only [Act.put, List.setIfInBounds_toArray, List.set_cons_zero, List.set_cons_succ, List.getElem_toArray, List.getElem_cons_succ, List.getElem_cons_zero]
      refine wpAnyB_take (i := 9) (v := ?_) rfl (by kernel_rfl) (by kernel_rfl) (by kernel_rfl) (by kernel_rfl) (fun _ _ _ h => h) (Or.inl ⟨by rfl, ?_⟩) hHeld ?_
      rotate_left 1
      · intro w hSw; (try dsimp only at hSw); obtain ⟨q1, q2, q3⟩ := hSw; go_simp <;> with_reducible rfl
      try simp only [Act.put, List.setIfInBounds_toArray, List.set_cons_zero, List.set_cons_succ, List.getElem_toArray, List.getElem_cons_succ, List.getElem_cons_zero]
      refine wpAnyB_takeW (i := 10) (v := ?_) rfl (by kernel_rfl) (by kernel_rfl) (by kernel_rfl) (fun _ _ _ h => h) (Or.inl ⟨by rfl, ?_⟩) ?_
      rotate_left 1
      · intro w hSw; go_simp <;> with_reducible rfl
      try simp only [Act.put, List.setIfInBounds_toArray, List.set_cons_zero, List.set_cons_succ, List.getElem_toArray, List.getElem_cons_succ, List.getElem_cons_zero]
      refine wpAnyB_takeW (i := 11) (v := ?_) rfl (by kernel_rfl) (by kernel_rfl) (by kernel_rfl) (fun _ _ _ h => h) (Or.inl ⟨by rfl, ?_⟩) ?_
      rotate_left 1
      · intro w hSw; go_simp <;> with_reducible rfl
      try simp only [Act.put, List.setIfInBounds_toArray, List.set_cons_zero, List.set_cons_succ, List.getElem_toArray, List.getElem_cons_succ, List.getElem_cons_zero]
      refine wpAnyB_takeW (i := 12) (v := ?_) rfl (by kernel_rfl) (by kernel_rfl) (by kernel_rfl) (fun _ _ _ h => h) (Or.inl ⟨by rfl, ?_⟩) ?_
      rotate_left 1
      · intro w hSw; go_simp <;> with_reducible rfl
      try simp only [Act.put, List.setIfInBounds_toArray, List.set_cons_zero, List.set_cons_succ, List.getElem_toArray, List.getElem_cons_succ, List.getElem_cons_zero]
      refine wpAnyB_takeW (i := 13) (v := ?_) rfl (by kernel_rfl) (by kernel_rfl) (by kernel_rfl) (fun _ _ _ h => h) (Or.inl ⟨by rfl, ?_⟩) ?_
      rotate_left 1
      · intro w hSw; go_simp <;> with_reducible rfl
      try simp only [Act.put, List.setIfInBounds_toArray, List.set_cons_zero, List.set_cons_succ, List.getElem_toArray, List.getElem_cons_succ, List.getElem_cons_zero]
      refine wpAnyB_load47 (i := 14) rfl (by kernel_rfl) (by kernel_rfl) (by kernel_rfl) (by kernel_rfl) (w.heap.size + 1) (3) (si) (.tmp 54) rfl rfl (fun _ _ _ h => h) (by rfl) (fun w hSw => rangeAt_of_block N6.digR (hSw.2.2.block _ N6.lt)) hHeld ?_
      try simp only [Act.put, List.setIfInBounds_toArray, List.set_cons_zero, List.set_cons_succ, List.getElem_toArray, List.getElem_cons_succ, List.getElem_cons_zero]
      refine wpAnyB_takeW (i := 15) (v := ?_) rfl (by kernel_rfl) (by kernel_rfl) (by kernel_rfl) (fun _ _ _ h => h) (Or.inl ⟨by rfl, ?_⟩) ?_
      rotate_left 1
      · intro w hSw; go_simp <;> with_reducible rfl
      try simp only [Act.put, List.setIfInBounds_toArray, List.set_cons_zero, List.set_cons_succ, List.getElem_toArray, List.getElem_cons_succ, List.getElem_cons_zero]
      refine wpAnyB_takeW (i := 16) (v := ?_) rfl (by kernel_rfl) (by kernel_rfl) (by kernel_rfl) (fun _ _ _ h => h) (Or.inl ⟨by rfl, ?_⟩) ?_
      rotate_left 1
      · intro w hSw; go_simp <;> with_reducible rfl
      try simp only [Act.put, List.setIfInBounds_toArray, List.set_cons_zero, List.set_cons_succ, List.getElem_toArray, List.getElem_cons_succ, List.getElem_cons_zero]
      refine wpAnyB_takeW (i := 17) (v := ?_) rfl (by kernel_rfl) (by kernel_rfl) (by kernel_rfl) (fun _ _ _ h => h) (Or.inl ⟨by rfl, ?_⟩) ?_
      rotate_left 1
      · intro w hSw; go_simp <;> with_reducible rfl
      try simp only [Act.put, List.setIfInBounds_toArray, List.set_cons_zero, List.set_cons_succ, List.getElem_toArray, List.getElem_cons_succ, List.getElem_cons_zero]
      refine wpAnyB_load47 (i := 18) rfl (by kernel_rfl) (by kernel_rfl) (by kernel_rfl) (by kernel_rfl) (nb2) (3) (sk) (.tmp 58) rfl rfl (fun _ _ _ h => h) (by rfl) (fun w hSw => rangeAt_of_block NE.digR (hSw.2.2.block _ NE.lt)) hHeld ?_
      try simp only [Act.put, List.setIfInBounds_toArray, List.set_cons_zero, List.set_cons_succ, List.getElem_toArray, List.getElem_cons_succ, List.getElem_cons_zero]
      refine wpAnyB_step (i := 19) (by kernel_rfl) rfl (fun Kq hKq => ?_)
      go_simp
      refine (hA _).mono ?_
      rintro e w' ⟨rfl, hw'⟩
      dsimp only
      have hb7 : Below wr.heap.size wr w' := hHeld.2.2.trans (hw'.mono hHeld.2.2.size)
      have hHeld := (⟨(hb7.cell (p := ⟨w.heap.size + 1, 2, none⟩) N6.lt).trans c1, (hb7.cell (p := ⟨nb2, 2, none⟩) NE.lt).trans c2, hb7⟩ : _ ∧ _ ∧ _)
      refine hKq.out _ _ (fun _ _ => hHeld) ?_
      clear hKq Kq
      try simp only [Act.put, List.setIfInBounds_toArray, List.set_cons_zero, List.set_cons_succ, List.getElem_toArray, List.getElem_cons_succ, List.getElem_cons_zero]
      refine wpAnyB_takeW (i := 20) (v := ?_) rfl (by kernel_rfl) (by kernel_rfl) (by kernel_rfl) (fun _ _ _ h => h) (Or.inl ⟨by rfl, ?_⟩) ?_
      rotate_left 1
      · intro w hSw; go_simp <;> with_reducible rfl
      try simp only [Act.put, List.setIfInBounds_toArray, List.set_cons_zero, List.set_cons_succ, List.getElem_toArray, List.getElem_cons_succ, List.getElem_cons_zero]
      refine wpAnyB_takeW (i := 21) (v := ?_) rfl (by kernel_rfl) (by kernel_rfl) (by kernel_rfl) (fun _ _ _ h => h) (Or.inl ⟨by rfl, ?_⟩) ?_
      rotate_left 1
      · intro w hSw; go_simp <;> with_reducible rfl
      try simp only [Act.put, List.setIfInBounds_toArray, List.set_cons_zero, List.set_cons_succ, List.getElem_toArray, List.getElem_cons_succ, List.getElem_cons_zero]
      have N7 := N6.below hb7
      have c7 : w'.cell? ⟨w.heap.size + 1, 2, none⟩ = some (.int .i64 (ci : Nat)) := N7.cell 2
      have f7 := N7.frozen 2
      refine wpAnyB_step (i := 22) (by kernel_rfl) rfl (fun Kq hKq => ?_)
      go_simp
      refine hKq.out _ _ (fun h => absurd h (by decide)) ?_
      clear hKq Kq
      try simp only [Act.put, List.setIfInBounds_toArray, List.set_cons_zero, List.set_cons_succ, List.getElem_toArray, List.getElem_cons_succ, List.getElem_cons_zero]
      have e8 : (ci : Int) + (ck : Int) = ((ci + ck : Nat) : Int) := by omega
      rw [e8]
      clear e8 hwrap
      have N8 := N7.setCount (ci + ck)
      have T8 := N8.digT
      refine wpAnyB_takeW (i := 23) (v := ?_) rfl (by kernel_rfl) (by kernel_rfl) (by kernel_rfl) (fun _ _ _ h => h) (Or.inl ⟨by rfl, ?_⟩) ?_
      rotate_left 1
      · intro w hSw; go_simp <;> with_reducible rfl
      try simp only [Act.put, List.setIfInBounds_toArray, List.set_cons_zero, List.set_cons_succ, List.getElem_toArray, List.getElem_cons_succ, List.getElem_cons_zero]
      refine wpAnyB_takeW (i := 24) (v := ?_) rfl (by kernel_rfl) (by kernel_rfl) (by kernel_rfl) (fun _ _ _ h => h) (Or.inl ⟨by rfl, ?_⟩) ?_
      rotate_left 1
      · intro w hSw; go_simp <;> with_reducible rfl
      try simp only [Act.put, List.setIfInBounds_toArray, List.set_cons_zero, List.set_cons_succ, List.getElem_toArray, List.getElem_cons_succ, List.getElem_cons_zero]
      refine wpAnyB_step (i := 25) (by kernel_rfl) rfl (fun Kq hKq => ?_)
      refine step_st47 rfl rfl (.tmp 64) (.tmp 60) rfl (w.heap.size + 1) 3 (si + sk) rfl rfl T8 ?_
      refine hKq.out _ _ (fun h => absurd h (by decide)) ?_
      clear hKq Kq
      try simp only [Act.put, List.setIfInBounds_toArray, List.set_cons_zero, List.set_cons_succ, List.getElem_toArray, List.getElem_cons_succ, List.getElem_cons_zero]
      refine wpAnyB_done (by kernel_rfl) ?_ _
      have N9 := N8.setDig (si + sk)
      have B9 := ((B6.below hb7).setOther (p := ⟨w.heap.size + 1, 2, none⟩) (by simp) (.int .i64 ((ci + ck : Nat) : Int))).setCellsOther (b' := w.heap.size + 1) (by omega) 3 (dgc (si + sk))
      have C9 := ((C6.below hb7).setOther (p := ⟨w.heap.size + 1, 2, none⟩) (by simp) (.int .i64 ((ci + ck : Nat) : Int))).setCellsOther (b' := w.heap.size + 1) (by omega) 3 (dgc (si + sk))
      have b9 := Below.setCells ((b6.trans (hb7.mono hszw)).setCell (p := ⟨w.heap.size + 1, 2, none⟩) (Nat.le_succ _) (.int .i64 ((ci + ck : Nat) : Int))) (b := w.heap.size + 1) (Nat.le_succ _) 3 (dgc (si + sk))
      clear hA N7 c7 f7 N8 T8 hHeld hb7 hw' c1 c2 N6 B6 C6 b6
      go_wp2_with fail
      go_roundg m
      case measure => omega
      case rel =>
        refine ⟨i + 1, by simp, by omega, ?_, B9, C9, b9⟩
        rw [← e3.out.1, ← e3.out.2]
        exact N9
end Go.Proofs.Ybulkbqza
