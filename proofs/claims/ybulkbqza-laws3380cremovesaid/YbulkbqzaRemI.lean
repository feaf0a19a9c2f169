/-
  Seat b3380a. treeNode.remove.
-/
import Derived.Test.YbulkbqzaRemL
namespace Go.Proofs.Ybulkbqza
open Go.RowKit
set_option linter.unusedVariables false
set_option maxRecDepth 100000
set_option linter.unusedSimpArgs false

theorem Ord.tail_sorted {es : List Kid} (ho : Ord es) (hne : ∀ e ∈ es, e.ks ≠ []) : (es.map Kid.bd).tail.Pairwise (· < ·) := by
  cases es with
  | nil => exact List.Pairwise.nil
  | cons f t =>
    rw [List.map_cons, List.tail_cons, List.pairwise_map]
    rw [Ord, List.pairwise_cons] at ho
    refine List.Pairwise.imp_of_mem ?_ ho.2
    intro a b ha hb hab
    obtain ⟨x, hx⟩ := List.exists_mem_of_ne_nil _ (hne a (by simp [ha]))
    have h1 := hab.1 x hx
    have h2 := (ho.1 a ha).2 x hx
    omega

theorem erase_keysOf {A Z : List Kid} {e : Kid} {v : Nat} (hA : ∀ a ∈ A, v ∉ a.ks) (hZ : ∀ z ∈ Z, v ∉ z.ks) (e' : Kid) (he : e'.ks = e.ks.erase v) : keysOf (A ++ e' :: Z) = (keysOf (A ++ e :: Z)).erase v ∧ (v ∈ keysOf (A ++ e :: Z) ↔ v ∈ e.ks) := by
  have h1 : v ∉ keysOf A := fun h => by
    obtain ⟨a, ha, h⟩ := List.mem_flatMap.1 h
    exact hA a ha h
  have h2 : v ∉ keysOf Z := fun h => by
    obtain ⟨a, ha, h⟩ := List.mem_flatMap.1 h
    exact hZ a ha h
  rw [keysOf_append, keysOf_append, keysOf_cons, keysOf_cons, he]
  constructor
  · rw [List.erase_append_right _ h1]
    by_cases hm : v ∈ e.ks
    · rw [List.erase_append_left _ hm]
    · rw [List.erase_append_right _ hm, List.erase_of_not_mem hm, List.erase_of_not_mem h2]
  · simp [h1, h2]

set_option maxHeartbeats 2000000 in
theorem remove_inner (d : Nat) (IH : ∀ (w : World) (nb : Nat) (ks : List Nat) (n : Nat) (own : List Nat) (v : Nat), Tree d 33 33 w nb ks n own → 2 ≤ n → v < 4294967296 → ks.sum < 18446744073709551616 → ks.length < 1099511627776 →
      Calls Yba.prog 25 #[.pointer (some ⟨nb, 0, none⟩), .agg (idc v).toArray, .agg (dgc v).toArray, .func (.func 10) #[] #[]] w fun e w' => e = .returned (.bool (decide (v ∈ ks))) ∧ RemOut d w w' nb ks v n own)
    (w : World) (nb : Nat) (ks : List Nat) (n : Nat) (own : List Nat) (v : Nat) (T : Tree (d + 1) 33 33 w nb ks n own) (hn2 : 2 ≤ n) (hv : v < 4294967296) (hsum : ks.sum < 18446744073709551616) (hcnt : ks.length < 1099511627776) :
    Calls Yba.prog 25 #[.pointer (some ⟨nb, 0, none⟩), .agg (idc v).toArray, .agg (dgc v).toArray, .func (.func 10) #[] #[]] w fun e w' => e = .returned (.bool (decide (v ∈ ks))) ∧ RemOut (d + 1) w w' nb ks v n own := by
  have T0 := T
  obtain ⟨kb, cb, xs, ps, es, F, hk⟩ := T
  have en := eql_nil
  have hle := F.hLe
  have hesl := F.hN
  have hks := F.hKs
  have hne : ∀ e ∈ es, e.ks ≠ [] := fun e he => (hk e he).2.2.ne_nil (by have := (hk e he).1; omega)
  obtain ⟨A, e, Z, hes, hAl, hAv, hZv⟩ := chi_kid F.hOrd hne (by omega) v
  have htail : (xs.take n).tail.Pairwise (· < ·) := by rw [F.hTake]; exact F.hOrd.tail_sorted hne
  obtain ⟨i, hi⟩ : ∃ i, i = A.length := ⟨_, rfl⟩
  have hchi : chi (xs.take n) v = i := by rw [F.hTake, hi, hAl]
  have hem : e ∈ es := by rw [hes]; simp
  obtain ⟨he16, he32, TE⟩ := hk e hem
  have hin : i < n := by rw [hesl, hes]; simp; omega
  have hmemk := (erase_keysOf hAv hZv (e := e) (e' := (e.bd, e.nb, e.ks.erase v, 0, [])) rfl).2
  rw [← hes, ← hks] at hmemk
  have hsub : e.ks.sum ≤ ks.sum ∧ e.ks.length ≤ ks.length := by
    rw [hks, hes, keysOf_append, keysOf_cons, List.sum_append, List.sum_append, List.length_append, List.length_append]
    omega
  have hnd := F.hNodup
  rw [F.hOwn] at hnd
  simp only [List.nodup_cons, List.mem_cons, not_or] at hnd
  obtain ⟨⟨n1, n2, n3⟩, ⟨n4, n5⟩, n6, n7⟩ := hnd
  have heo : ∀ b ∈ e.own, b ∈ ownOf es := fun b hb => mem_ownOf hem hb
  have hown : ∀ b ∈ ownOf es, b < w.heap.size := fun b hb => by
    obtain ⟨a, ha, hb⟩ := List.mem_flatMap.1 hb
    exact (hk a ha).2.2.lt b hb
  have hcbi : ps[i]? = some (ptr e.nb) := by
    have : (ps.take n)[i]? = some (ptr e.nb) := by rw [F.hTakeP, hes, List.getElem?_map, hi]; simp
    rwa [List.getElem?_take_of_lt (by omega)] at this
  have hnbw := F.hNode.lt
  have hkbw := F.hKeys.lt
  have hcbw := F.hKids.lt
  replace n1 := Hid.mk' n1
  replace n2 := Hid.mk' n2
  replace n4 := Hid.mk' n4
  replace hi := Hid.mk' hi
  replace hesl := Hid.mk' hesl
  replace hks := Hid.mk' hks
  replace hes := Hid.mk' hes
  replace hmemk := Hid.mk' hmemk
  go_enter Yba.func25, Yba.ntmps25
  have c1 : ∀ o1 o2, ((w.alloc o1).alloc o2).cell? ⟨nb, 1, none⟩ = some (.slice (some ⟨cb, 0, none⟩) n 33) := fun o1 o2 => ((F.hNode.alloc o1).alloc o2).cell 1
  go_upto_region 6 with fail
  have BV : Blk ((w.alloc (.cells (idc v).toArray 30)).alloc (.cells (dgc v).toArray 47)) w.heap.size (idc v) 30 := (Blk.new w _ 30).alloc _
  have BD : Blk ((w.alloc (.cells (idc v).toArray 30)).alloc (.cells (dgc v).toArray 47)) (w.heap.size + 1) (dgc v) 47 := Blk.last _ _ _ (by simp)
  have hb : Below w.heap.size w ((w.alloc (.cells (idc v).toArray 30)).alloc (.cells (dgc v).toArray 47)) := ((Below.refl _ w).alloc (Nat.le_refl _) _).alloc (by simp) _
  generalize (w.alloc (.cells (idc v).toArray 30)).alloc (.cells (dgc v).toArray 47) = w0 at *
  clear c1
  have hCh := child_calls nb kb n v _ _ _ xs w0 (F.hNode.below hb) (F.hKeys.below hb) F.hXs hle F.hPos F.hSmall hv htail
  rw [hchi] at hCh
  have RV := BV.id
  go_wp2_with (first
    | (refine ld30 rfl (.tmp 5) rfl w.heap.size 0 ?_ v ?_ ?_; rfl; exact RV)
    | (go_at_call 41; refine hCh.mono ?_; rintro e0 wr ⟨rfl, hbr⟩))
  replace hb := hb.trans (hbr.mono hb.size)
  replace BV := BV.below hbr
  replace BD := BD.below hbr
  have hw02 : w.heap.size + 2 ≤ wr.heap.size := BD.lt
  clear hCh RV hbr
  have N := F.hNode.below hb
  have KB := F.hKeys.below hb
  have CB := F.hKids.below hb
  have y1 : wr.cell? ⟨nb, 1, none⟩ = some (.slice (some ⟨cb, 0, none⟩) n 33) := N.cell 1
  have y2 : wr.cell? ⟨cb, i, none⟩ = some (.pointer (some ⟨e.nb, 0, none⟩)) := by rw [CB.cell]; exact hcbi
  have hin' : (i : Int) < n := by omega
  have TEr := TE.below hb
  have hIH := fun w1 (h1 : Below wr.heap.size wr w1) => IH w1 e.nb e.ks e.n e.own v (TEr.below h1) (by omega) hv (by omega) (by omega)
  refine wp_region_B (fun w' => w'.cell? ⟨nb, 1, none⟩ = some (.slice (some ⟨cb, 0, none⟩) n 33) ∧ w'.cell? ⟨cb, i, none⟩ = some (.pointer (some ⟨e.nb, 0, none⟩)) ∧ w'.rangeAt w.heap.size 0 (idc v) ∧ w'.rangeAt (w.heap.size + 1) 0 (dgc v)) (fun _ => true) (by kernel_rfl) (⟨by simpa using y1, by simpa using y2, by simpa using BV.id, by simpa using BD.dg⟩) (fun hHeld => ?_)
  simp only [List.size_toArray, List.length_cons, List.length_nil, Nat.reduceAdd, Array.replicate_succ, Array.replicate_zero, List.push_toArray, List.append_toArray, List.nil_append, List.cons_append]
  refine wpAnyB_takeW (i := 0) (v := ?_) rfl (by kernel_rfl) (by kernel_rfl) (by kernel_rfl) (fun _ _ _ h => h) (Or.inl ⟨by rfl, ?_⟩) ?_
  rotate_left 1
  · intro w hSw; go_simp <;> with_reducible rfl
  try simp only [Act.put, List.setIfInBounds_toArray, List.set_cons_zero, List.set_cons_succ, List.getElem_toArray, List.getElem_cons_succ, List.getElem_cons_zero]
  refine wpAnyB_takeW (i := 1) (v := ?_) rfl (by kernel_rfl) (by kernel_rfl) (by kernel_rfl) (fun _ _ _ h => h) (Or.inl ⟨by rfl, ?_⟩) ?_
  rotate_left 1
  · intro w hSw; go_simp <;> with_reducible rfl
  try simp only [Act.put, List.setIfInBounds_toArray, List.set_cons_zero, List.set_cons_succ, List.getElem_toArray, List.getElem_cons_succ, List.getElem_cons_zero]
  refine wpAnyB_takeW (i := 2) (v := ?_) rfl (by kernel_rfl) (by kernel_rfl) (by kernel_rfl) (fun _ _ _ h => h) (Or.inl ⟨by rfl, ?_⟩) ?_
  rotate_left 1
  · intro w hSw; go_simp <;> with_reducible rfl
  try simp only [Act.put, List.setIfInBounds_toArray, List.set_cons_zero, List.set_cons_succ, List.getElem_toArray, List.getElem_cons_succ, List.getElem_cons_zero]
  refine wpAnyB_take (i := 3) (v := ?_) rfl (by kernel_rfl) (by kernel_rfl) (by kernel_rfl) (by kernel_rfl) (fun _ _ _ h => h) (Or.inl ⟨by rfl, ?_⟩) hHeld ?_
  rotate_left 1
  · intro w hSw; (try dsimp only at hSw); obtain ⟨q1, q2, q3⟩ := hSw; go_simp <;> with_reducible rfl
  try simp only [Act.put, List.setIfInBounds_toArray, List.set_cons_zero, List.set_cons_succ, List.getElem_toArray, List.getElem_cons_succ, List.getElem_cons_zero]
  refine wpAnyB_takeW (i := 4) (v := ?_) rfl (by kernel_rfl) (by kernel_rfl) (by kernel_rfl) (fun _ _ _ h => h) (Or.inl ⟨by rfl, ?_⟩) ?_
  rotate_left 1
  · intro w hSw; go_simp <;> with_reducible rfl
  try simp only [Act.put, List.setIfInBounds_toArray, List.set_cons_zero, List.set_cons_succ, List.getElem_toArray, List.getElem_cons_succ, List.getElem_cons_zero]
  refine wpAnyB_takeW (i := 5) (v := ?_) rfl (by kernel_rfl) (by kernel_rfl) (by kernel_rfl) (fun _ _ _ h => h) (Or.inl ⟨by rfl, ?_⟩) ?_
  rotate_left 1
  · intro w hSw; go_simp <;> with_reducible rfl
  try simp only [Act.put, List.setIfInBounds_toArray, List.set_cons_zero, List.set_cons_succ, List.getElem_toArray, List.getElem_cons_succ, List.getElem_cons_zero]
  refine wpAnyB_take (i := 6) (v := ?_) rfl (by kernel_rfl) (by kernel_rfl) (by kernel_rfl) (by kernel_rfl) (fun _ _ _ h => h) (Or.inl ⟨by rfl, ?_⟩) hHeld ?_
  rotate_left 1
  · intro w hSw; (try dsimp only at hSw); obtain ⟨q1, q2, q3⟩ := hSw; go_simp <;> with_reducible rfl
  try simp only [Act.put, List.setIfInBounds_toArray, List.set_cons_zero, List.set_cons_succ, List.getElem_toArray, List.getElem_cons_succ, List.getElem_cons_zero]
  refine wpAnyB_load30 (i := 7) rfl (by kernel_rfl) (by kernel_rfl) (by kernel_rfl) (by kernel_rfl) (w.heap.size) (0) (v) (.tmp 5) rfl rfl (fun _ _ _ h => h) (by rfl) (fun w hSw => hSw.2.2.1) hHeld ?_
  try simp only [Act.put, List.setIfInBounds_toArray, List.set_cons_zero, List.set_cons_succ, List.getElem_toArray, List.getElem_cons_succ, List.getElem_cons_zero]
  refine wpAnyB_load47 (i := 8) rfl (by kernel_rfl) (by kernel_rfl) (by kernel_rfl) (by kernel_rfl) (w.heap.size + 1) (0) (v) (.tmp 6) rfl rfl (fun _ _ _ h => h) (by rfl) (fun w hSw => hSw.2.2.2) hHeld ?_
  try simp only [Act.put, List.setIfInBounds_toArray, List.set_cons_zero, List.set_cons_succ, List.getElem_toArray, List.getElem_cons_succ, List.getElem_cons_zero]
  refine wpAnyB_takeW (i := 9) (v := ?_) rfl (by kernel_rfl) (by kernel_rfl) (by kernel_rfl) (fun _ _ _ h => h) (Or.inl ⟨by rfl, ?_⟩) ?_
  rotate_left 1
  · intro w hSw; go_simp <;> with_reducible rfl
  try simp only [Act.put, List.setIfInBounds_toArray, List.set_cons_zero, List.set_cons_succ, List.getElem_toArray, List.getElem_cons_succ, List.getElem_cons_zero]
  refine wpAnyB_step (i := 10) (by kernel_rfl) rfl (fun Kq hKq => ?_)
  go_simp
  refine (hIH _ (Below.refl _ wr).drew).mono ?_
  rintro e0 w3 ⟨rfl, hrem⟩
  dsimp only
  obtain ⟨m1, own1, T1, hm1a, hm1b, hown1, hkept1, hbel1⟩ := hrem
  have hkeptr : Kept (· ∈ e.own) wr w3 := (Kept.refl _ wr).drew.trans hkept1
  have hHeld := (⟨(hkeptr.cell (p := ⟨nb, 1, none⟩) N.lt (fun h => n3 (heo _ h))).trans y1, (hkeptr.cell (p := ⟨cb, i, none⟩) CB.lt (fun h => n6 (heo _ h))).trans y2, rangeAt_of_block BV.id (hkeptr.block _ BV.lt (fun h => by have := hown _ (heo _ h); omega)), rangeAt_of_block BD.dg (hkeptr.block _ BD.lt (fun h => by have := hown _ (heo _ h); omega))⟩ : _ ∧ _ ∧ _ ∧ _)
  refine hKq.out _ _ (fun _ _ => hHeld) ?_
  clear hKq Kq
  try simp only [Act.put, List.setIfInBounds_toArray, List.set_cons_zero, List.set_cons_succ, List.getElem_toArray, List.getElem_cons_succ, List.getElem_cons_zero]
  refine wpAnyB_takeW (i := 11) (v := ?_) rfl (by kernel_rfl) (by kernel_rfl) (by kernel_rfl) (fun _ _ _ h => h) (Or.inl ⟨by rfl, ?_⟩) ?_
  rotate_left 1
  · intro w hSw; go_simp <;> with_reducible rfl
  try simp only [Act.put, List.setIfInBounds_toArray, List.set_cons_zero, List.set_cons_succ, List.getElem_toArray, List.getElem_cons_succ, List.getElem_cons_zero]
  refine wpAnyB_done (by kernel_rfl) ?_ _
  clear hHeld
  have hsz1 : wr.heap.size ≤ w3.heap.size := hkept1.size
  have hkeptw : Kept (· ∈ e.own) w w3 := (Kept.of_below hb).trans ((Kept.refl _ wr).drew.trans hkept1)
  by_cases hm : v ∈ e.ks
  · have hm' : decide (v ∈ e.ks) = true := decide_eq_true hm
    have hmk : v ∈ ks := hmemk.out.2 hm
    rw [hm']
    replace N := N.kept hkeptr (fun h => n3 (heo _ h))
    replace KB := KB.kept hkeptr (fun h => n5 (heo _ h))
    replace CB := CB.kept hkeptr (fun h => n6 (heo _ h))
    replace BD := BD.kept hkeptr (fun h => by have := hown _ (heo _ h); omega)
    obtain ⟨hnb1, kb1, q1, xs1, _, NE, _⟩ := T1.node
    have z1 : w3.cell? ⟨nb, 1, none⟩ = some (.slice (some ⟨cb, 0, none⟩) n 33) := N.cell 1
    have z2 : w3.cell? ⟨cb, i, none⟩ = some (.pointer (some ⟨e.nb, 0, none⟩)) := by rw [CB.cell]; exact hcbi
    have z3 : w3.cell? ⟨e.nb, 0, none⟩ = some (.slice (some ⟨kb1, 0, none⟩) m1 33) := NE.cell 0
    obtain ⟨e1, he1⟩ : ∃ e1 : Kid, e1 = (e.bd, e.nb, e.ks.erase v, m1, own1) := ⟨_, rfl⟩
    have hkeys1 : Hid (keysOf (A ++ e1 :: Z) = ks.erase v) := by
      show _ = _
      rw [(erase_keysOf hAv hZv (e := e) (e' := e1) (by rw [he1]; rfl)).1, hks.out, ← hes.out]
    have hk1 : ∀ a ∈ A ++ e1 :: Z, (a = e1 ∨ (16 ≤ a.n ∧ a ∈ es)) ∧ a.n ≤ 32 ∧ Tree d 33 33 w3 a.nb a.ks a.n a.own := by
      intro a ha
      have hother : a ∈ es → (∃ X Y, es = X ++ a :: Y ∧ e ∈ X ++ Y) → Tree d 33 33 w3 a.nb a.ks a.n a.own := fun h1 ⟨X, Y, h2, h3⟩ => by
        refine (hk a h1).2.2.kept hkeptw (fun b hb hbe => ?_)
        have q := n7
        rw [h2, ownOf_append, ownOf_cons, List.nodup_append] at q
        rcases List.mem_append.1 h3 with h4 | h4
        · exact q.2.2 b (mem_ownOf h4 hbe) b (List.mem_append_left _ hb) rfl
        · have q2 := q.2.1
          rw [List.nodup_append] at q2
          exact q2.2.2 b hb b (mem_ownOf h4 hbe) rfl
      rcases List.mem_append.1 ha with h1 | h1
      · have hae : a ∈ es := by rw [hes.out]; simp [h1]
        obtain ⟨X, Y, hXY⟩ := List.append_of_mem h1
        exact ⟨.inr ⟨(hk a hae).1, hae⟩, (hk a hae).2.1, hother hae ⟨X, Y ++ e :: Z, by rw [hes.out, hXY]; simp, by simp⟩⟩
      · rcases List.mem_cons.1 h1 with rfl | h1
        · rw [he1]
          exact ⟨.inl rfl, Nat.le_trans hm1a he32, T1⟩
        · have hae : a ∈ es := by rw [hes.out]; simp [h1]
          obtain ⟨X, Y, hXY⟩ := List.append_of_mem h1
          exact ⟨.inr ⟨(hk a hae).1, hae⟩, (hk a hae).2.1, hother hae ⟨A ++ e :: X, Y, by rw [hes.out, hXY]; simp, by simp⟩⟩
    have hown1' : ∀ b ∈ ownOf (A ++ e1 :: Z), b ∈ ownOf es ∨ wr.heap.size ≤ b := by
      intro b hb
      rw [ownOf_append, ownOf_cons] at hb
      rcases List.mem_append.1 hb with h1 | h1
      · exact .inl (by rw [hes.out, ownOf_append]; exact List.mem_append_left _ h1)
      · rcases List.mem_append.1 h1 with h1 | h1
        · rw [he1] at h1
          rcases hown1 b h1 with h2 | h2
          · exact .inl (heo b h2)
          · exact .inr h2
        · exact .inl (by rw [hes.out, ownOf_append, ownOf_cons]; simp [h1])
    have hlt1 : ∀ b ∈ ownOf (A ++ e1 :: Z), b < w3.heap.size := by
      intro b hb
      obtain ⟨a, ha, hb⟩ := List.mem_flatMap.1 hb
      exact (hk1 a ha).2.2.lt b hb
    have Sh : Shell w3 nb n ks.length ks.sum kb cb xs ps (A ++ e1 :: Z) := by
      refine { hNodup := ?_, hN := by rw [hesl.out, hes.out]; simp, hXs := F.hXs, hTake := by rw [F.hTake, hes.out, he1]; simp [Kid.bd], hSmall := F.hSmall, hLe := hle, hPs := F.hPs, hTakeP := by rw [F.hTakeP, hes.out, he1]; simp [Kid.nb], hOne := F.hOne, hNode := N, hKeys := KB, hKids := CB, hOrd := ?_ }
      · have q := F.hNodup
        rw [F.hOwn, hes.out, ownOf_append, ownOf_cons] at q
        have := own_swap (P := nb :: kb :: cb :: ownOf A) (X := e.own) (Q := ownOf Z) (Y := own1) (m := w.heap.size) (by simpa using q) T1.nodup (fun y hy => by
          rcases hown1 y hy with h | h
          · exact .inl h
          · have : wr.heap.size ≤ y := h
            exact .inr (by omega)) (by
          intro x hx
          simp only [List.cons_append, List.mem_cons, List.mem_append] at hx
          rcases hx with rfl | rfl | rfl | hx | hx
          · exact hnbw
          · exact hkbw
          · exact hcbw
          · exact hown x (by rw [hes.out, ownOf_append]; simp [hx])
          · exact hown x (by rw [hes.out, ownOf_append, ownOf_cons]; simp [hx]))
        rw [he1, ownOf_append, ownOf_cons]
        simpa [Kid.own] using this
      · have q := F.hOrd
        rw [hes.out] at q
        exact q.shrink (by rw [he1]; rfl) (fun x hx => by rw [he1] at hx; exact List.mem_of_mem_erase hx)
    have hf := erase_facts T0.sorted.1 hmk
    have hsle : v ≤ ks.sum := by omega
    have hA := fun w => sub_calls ks.sum v hsle hsum w
    have g1 : (1 : Int) < n := by omega
    clear hIH y1 y2 BV hcbi
    by_cases hlow : m1 < 16
    · have hlow' : (m1 : Int) < 16 := by omega
      -- the two kids that are merged or shared out
      obtain ⟨A2, l, r, Z2, hsp, hA2, h15⟩ : ∃ A2 l r Z2, A ++ e1 :: Z = A2 ++ l :: r :: Z2 ∧ A2.length = min i (n - 2) ∧ ∀ a ∈ [l, r], 15 ≤ a.n := by
        have hen : e1.n = m1 := by rw [he1]; rfl
        have hel := hesl.out
        rw [hes.out] at hel
        simp at hel
        have hiA := hi.out
        cases Z with
        | cons z Z =>
          refine ⟨A, e1, z, Z, rfl, by simp at hel; omega, ?_⟩
          intro a ha
          simp at ha
          rcases ha with rfl | rfl
          · omega
          · have := (hk1 a (by simp)).1
            rcases this with h | h
            · rw [h]; omega
            · omega
        | nil =>
          obtain ⟨A3, l, rfl⟩ : ∃ A3 l, A = A3 ++ [l] := by
            rcases List.eq_nil_or_concat A with h | ⟨A3, l, h⟩
            · rw [h] at hel; simp at hel; omega
            · exact ⟨A3, l, by rw [h, List.concat_eq_append]⟩
          refine ⟨A3, l, e1, [], by simp, by simp at hel hiA; omega, ?_⟩
          intro a ha
          simp at ha
          rcases ha with rfl | rfl
          · have := (hk1 a (by simp)).1
            rcases this with h | h
            · rw [h]; omega
            · omega
          · omega
      rw [hsp] at Sh hk1 hown1' hlt1 hkeys1
      have hl32 := hk1 l (by simp)
      have hr32 := hk1 r (by simp)
      have hbnd : l.ks.sum + r.ks.sum ≤ ks.sum ∧ l.ks.length + r.ks.length ≤ ks.length := by
        have q1 := hkeys1.out
        rw [keysOf_append, keysOf_cons, keysOf_cons] at q1
        have q2 := congrArg List.sum q1
        have q3 := congrArg List.length q1
        simp only [List.sum_append, List.length_append] at q2 q3
        omega
      have hRf := refill_calls d w3 nb n ks.length ks.sum kb cb xs ps A2 Z2 l r i Sh hA2 hin hn2 hl32.2.2 hr32.2.2 ⟨h15 l (by simp), hl32.2.1⟩ ⟨h15 r (by simp), hr32.2.1⟩ hlt1 (by omega) (by omega)
      go_upto_region 11 with (go_at_call 42; refine hRf.mono ?_; rintro e0 w4 ⟨rfl, hro⟩)
      obtain ⟨n', xs', ps', M, Sh2, hkM, hM, hn'1, hn'2, hownM, hkept4⟩ := hro
      replace BD := BD.kept hkept4 (fun h => by
        rcases h with h | h | h | h
        · omega
        · omega
        · omega
        · have hm : w.heap.size + 1 ∈ ownOf (A2 ++ l :: r :: Z2) := by
            rw [ownOf_append, ownOf_cons, ownOf_cons]
            rcases List.mem_append.1 h with h | h <;> simp [h]
          rcases hown1' _ hm with h2 | h2
          · have := hown _ h2; omega
          · omega)
      have hfin : Hid (keysOf (A2 ++ M ++ Z2) = ks.erase v) := by
        show _ = _
        rw [← hkeys1.out, keysOf_append, keysOf_append, hkM, keysOf_append, keysOf_cons, keysOf_cons]
        simp
      have hkids : Hid (∀ a ∈ A2 ++ M ++ Z2, 16 ≤ a.n ∧ a.n ≤ 32 ∧ Tree d 33 33 w4 a.nb a.ks a.n a.own) := by
        intro a ha
        have hother : a ∈ A2 ∨ a ∈ Z2 → 16 ≤ a.n ∧ a.n ≤ 32 ∧ Tree d 33 33 w4 a.nb a.ks a.n a.own := fun h => by
          have ham : a ∈ A2 ++ l :: r :: Z2 := by rcases h with h | h <;> simp [h]
          obtain ⟨p1, p2, p3⟩ := hk1 a ham
          have hdis : ∀ b ∈ a.own, b ∉ l.own ++ r.own := fun b hb hb2 => by
            have q := Sh.hNodup
            simp only [List.nodup_cons] at q
            have q2 := q.2.2.2
            rw [ownOf_append, ownOf_cons, ownOf_cons, List.nodup_append] at q2
            rcases h with h | h
            · exact q2.2.2 b (mem_ownOf h hb) b (by rcases List.mem_append.1 hb2 with h3 | h3 <;> simp [h3]) rfl
            · have q3 := q2.2.1
              rw [← List.append_assoc, List.nodup_append] at q3
              exact q3.2.2 b hb2 b (mem_ownOf h hb) rfl
          have hone : a ≠ e1 ∨ True := .inr trivial
          refine ⟨?_, p2, p3.kept hkept4 (fun b hb hS => ?_)⟩
          · rcases p1 with p1 | p1
            · exfalso
              have hmm : e1 = l ∨ e1 = r := by
                have hA2l : A2.length = min i (n - 2) := hA2
                have hat : (A ++ e1 :: Z)[i]? = some e1 := by rw [hi.out]; simp
                rw [hsp] at hat
                have hiA := hi.out
                rcases Nat.lt_or_ge i (n - 1) with h5 | h5
                · have : i = A2.length := by omega
                  rw [this] at hat
                  simp at hat
                  exact .inl hat.symm
                · have : i = A2.length + 1 := by omega
                  rw [this] at hat
                  simp at hat
                  exact .inr hat.symm
              obtain ⟨b, hb⟩ := List.exists_mem_of_ne_nil a.own (fun e => by have := p3.node.1; rw [e] at this; simp at this)
              refine hdis b hb ?_
              rw [p1] at hb
              rcases hmm with h6 | h6
              · rw [h6] at hb; exact List.mem_append_left _ hb
              · rw [h6] at hb; exact List.mem_append_right _ hb
            · exact p1.1
          · have q := Sh.hNodup
            simp only [List.nodup_cons, List.mem_cons, not_or] at q
            rcases hS with rfl | rfl | rfl | h4
            · exact q.1.2.2 (mem_ownOf ham hb)
            · exact q.2.1.2 (mem_ownOf ham hb)
            · exact q.2.2.1 (mem_ownOf ham hb)
            · exact hdis b hb h4
        rcases List.mem_append.1 ha with h1 | h1
        · rcases List.mem_append.1 h1 with h1 | h1
          · exact hother (.inl h1)
          · exact hM a h1
        · exact hother (.inr h1)
      have hownf : Hid (∀ b ∈ ownOf (A2 ++ M ++ Z2), b ∈ ownOf es ∨ w.heap.size ≤ b) := by
        intro b hb
        rw [ownOf_append, ownOf_append] at hb
        have hold : b ∈ ownOf (A2 ++ l :: r :: Z2) → b ∈ ownOf es ∨ w.heap.size ≤ b := fun h => by
          rcases hown1' b h with h | h
          · exact .inl h
          · exact .inr (by omega)
        rcases List.mem_append.1 hb with h1 | h1
        · rcases List.mem_append.1 h1 with h1 | h1
          · exact hold (by rw [ownOf_append]; simp [h1])
          · rcases hownM b h1 with h2 | h2
            · exact hold (by rw [ownOf_append, ownOf_cons, ownOf_cons]; rcases List.mem_append.1 h2 with h3 | h3 <;> simp [h3])
            · exact .inr (by omega)
        · exact hold (by rw [ownOf_append, ownOf_cons, ownOf_cons]; simp [h1])
      have hkf : Kept (· ∈ own) w w4 := ⟨hkept4.os.trans hkeptw.os, hkept4.tape.trans hkeptw.tape, hkept4.output.trans hkeptw.output, Nat.le_trans hkeptw.size hkept4.size, fun b hb hn => by
        have e1 := hkeptw.block b hb (fun h => hn (by rw [F.hOwn]; simp [heo b h]))
        refine (hkept4.block b (Nat.lt_of_lt_of_le hb hkeptw.size) (fun hS => hn ?_)).trans e1
        rw [F.hOwn]
        rcases hS with rfl | rfl | rfl | h
        · simp
        · simp
        · simp
        · have hm : b ∈ ownOf (A2 ++ l :: r :: Z2) := by
            rw [ownOf_append, ownOf_cons, ownOf_cons]
            rcases List.mem_append.1 h with h | h <;> simp [h]
          rcases hown1' _ hm with h2 | h2
          · simp [h2]
          · omega⟩
      clear hRf hkept4 hownM hM hkM Sh hk1 hown1' hlt1 z1 z2 z3 NE N KB CB
      generalize A2 ++ M ++ Z2 = es2 at *
      have N := Sh2.hNode
      obtain ⟨c, hc⟩ : ∃ c, Hid (ks.length = c) := ⟨_, rfl⟩
      obtain ⟨s, hs⟩ : ∃ s, Hid (ks.sum = s) := ⟨_, rfl⟩
      rw [hc.out, hs.out] at N
      rw [hs.out] at hA
      have hcpos : 0 < c := by have := hf.2.1; rw [← hc.out]; omega
      have hcb : c < 1099511627776 := by rw [← hc.out]; exact hcnt
      have hwc : IntKind.i64.wrap ((c : Int) - 1) = (c : Int) - 1 := by rw [IntKind.wrap_i64]; omega
      have x2 : w4.cell? ⟨nb, 2, none⟩ = some (.int .i64 (c : Nat)) := N.cell 2
      have g2 := N.frozen 2
      replace hf := Hid.mk' hf
      go_wp2_with fail
      have hcc : (c : Int) - 1 = ((c - 1 : Nat) : Int) := by omega
      rw [hcc]
      clear hcc
      have N3 := N.setCount (c - 1)
      have kA := kept_set (nb := nb) (Kept.refl _ w4) 2 (.int .i64 ((c - 1 : Nat) : Int))
      generalize w4.setCell ⟨nb, 2, none⟩ (.int .i64 ((c - 1 : Nat) : Int)) = X2 at *
      have KB2 := Sh2.hKeys.kept kA (fun e => n1.out e.symm)
      have CB2 := Sh2.hKids.kept kA (fun e => n2.out e.symm)
      have BD2 := BD.kept kA (by omega)
      replace N := N3
      replace BD := BD2
      obtain ⟨bD, hbD⟩ : ∃ bD, bD = w.heap.size + 1 := ⟨_, rfl⟩
      rw [← hbD] at BD ⊢
      clear x2 g2 hwc BD2 N3
      refine wp_region_B (fun w' => Below X2.heap.size X2 w') (fun j => j != 9) (by kernel_rfl) ((Below.refl _ X2).drew) (fun hHeld => ?_)
      simp only [List.size_toArray, List.length_cons, List.length_nil, Nat.reduceAdd, Array.replicate_succ, Array.replicate_zero, List.push_toArray, List.append_toArray, List.nil_append, List.cons_append]
      refine wpAnyB_takeW (i := 0) (v := ?_) rfl (by kernel_rfl) (by kernel_rfl) (by kernel_rfl) (fun _ _ _ h => h) (Or.inl ⟨by rfl, ?_⟩) ?_
      rotate_left 1
      · intro w hSw; go_simp <;> with_reducible rfl
      try simp only [Act.put, List.setIfInBounds_toArray, List.set_cons_zero, List.set_cons_succ, List.getElem_toArray, List.getElem_cons_succ, List.getElem_cons_zero]
      refine wpAnyB_takeW (i := 1) (v := ?_) rfl (by kernel_rfl) (by kernel_rfl) (by kernel_rfl) (fun _ _ _ h => h) (Or.inl ⟨by rfl, ?_⟩) ?_
      rotate_left 1
      · intro w hSw; go_simp <;> with_reducible rfl
      try simp only [Act.put, List.setIfInBounds_toArray, List.set_cons_zero, List.set_cons_succ, List.getElem_toArray, List.getElem_cons_succ, List.getElem_cons_zero]
      refine wpAnyB_takeW (i := 2) (v := ?_) rfl (by kernel_rfl) (by kernel_rfl) (by kernel_rfl) (fun _ _ _ h => h) (Or.inl ⟨by rfl, ?_⟩) ?_
      rotate_left 1
      · intro w hSw; go_simp <;> with_reducible rfl
      try simp only [Act.put, List.setIfInBounds_toArray, List.set_cons_zero, List.set_cons_succ, List.getElem_toArray, List.getElem_cons_succ, List.getElem_cons_zero]
      refine wpAnyB_takeW (i := 3) (v := ?_) rfl (by kernel_rfl) (by kernel_rfl) (by kernel_rfl) (fun _ _ _ h => h) (Or.inl ⟨by rfl, ?_⟩) ?_
      rotate_left 1
      · intro w hSw; go_simp <;> with_reducible rfl
      try simp only [Act.put, List.setIfInBounds_toArray, List.set_cons_zero, List.set_cons_succ, List.getElem_toArray, List.getElem_cons_succ, List.getElem_cons_zero]
      refine wpAnyB_load47 (i := 4) rfl (by kernel_rfl) (by kernel_rfl) (by kernel_rfl) (by kernel_rfl) (nb) (3) (s) (.tmp 88) rfl rfl (fun _ _ _ h => h) (by rfl) (fun w hSw => rangeAt_of_block N.digR (hSw.block _ N.lt)) hHeld ?_
      try simp only [Act.put, List.setIfInBounds_toArray, List.set_cons_zero, List.set_cons_succ, List.getElem_toArray, List.getElem_cons_succ, List.getElem_cons_zero]
      refine wpAnyB_load47 (i := 5) rfl (by kernel_rfl) (by kernel_rfl) (by kernel_rfl) (by kernel_rfl) (bD) (0) (v) (.tmp 6) rfl rfl (fun _ _ _ h => h) (by rfl) (fun w hSw => rangeAt_of_block BD.dg (hSw.block _ BD.lt)) hHeld ?_
      try simp only [Act.put, List.setIfInBounds_toArray, List.set_cons_zero, List.set_cons_succ, List.getElem_toArray, List.getElem_cons_succ, List.getElem_cons_zero]
      refine wpAnyB_step (i := 6) (by kernel_rfl) rfl (fun Kq hKq => ?_)
      go_simp
      refine (hA _).mono ?_
      rintro e w7 ⟨rfl, hw7⟩
      dsimp only
      have hb7 : Below X2.heap.size X2 w7 := hHeld.trans (hw7.mono hHeld.size)
      have hHeld := hb7
      refine hKq.out _ _ (fun _ _ => hHeld) ?_
      clear hKq Kq
      try simp only [Act.put, List.setIfInBounds_toArray, List.set_cons_zero, List.set_cons_succ, List.getElem_toArray, List.getElem_cons_succ, List.getElem_cons_zero]
      refine wpAnyB_takeW (i := 7) (v := ?_) rfl (by kernel_rfl) (by kernel_rfl) (by kernel_rfl) (fun _ _ _ h => h) (Or.inl ⟨by rfl, ?_⟩) ?_
      rotate_left 1
      · intro w hSw; go_simp <;> with_reducible rfl
      try simp only [Act.put, List.setIfInBounds_toArray, List.set_cons_zero, List.set_cons_succ, List.getElem_toArray, List.getElem_cons_succ, List.getElem_cons_zero]
      refine wpAnyB_takeW (i := 8) (v := ?_) rfl (by kernel_rfl) (by kernel_rfl) (by kernel_rfl) (fun _ _ _ h => h) (Or.inl ⟨by rfl, ?_⟩) ?_
      rotate_left 1
      · intro w hSw; go_simp <;> with_reducible rfl
      try simp only [Act.put, List.setIfInBounds_toArray, List.set_cons_zero, List.set_cons_succ, List.getElem_toArray, List.getElem_cons_succ, List.getElem_cons_zero]
      have N7 := N.below hb7
      have T7 := N7.digT
      refine wpAnyB_step (i := 9) (by kernel_rfl) rfl (fun Kq hKq => ?_)
      refine step_st47 rfl rfl (.tmp 93) (.tmp 91) rfl nb 3 (s - v) rfl rfl T7 ?_
      refine hKq.out _ _ (fun h => absurd h (by decide)) ?_
      clear hKq Kq
      try simp only [Act.put, List.setIfInBounds_toArray, List.set_cons_zero, List.set_cons_succ, List.getElem_toArray, List.getElem_cons_succ, List.getElem_cons_zero]
      refine wpAnyB_done (by kernel_rfl) ?_ _
      have N8 := N7.setDig (s - v)
      have k8 : Kept (· = nb) X2 (w7.setCells nb 3 (dgc (s - v))) := kept_sets (Kept.of_below hb7) _ _
      generalize w7.setCells nb 3 (dgc (s - v)) = X at *
      clear hHeld hb7 hw7 N7 T7
      go_wp2_with fail
      go_ret
      have hf' := hf.out
      have hfin' := hfin.out
      have kF : Kept (· = nb) w4 X := kA.trans k8
      have ShF : Shell X nb n' (c - 1) (s - v) kb cb xs' ps' es2 := { Sh2 with hNode := N8, hKeys := KB2.kept k8 (fun e => n1.out e.symm), hKids := CB2.kept k8 (fun e => n2.out e.symm) }
      have hIn := ShF.inner (by omega) (by rw [hfin', ← hc.out]; omega) (by rw [hfin', ← hs.out]; omega)
      rw [hfin'] at hIn
      have hndS := Sh2.hNodup
      simp only [List.nodup_cons, List.mem_cons, not_or] at hndS
      refine ⟨by rw [decide_eq_true hmk]; rfl, n', nb :: kb :: cb :: ownOf es2, ⟨kb, cb, xs', ps', es2, hIn, fun a ha => ⟨(hkids.out a ha).1, (hkids.out a ha).2.1, (hkids.out a ha).2.2.kept kF (fun b hb e => hndS.1.2.2 (by rw [← e]; exact mem_ownOf ha hb))⟩⟩, hn'1, hn'2, ?_, hkf.trans (kF.mono (fun b _ h => by rw [F.hOwn]; simp [h])), fun h => absurd hmk h⟩
      intro x hx
      rw [F.hOwn]
      simp only [List.mem_cons] at hx ⊢
      rcases hx with h | h | h | h
      · exact .inl (.inl h)
      · exact .inl (.inr (.inl h))
      · exact .inl (.inr (.inr (.inl h)))
      · rcases hownf.out x h with h2 | h2
        · exact .inl (.inr (.inr (.inr h2)))
        · exact .inr h2
    · have hlow' : ¬ (m1 : Int) < 16 := by omega
      have Sh2 := Sh
      have hfin := hkeys1
      have hkids : Hid (∀ a ∈ A ++ e1 :: Z, 16 ≤ a.n ∧ a.n ≤ 32 ∧ Tree d 33 33 w3 a.nb a.ks a.n a.own) := by
        intro a ha
        obtain ⟨p1, p2, p3⟩ := hk1 a ha
        refine ⟨?_, p2, p3⟩
        rcases p1 with h | h
        · rw [h, he1]; show 16 ≤ m1; omega
        · exact h.1
      have hownf : Hid (∀ b ∈ ownOf (A ++ e1 :: Z), b ∈ ownOf es ∨ w.heap.size ≤ b) := by
        intro b hb
        rcases hown1' b hb with h | h
        · exact .inl h
        · exact .inr (by omega)
      have hkf : Kept (· ∈ own) w w3 := hkeptw.mono (fun b _ h => by rw [F.hOwn]; simp [heo b h])
      have hn'1 : n ≤ n := Nat.le_refl _
      have hn'2 : n ≤ n + 1 := Nat.le_succ _
      go_upto_region 11 with fail
      clear hk1 hown1' hlt1 z1 z2 z3 NE N KB CB
      generalize A ++ e1 :: Z = es2 at *
      have N := Sh2.hNode
      obtain ⟨c, hc⟩ : ∃ c, Hid (ks.length = c) := ⟨_, rfl⟩
      obtain ⟨s, hs⟩ : ∃ s, Hid (ks.sum = s) := ⟨_, rfl⟩
      rw [hc.out, hs.out] at N
      rw [hs.out] at hA
      have hcpos : 0 < c := by have := hf.2.1; rw [← hc.out]; omega
      have hcb : c < 1099511627776 := by rw [← hc.out]; exact hcnt
      have hwc : IntKind.i64.wrap ((c : Int) - 1) = (c : Int) - 1 := by rw [IntKind.wrap_i64]; omega
      have x2 : w3.cell? ⟨nb, 2, none⟩ = some (.int .i64 (c : Nat)) := N.cell 2
      have g2 := N.frozen 2
      replace hf := Hid.mk' hf
      go_wp2_with fail
      have hcc : (c : Int) - 1 = ((c - 1 : Nat) : Int) := by omega
      rw [hcc]
      clear hcc
      have N3 := N.setCount (c - 1)
      have kA := kept_set (nb := nb) (Kept.refl _ w3) 2 (.int .i64 ((c - 1 : Nat) : Int))
      generalize w3.setCell ⟨nb, 2, none⟩ (.int .i64 ((c - 1 : Nat) : Int)) = X2 at *
      have KB2 := Sh2.hKeys.kept kA (fun e => n1.out e.symm)
      have CB2 := Sh2.hKids.kept kA (fun e => n2.out e.symm)
      have BD2 := BD.kept kA (by omega)
      replace N := N3
      replace BD := BD2
      obtain ⟨bD, hbD⟩ : ∃ bD, bD = w.heap.size + 1 := ⟨_, rfl⟩
      rw [← hbD] at BD ⊢
      clear x2 g2 hwc BD2 N3
      refine wp_region_B (fun w' => Below X2.heap.size X2 w') (fun j => j != 9) (by kernel_rfl) ((Below.refl _ X2).drew) (fun hHeld => ?_)
      simp only [List.size_toArray, List.length_cons, List.length_nil, Nat.reduceAdd, Array.replicate_succ, Array.replicate_zero, List.push_toArray, List.append_toArray, List.nil_append, List.cons_append]
      refine wpAnyB_takeW (i := 0) (v := ?_) rfl (by kernel_rfl) (by kernel_rfl) (by kernel_rfl) (fun _ _ _ h => h) (Or.inl ⟨by rfl, ?_⟩) ?_
      rotate_left 1
      · intro w hSw; go_simp <;> with_reducible rfl
      try simp only [Act.put, List.setIfInBounds_toArray, List.set_cons_zero, List.set_cons_succ, List.getElem_toArray, List.getElem_cons_succ, List.getElem_cons_zero]
      refine wpAnyB_takeW (i := 1) (v := ?_) rfl (by kernel_rfl) (by kernel_rfl) (by kernel_rfl) (fun _ _ _ h => h) (Or.inl ⟨by rfl, ?_⟩) ?_
      rotate_left 1
      · intro w hSw; go_simp <;> with_reducible rfl
      try simp only [Act.put, List.setIfInBounds_toArray, List.set_cons_zero, List.set_cons_succ, List.getElem_toArray, List.getElem_cons_succ, List.getElem_cons_zero]
      refine wpAnyB_takeW (i := 2) (v := ?_) rfl (by kernel_rfl) (by kernel_rfl) (by kernel_rfl) (fun _ _ _ h => h) (Or.inl ⟨by rfl, ?_⟩) ?_
      rotate_left 1
      · intro w hSw; go_simp <;> with_reducible rfl
      try simp only [Act.put, List.setIfInBounds_toArray, List.set_cons_zero, List.set_cons_succ, List.getElem_toArray, List.getElem_cons_succ, List.getElem_cons_zero]
      refine wpAnyB_takeW (i := 3) (v := ?_) rfl (by kernel_rfl) (by kernel_rfl) (by kernel_rfl) (fun _ _ _ h => h) (Or.inl ⟨by rfl, ?_⟩) ?_
      rotate_left 1
      · intro w hSw; go_simp <;> with_reducible rfl
      try simp only [Act.put, List.setIfInBounds_toArray, List.set_cons_zero, List.set_cons_succ, List.getElem_toArray, List.getElem_cons_succ, List.getElem_cons_zero]
      refine wpAnyB_load47 (i := 4) rfl (by kernel_rfl) (by kernel_rfl) (by kernel_rfl) (by kernel_rfl) (nb) (3) (s) (.tmp 88) rfl rfl (fun _ _ _ h => h) (by rfl) (fun w hSw => rangeAt_of_block N.digR (hSw.block _ N.lt)) hHeld ?_
      try simp only [Act.put, List.setIfInBounds_toArray, List.set_cons_zero, List.set_cons_succ, List.getElem_toArray, List.getElem_cons_succ, List.getElem_cons_zero]
      refine wpAnyB_load47 (i := 5) rfl (by kernel_rfl) (by kernel_rfl) (by kernel_rfl) (by kernel_rfl) (bD) (0) (v) (.tmp 6) rfl rfl (fun _ _ _ h => h) (by rfl) (fun w hSw => rangeAt_of_block BD.dg (hSw.block _ BD.lt)) hHeld ?_
      try simp only [Act.put, List.setIfInBounds_toArray, List.set_cons_zero, List.set_cons_succ, List.getElem_toArray, List.getElem_cons_succ, List.getElem_cons_zero]
      refine wpAnyB_step (i := 6) (by kernel_rfl) rfl (fun Kq hKq => ?_)
      go_simp
      refine (hA _).mono ?_
      rintro e w7 ⟨rfl, hw7⟩
      dsimp only
      have hb7 : Below X2.heap.size X2 w7 := hHeld.trans (hw7.mono hHeld.size)
      have hHeld := hb7
      refine hKq.out _ _ (fun _ _ => hHeld) ?_
      clear hKq Kq
      try simp only [Act.put, List.setIfInBounds_toArray, List.set_cons_zero, List.set_cons_succ, List.getElem_toArray, List.getElem_cons_succ, List.getElem_cons_zero]
      refine wpAnyB_takeW (i := 7) (v := ?_) rfl (by kernel_rfl) (by kernel_rfl) (by kernel_rfl) (fun _ _ _ h => h) (Or.inl ⟨by rfl, ?_⟩) ?_
      rotate_left 1
      · intro w hSw; go_simp <;> with_reducible rfl
      try simp only [Act.put, List.setIfInBounds_toArray, List.set_cons_zero, List.set_cons_succ, List.getElem_toArray, List.getElem_cons_succ, List.getElem_cons_zero]
      refine wpAnyB_takeW (i := 8) (v := ?_) rfl (by kernel_rfl) (by kernel_rfl) (by kernel_rfl) (fun _ _ _ h => h) (Or.inl ⟨by rfl, ?_⟩) ?_
      rotate_left 1
      · intro w hSw; go_simp <;> with_reducible rfl
      try simp only [Act.put, List.setIfInBounds_toArray, List.set_cons_zero, List.set_cons_succ, List.getElem_toArray, List.getElem_cons_succ, List.getElem_cons_zero]
      have N7 := N.below hb7
      have T7 := N7.digT
      refine wpAnyB_step (i := 9) (by kernel_rfl) rfl (fun Kq hKq => ?_)
      refine step_st47 rfl rfl (.tmp 93) (.tmp 91) rfl nb 3 (s - v) rfl rfl T7 ?_
      refine hKq.out _ _ (fun h => absurd h (by decide)) ?_
      clear hKq Kq
      try simp only [Act.put, List.setIfInBounds_toArray, List.set_cons_zero, List.set_cons_succ, List.getElem_toArray, List.getElem_cons_succ, List.getElem_cons_zero]
      refine wpAnyB_done (by kernel_rfl) ?_ _
      have N8 := N7.setDig (s - v)
      have k8 : Kept (· = nb) X2 (w7.setCells nb 3 (dgc (s - v))) := kept_sets (Kept.of_below hb7) _ _
      generalize w7.setCells nb 3 (dgc (s - v)) = X at *
      clear hHeld hb7 hw7 N7 T7
      go_wp2_with fail
      go_ret
      have hf' := hf.out
      have hfin' := hfin.out
      have kF : Kept (· = nb) w3 X := kA.trans k8
      have ShF : Shell X nb n (c - 1) (s - v) kb cb xs ps es2 := { Sh2 with hNode := N8, hKeys := KB2.kept k8 (fun e => n1.out e.symm), hKids := CB2.kept k8 (fun e => n2.out e.symm) }
      have hIn := ShF.inner (by omega) (by rw [hfin', ← hc.out]; omega) (by rw [hfin', ← hs.out]; omega)
      rw [hfin'] at hIn
      have hndS := Sh2.hNodup
      simp only [List.nodup_cons, List.mem_cons, not_or] at hndS
      refine ⟨by rw [decide_eq_true hmk]; rfl, n, nb :: kb :: cb :: ownOf es2, ⟨kb, cb, xs, ps, es2, hIn, fun a ha => ⟨(hkids.out a ha).1, (hkids.out a ha).2.1, (hkids.out a ha).2.2.kept kF (fun b hb e => hndS.1.2.2 (by rw [← e]; exact mem_ownOf ha hb))⟩⟩, hn'1, hn'2, ?_, hkf.trans (kF.mono (fun b _ h => by rw [F.hOwn]; simp [h])), fun h => absurd hmk h⟩
      intro x hx
      rw [F.hOwn]
      simp only [List.mem_cons] at hx ⊢
      rcases hx with h | h | h | h
      · exact .inl (.inl h)
      · exact .inl (.inr (.inl h))
      · exact .inl (.inr (.inr (.inl h)))
      · rcases hownf.out x h with h2 | h2
        · exact .inl (.inr (.inr (.inr h2)))
        · exact .inr h2
  · have hm' : decide (v ∈ e.ks) = false := decide_eq_false hm
    have hmk : v ∉ ks := fun h => hm (hmemk.out.1 h)
    rw [hm']
    have hbel : Below w.heap.size w w3 := hb.trans ((Below.refl w.heap.size wr).drew.trans ((hbel1 hm).mono hb.size))
    go_wp2_with fail
    go_ret
    exact ⟨by rw [decide_eq_false hmk]; rfl, n, own, by rw [List.erase_of_not_mem hmk]; exact T0.below hbel, Nat.le_refl _, Nat.le_succ _, fun x hx => .inl hx, Kept.of_below hbel, fun _ => hbel⟩
end Go.Proofs.Ybulkbqza
