/-
  Seat b3380a. treeNode.refill over leaves.
-/
import Derived.Test.YbulkbqzaShell
namespace Go.Proofs.Ybulkbqza
open Go.RowKit
set_option linter.unusedVariables false
set_option maxRecDepth 100000
set_option linter.unusedSimpArgs false

set_option maxHeartbeats 1000000 in
theorem refill_leaf (w : World) (nb n c s kb cb : Nat) (xs : List Nat) (ps : List Value) (A Z : List Kid) (l r : Kid) (i : Nat) (Sh : Shell w nb n c s kb cb xs ps (A ++ l :: r :: Z)) (hi : A.length = min i (n - 2)) (hin : i < n) (hn2 : 2 ≤ n)
    (kbl : Nat) (xl : List Nat) (L : Leaf 33 w l.nb l.ks l.n l.own kbl xl) (kbr : Nat) (xr : List Nat) (R : Leaf 33 w r.nb r.ks r.n r.own kbr xr) (hnl : 15 ≤ l.n ∧ l.n ≤ 32) (hnr : 15 ≤ r.n ∧ r.n ≤ 32)
    (hlr : ∀ x ∈ l.ks, ∀ y ∈ r.ks, x < y) (hltA : ∀ x ∈ ownOf (A ++ l :: r :: Z), x < w.heap.size) (hsum : l.ks.sum + r.ks.sum < 18446744073709551616) :
    Calls Yba.prog 42 #[.pointer (some ⟨nb, 0, none⟩), .int .i64 i, .func (.func 10) #[] #[]] w fun e w' => e = .returned (.tuple #[]) ∧ RefOut 0 w w' nb n c s kb cb A Z l r := by
  have en := neq_nil
  have hnd : (nb :: kb :: cb :: (l.own ++ r.own)).Nodup := Sh.hNodup.sublist (by
    refine List.Sublist.cons_cons _ (List.Sublist.cons_cons _ (List.Sublist.cons_cons _ ?_))
    rw [ownOf_append, ownOf_cons, ownOf_cons, ← List.append_assoc l.own]
    exact (List.sublist_append_left _ _).trans (List.sublist_append_right _ _))
  rw [L.hOwn, R.hOwn] at hnd
  simp only [List.cons_append, List.nil_append, List.nodup_cons, List.mem_cons, not_or, List.not_mem_nil, not_false_eq_true, and_true, List.nodup_nil] at hnd
  obtain ⟨⟨d1, d2, d3, d4, d5, d6⟩, ⟨d7, d8, d9, d10, d11⟩, ⟨d12, d13, d14, d15⟩, ⟨d16, d17, d18⟩, ⟨d19, d20⟩, d21⟩ := hnd
  replace d1 := Hid.mk' d1
  replace d2 := Hid.mk' d2
  replace d3 := Hid.mk' d3
  replace d4 := Hid.mk' d4
  replace d5 := Hid.mk' d5
  replace d6 := Hid.mk' d6
  replace d7 := Hid.mk' d7
  replace d8 := Hid.mk' d8
  replace d9 := Hid.mk' d9
  replace d10 := Hid.mk' d10
  replace d11 := Hid.mk' d11
  replace d12 := Hid.mk' d12
  replace d13 := Hid.mk' d13
  replace d14 := Hid.mk' d14
  replace d15 := Hid.mk' d15
  replace d16 := Hid.mk' d16
  replace d17 := Hid.mk' d17
  replace d18 := Hid.mk' d18
  replace d19 := Hid.mk' d19
  replace d20 := Hid.mk' d20
  replace d21 := Hid.mk' d21
  have N := Sh.hNode
  have KB := Sh.hKeys
  have CB := Sh.hKids
  have NL := L.hNode
  have KL := L.hKeys
  have NR := R.hNode
  have KR := R.hKeys
  have hel := Sh.hN
  rw [List.length_append, List.length_cons, List.length_cons] at hel
  obtain ⟨j, hj⟩ : ∃ j, j = A.length := ⟨_, rfl⟩
  have hjn : j + 1 < n := by omega
  have hn33 := Sh.hLe
  have hwr : wrap64 ((n : Int) - 2) = (n : Int) - 2 := by unfold wrap64; omega
  have hmin : min (i : Int) ((n : Int) - 2) = (j : Int) := by omega
  have p1 : w.cell? ⟨cb, j, none⟩ = some (.pointer (some ⟨l.nb, 0, none⟩)) := by
    rw [CB.cell]
    have : (ps.take n)[j]? = some (ptr l.nb) := by rw [Sh.hTakeP, List.getElem?_map, hj]; simp
    rwa [List.getElem?_take_of_lt (by omega)] at this
  have p2 : w.cell? ⟨cb, j + 1, none⟩ = some (.pointer (some ⟨r.nb, 0, none⟩)) := by
    rw [CB.cell]
    have : (ps.take n)[j + 1]? = some (ptr r.nb) := by rw [Sh.hTakeP, List.getElem?_map, hj]; simp
    rwa [List.getElem?_take_of_lt (by omega)] at this
  have q1 : w.cell? ⟨nb, 1, none⟩ = some (.slice (some ⟨cb, 0, none⟩) n 33) := N.cell 1
  have q2 : (j : Int) < n := by omega
  have q3 : (j : Int) + 1 < n := by omega
  have lN := N.lt
  have lKB := KB.lt
  have lCB := CB.lt
  have lNL := NL.lt
  have lKL := KL.lt
  have lNR := NR.lt
  have lKR := KR.lt
  have hln := L.hN
  have hrn := R.hN
  have hxl := L.hXs
  have hxr := R.hXs
  have htl := L.hTake
  have htr := R.hTake
  have hln' : (l.ks ++ r.ks).length = l.n + r.n := by rw [List.length_append]; omega
  have hcnt : Hid (l.ks.length + r.ks.length < 1099511627776) := by show _ < _; omega
  replace hln := Hid.mk' hln
  replace hrn := Hid.mk' hrn
  replace htl := Hid.mk' htl
  replace htr := Hid.mk' htr
  replace hxl := Hid.mk' hxl
  replace hxr := Hid.mk' hxr
  replace hj := Hid.mk' hj
  replace hel := Hid.mk' hel
  replace hln' := Hid.mk' hln'
  generalize hlks : l.ks = lks at *
  generalize hrks : r.ks = rks at *
  generalize hlnn : l.n = ln at *
  generalize hrnn : r.n = rn at *
  generalize hlnb : l.nb = lnb at *
  generalize hrnb : r.nb = rnb at *
  replace hlks := Hid.mk' hlks
  replace hrks := Hid.mk' hrks
  replace hlnn := Hid.mk' hlnn
  replace hrnn := Hid.mk' hrnn
  replace hlnb := Hid.mk' hlnb
  replace hrnb := Hid.mk' hrnb
  go_enter Yba.func42, Yba.ntmps42
  go_wp2_with fail
  go_quiet (fail)
  have hq0 : Below w.heap.size w (w.drewN nq) := below_drewN (Below.refl _ w) nq
  have kk : Kept (fun b => b = nb ∨ b = kb ∨ b = cb ∨ b = lnb ∨ b = kbl ∨ b = rnb ∨ b = kbr) w (w.drewN nq) := Kept.of_below hq0
  replace N := N.below hq0
  replace KB := KB.below hq0
  replace CB := CB.below hq0
  replace NL := NL.below hq0
  replace KL := KL.below hq0
  replace NR := NR.below hq0
  replace KR := KR.below hq0
  generalize hw0 : w.drewN nq = w0 at *
  have hs0 : w.heap.size ≤ w0.heap.size := hq0.size
  clear hw0 p1 p2 q1 hq0
  have cl1 : w0.cell? ⟨lnb, 1, none⟩ = some (.slice none 0 0) := NL.cell 1
  go_wp2_with fail
  have u1 : w0.cell? ⟨lnb, 0, none⟩ = some (.slice (some ⟨kbl, 0, none⟩) ln 33) := NL.cell 0
  have u2 : w0.cell? ⟨rnb, 0, none⟩ = some (.slice (some ⟨kbr, 0, none⟩) rn 33) := NR.cell 0
  have hsrc : ∀ j u, (ids rks)[j]? = some u → w0.drew.cell? ((⟨kbr, 0, none⟩ : Addr).add j) = some u := fun j u hu => by
    rw [Addr.add_mid]
    exact KR.drew.sub (k := 0) (zs := rks) (by rw [← htr.out]; exact List.take_prefix _ _) j u hu
  refine wp_region_B (fun w' => w'.cell? ⟨lnb, 0, none⟩ = some (.slice (some ⟨kbl, 0, none⟩) ln 33) ∧ w'.cell? ⟨rnb, 0, none⟩ = some (.slice (some ⟨kbr, 0, none⟩) rn 33)) (fun j => j != 12) (by kernel_rfl) (⟨by simpa using u1, by simpa using u2⟩) (fun hHeld => ?_)
  simp only [List.size_toArray, List.length_cons, List.length_nil, Nat.reduceAdd, Array.replicate_succ, Array.replicate_zero, List.push_toArray, List.append_toArray, List.nil_append, List.cons_append]
  refine wpAnyB_takeW (i := 0) (v := ?_) rfl (by kernel_rfl) (by kernel_rfl) (by kernel_rfl) (fun _ _ _ h => h) (Or.inl ⟨by rfl, ?_⟩) ?_
  rotate_left 1
  · intro w hSw; go_simp <;> with_reducible rfl
  try simp only [Act.put, List.setIfInBounds_toArray, List.set_cons_zero, List.set_cons_succ, List.getElem_toArray, List.getElem_cons_succ, List.getElem_cons_zero]
  refine wpAnyB_takeW (i := 1) (v := ?_) rfl (by kernel_rfl) (by kernel_rfl) (by kernel_rfl) (fun _ _ _ h => h) (Or.inl ⟨by rfl, ?_⟩) ?_
  rotate_left 1
  · intro w hSw; go_simp <;> with_reducible rfl
  try simp only [Act.put, List.setIfInBounds_toArray, List.set_cons_zero, List.set_cons_succ, List.getElem_toArray, List.getElem_cons_succ, List.getElem_cons_zero]
  refine wpAnyB_takeW (i := 2) (v := ?_) rfl (by kernel_rfl) (by kernel_rfl) (by kernel_rfl) (fun _ _ _ h => h) (Or.inl ⟨by rfl, ?_⟩) ?_
  rotate_left 1
  · intro w hSw; go_simp <;> with_reducible rfl
  try simp only [Act.put, List.setIfInBounds_toArray, List.set_cons_zero, List.set_cons_succ, List.getElem_toArray, List.getElem_cons_succ, List.getElem_cons_zero]
  refine wpAnyB_takeW (i := 3) (v := ?_) rfl (by kernel_rfl) (by kernel_rfl) (by kernel_rfl) (fun _ _ _ h => h) (Or.inl ⟨by rfl, ?_⟩) ?_
  rotate_left 1
  · intro w hSw; go_simp <;> with_reducible rfl
  try simp only [Act.put, List.setIfInBounds_toArray, List.set_cons_zero, List.set_cons_succ, List.getElem_toArray, List.getElem_cons_succ, List.getElem_cons_zero]
  refine wpAnyB_take (i := 4) (v := ?_) rfl (by kernel_rfl) (by kernel_rfl) (by kernel_rfl) (by kernel_rfl) (fun _ _ _ h => h) (Or.inl ⟨by rfl, ?_⟩) hHeld ?_
  rotate_left 1
  · intro w hSw; (try dsimp only at hSw); obtain ⟨q1, q2⟩ := hSw; go_simp <;> with_reducible rfl
  try simp only [Act.put, List.setIfInBounds_toArray, List.set_cons_zero, List.set_cons_succ, List.getElem_toArray, List.getElem_cons_succ, List.getElem_cons_zero]
  refine wpAnyB_takeW (i := 5) (v := ?_) rfl (by kernel_rfl) (by kernel_rfl) (by kernel_rfl) (fun _ _ _ h => h) (Or.inl ⟨by rfl, ?_⟩) ?_
  rotate_left 1
  · intro w hSw; go_simp <;> with_reducible rfl
  try simp only [Act.put, List.setIfInBounds_toArray, List.set_cons_zero, List.set_cons_succ, List.getElem_toArray, List.getElem_cons_succ, List.getElem_cons_zero]
  refine wpAnyB_takeW (i := 6) (v := ?_) rfl (by kernel_rfl) (by kernel_rfl) (by kernel_rfl) (fun _ _ _ h => h) (Or.inl ⟨by rfl, ?_⟩) ?_
  rotate_left 1
  · intro w hSw; go_simp <;> with_reducible rfl
  try simp only [Act.put, List.setIfInBounds_toArray, List.set_cons_zero, List.set_cons_succ, List.getElem_toArray, List.getElem_cons_succ, List.getElem_cons_zero]
  refine wpAnyB_takeW (i := 7) (v := ?_) rfl (by kernel_rfl) (by kernel_rfl) (by kernel_rfl) (fun _ _ _ h => h) (Or.inl ⟨by rfl, ?_⟩) ?_
  rotate_left 1
  · intro w hSw; go_simp <;> with_reducible rfl
  try simp only [Act.put, List.setIfInBounds_toArray, List.set_cons_zero, List.set_cons_succ, List.getElem_toArray, List.getElem_cons_succ, List.getElem_cons_zero]
  refine wpAnyB_take (i := 8) (v := ?_) rfl (by kernel_rfl) (by kernel_rfl) (by kernel_rfl) (by kernel_rfl) (fun _ _ _ h => h) (Or.inl ⟨by rfl, ?_⟩) hHeld ?_
  rotate_left 1
  · intro w hSw; (try dsimp only at hSw); obtain ⟨q1, q2⟩ := hSw; go_simp <;> with_reducible rfl
  try simp only [Act.put, List.setIfInBounds_toArray, List.set_cons_zero, List.set_cons_succ, List.getElem_toArray, List.getElem_cons_succ, List.getElem_cons_zero]
  refine wpAnyB_step (i := 9) (by kernel_rfl) rfl (fun Kq hKq => ?_)
  refine step_any30 rfl (.tmp 55) (.tmp 59) rfl kbl ln 33 rfl ⟨kbr, 0, none⟩ rn 33 xl rks KL.drew rfl hrn.out.symm hsrc hxl.out (by omega) (by omega) ?_
  intro w1 bl capl xl' BL hlen1 htk1 hcap1 hb1 k1 hz1 hcapE
  replace k1 : Kept (· = kbl) w0 w1 := (Kept.refl _ w0).drew.trans k1
  have hHeld := (⟨(k1.cell (p := ⟨lnb, 0, none⟩) NL.lt d16.out).trans u1, (k1.cell (p := ⟨rnb, 0, none⟩) NR.lt (Ne.symm d19.out)).trans u2⟩ : _ ∧ _)
  refine hKq.out _ _ (fun _ _ => hHeld) ?_
  clear hKq Kq
  try simp only [Act.put, List.setIfInBounds_toArray, List.set_cons_zero, List.set_cons_succ, List.getElem_toArray, List.getElem_cons_succ, List.getElem_cons_zero]
  refine wpAnyB_takeW (i := 10) (v := ?_) rfl (by kernel_rfl) (by kernel_rfl) (by kernel_rfl) (fun _ _ _ h => h) (Or.inl ⟨by rfl, ?_⟩) ?_
  rotate_left 1
  · intro w hSw; go_simp <;> with_reducible rfl
  try simp only [Act.put, List.setIfInBounds_toArray, List.set_cons_zero, List.set_cons_succ, List.getElem_toArray, List.getElem_cons_succ, List.getElem_cons_zero]
  refine wpAnyB_takeW (i := 11) (v := ?_) rfl (by kernel_rfl) (by kernel_rfl) (by kernel_rfl) (fun _ _ _ h => h) (Or.inl ⟨by rfl, ?_⟩) ?_
  rotate_left 1
  · intro w hSw; go_simp <;> with_reducible rfl
  try simp only [Act.put, List.setIfInBounds_toArray, List.set_cons_zero, List.set_cons_succ, List.getElem_toArray, List.getElem_cons_succ, List.getElem_cons_zero]
  have hbl : ∀ X, X < w.heap.size → kbl ≠ X → bl ≠ X := fun X h1 h2 => by
    rcases hb1 with h | h
    · rw [h]; exact h2
    · intro e; rw [e] at h; exact absurd (Nat.lt_of_lt_of_le h1 hs0) (Nat.not_lt.2 h)
  replace hbl := Hid.mk' hbl
  replace N := N.kept k1 d4.out
  replace KB := KB.kept k1 d9.out
  replace CB := CB.kept k1 d13.out
  replace NL := NL.kept k1 d16.out
  replace NR := NR.kept k1 (Ne.symm d19.out)
  replace KR := KR.kept k1 (Ne.symm d20.out)
  have cl : w1.cell? ⟨lnb, 0, none⟩ = some (.slice (some ⟨kbl, 0, none⟩) ln 33) := NL.cell 0
  have fl := NL.frozen 0
  refine wpAnyB_step (i := 12) (by kernel_rfl) rfl (fun Kq hKq => ?_)
  go_simp
  refine hKq.out _ _ (fun h => absurd h (by decide)) ?_
  clear hKq Kq
  try simp only [Act.put, List.setIfInBounds_toArray, List.set_cons_zero, List.set_cons_succ, List.getElem_toArray, List.getElem_cons_succ, List.getElem_cons_zero]
  refine wpAnyB_done (by kernel_rfl) ?_ _
  replace NL := NL.setKeys (.slice (some ⟨bl, 0, none⟩) (ln + rn) capl)
  have k2 : Kept (· = lnb) w1 (w1.setCell ⟨lnb, 0, none⟩ (.slice (some ⟨bl, 0, none⟩) (ln + rn) capl)) := kept_set (Kept.refl _ w1) _ _
  generalize w1.setCell ⟨lnb, 0, none⟩ (.slice (some ⟨bl, 0, none⟩) (ln + rn) capl) = w2 at *
  replace N := N.kept k2 d3.out
  replace KB := KB.kept k2 d8.out
  replace CB := CB.kept k2 d12.out
  replace NR := NR.kept k2 (Ne.symm d17.out)
  replace KR := KR.kept k2 (Ne.symm d18.out)
  replace BL := BL.kept k2 (hbl.out lnb lNL (Ne.symm d16.out))
  replace kk := (kk.trans (k1.mono (fun b _ h => by subst h; simp))).trans (k2.mono (fun b _ h => by subst h; simp))
  have hs2 : w.heap.size ≤ w2.heap.size := kk.size
  clear hHeld u1 u2 hsrc cl fl k1 k2 KL cl1
  go_wp2_with fail
  have u1 : w2.cell? ⟨lnb, 1, none⟩ = some (.slice none 0 0) := NL.cell 1
  have u2 : w2.cell? ⟨rnb, 1, none⟩ = some (.slice none 0 0) := NR.cell 1
  have fl := NL.frozen 1
  refine wp_region_B (fun w' => w'.cell? ⟨lnb, 1, none⟩ = some (.slice none 0 0) ∧ w'.cell? ⟨rnb, 1, none⟩ = some (.slice none 0 0)) (fun j => j != 12) (by kernel_rfl) (⟨by simpa using u1, by simpa using u2⟩) (fun hHeld => ?_)
  simp only [List.size_toArray, List.length_cons, List.length_nil, Nat.reduceAdd, Array.replicate_succ, Array.replicate_zero, List.push_toArray, List.append_toArray, List.nil_append, List.cons_append]
  refine wpAnyB_takeW (i := 0) (v := ?_) rfl (by kernel_rfl) (by kernel_rfl) (by kernel_rfl) (fun _ _ _ h => h) (Or.inl ⟨by rfl, ?_⟩) ?_
  rotate_left 1
  · intro w hSw; go_simp <;> with_reducible rfl
  try simp only [Act.put, List.setIfInBounds_toArray, List.set_cons_zero, List.set_cons_succ, List.getElem_toArray, List.getElem_cons_succ, List.getElem_cons_zero]
  refine wpAnyB_takeW (i := 1) (v := ?_) rfl (by kernel_rfl) (by kernel_rfl) (by kernel_rfl) (fun _ _ _ h => h) (Or.inl ⟨by rfl, ?_⟩) ?_
  rotate_left 1
  · intro w hSw; go_simp <;> with_reducible rfl
  try simp only [Act.put, List.setIfInBounds_toArray, List.set_cons_zero, List.set_cons_succ, List.getElem_toArray, List.getElem_cons_succ, List.getElem_cons_zero]
  refine wpAnyB_takeW (i := 2) (v := ?_) rfl (by kernel_rfl) (by kernel_rfl) (by kernel_rfl) (fun _ _ _ h => h) (Or.inl ⟨by rfl, ?_⟩) ?_
  rotate_left 1
  · intro w hSw; go_simp <;> with_reducible rfl
  try simp only [Act.put, List.setIfInBounds_toArray, List.set_cons_zero, List.set_cons_succ, List.getElem_toArray, List.getElem_cons_succ, List.getElem_cons_zero]
  refine wpAnyB_takeW (i := 3) (v := ?_) rfl (by kernel_rfl) (by kernel_rfl) (by kernel_rfl) (fun _ _ _ h => h) (Or.inl ⟨by rfl, ?_⟩) ?_
  rotate_left 1
  · intro w hSw; go_simp <;> with_reducible rfl
  try simp only [Act.put, List.setIfInBounds_toArray, List.set_cons_zero, List.set_cons_succ, List.getElem_toArray, List.getElem_cons_succ, List.getElem_cons_zero]
  refine wpAnyB_take (i := 4) (v := ?_) rfl (by kernel_rfl) (by kernel_rfl) (by kernel_rfl) (by kernel_rfl) (fun _ _ _ h => h) (Or.inl ⟨by rfl, ?_⟩) hHeld ?_
  rotate_left 1
  · intro w hSw; (try dsimp only at hSw); obtain ⟨q1, q2⟩ := hSw; go_simp <;> with_reducible rfl
  try simp only [Act.put, List.setIfInBounds_toArray, List.set_cons_zero, List.set_cons_succ, List.getElem_toArray, List.getElem_cons_succ, List.getElem_cons_zero]
  refine wpAnyB_takeW (i := 5) (v := ?_) rfl (by kernel_rfl) (by kernel_rfl) (by kernel_rfl) (fun _ _ _ h => h) (Or.inl ⟨by rfl, ?_⟩) ?_
  rotate_left 1
  · intro w hSw; go_simp <;> with_reducible rfl
  try simp only [Act.put, List.setIfInBounds_toArray, List.set_cons_zero, List.set_cons_succ, List.getElem_toArray, List.getElem_cons_succ, List.getElem_cons_zero]
  refine wpAnyB_takeW (i := 6) (v := ?_) rfl (by kernel_rfl) (by kernel_rfl) (by kernel_rfl) (fun _ _ _ h => h) (Or.inl ⟨by rfl, ?_⟩) ?_
  rotate_left 1
  · intro w hSw; go_simp <;> with_reducible rfl
  try simp only [Act.put, List.setIfInBounds_toArray, List.set_cons_zero, List.set_cons_succ, List.getElem_toArray, List.getElem_cons_succ, List.getElem_cons_zero]
  refine wpAnyB_takeW (i := 7) (v := ?_) rfl (by kernel_rfl) (by kernel_rfl) (by kernel_rfl) (fun _ _ _ h => h) (Or.inl ⟨by rfl, ?_⟩) ?_
  rotate_left 1
  · intro w hSw; go_simp <;> with_reducible rfl
  try simp only [Act.put, List.setIfInBounds_toArray, List.set_cons_zero, List.set_cons_succ, List.getElem_toArray, List.getElem_cons_succ, List.getElem_cons_zero]
  refine wpAnyB_take (i := 8) (v := ?_) rfl (by kernel_rfl) (by kernel_rfl) (by kernel_rfl) (by kernel_rfl) (fun _ _ _ h => h) (Or.inl ⟨by rfl, ?_⟩) hHeld ?_
  rotate_left 1
  · intro w hSw; (try dsimp only at hSw); obtain ⟨q1, q2⟩ := hSw; go_simp <;> with_reducible rfl
  try simp only [Act.put, List.setIfInBounds_toArray, List.set_cons_zero, List.set_cons_succ, List.getElem_toArray, List.getElem_cons_succ, List.getElem_cons_zero]
  refine wpAnyB_step (i := 9) (by kernel_rfl) rfl (fun Kq hKq => ?_)
  refine step_nil57 rfl (.tmp 67) (.tmp 71) rfl rfl rfl ?_
  have hHeld := hHeld
  refine hKq.out _ _ (fun _ _ => hHeld) ?_
  clear hKq Kq
  try simp only [Act.put, List.setIfInBounds_toArray, List.set_cons_zero, List.set_cons_succ, List.getElem_toArray, List.getElem_cons_succ, List.getElem_cons_zero]
  refine wpAnyB_takeW (i := 10) (v := ?_) rfl (by kernel_rfl) (by kernel_rfl) (by kernel_rfl) (fun _ _ _ h => h) (Or.inl ⟨by rfl, ?_⟩) ?_
  rotate_left 1
  · intro w hSw; go_simp <;> with_reducible rfl
  try simp only [Act.put, List.setIfInBounds_toArray, List.set_cons_zero, List.set_cons_succ, List.getElem_toArray, List.getElem_cons_succ, List.getElem_cons_zero]
  refine wpAnyB_takeW (i := 11) (v := ?_) rfl (by kernel_rfl) (by kernel_rfl) (by kernel_rfl) (fun _ _ _ h => h) (Or.inl ⟨by rfl, ?_⟩) ?_
  rotate_left 1
  · intro w hSw; go_simp <;> with_reducible rfl
  try simp only [Act.put, List.setIfInBounds_toArray, List.set_cons_zero, List.set_cons_succ, List.getElem_toArray, List.getElem_cons_succ, List.getElem_cons_zero]
  refine wpAnyB_step (i := 12) (by kernel_rfl) rfl (fun Kq hKq => ?_)
  go_simp
  refine hKq.out _ _ (fun h => absurd h (by decide)) ?_
  clear hKq Kq
  try simp only [Act.put, List.setIfInBounds_toArray, List.set_cons_zero, List.set_cons_succ, List.getElem_toArray, List.getElem_cons_succ, List.getElem_cons_zero]
  refine wpAnyB_done (by kernel_rfl) ?_ _
  replace NL := (NL.setKids (.slice none 0 0)).drew
  have k2 : Kept (· = lnb) w2 (w2.setCell ⟨lnb, 1, none⟩ (.slice none 0 0)).drew := (kept_set (Kept.refl _ w2) _ _).drew
  generalize (w2.setCell ⟨lnb, 1, none⟩ (.slice none 0 0)).drew = V at *
  replace N := N.kept k2 d3.out
  replace KB := KB.kept k2 d8.out
  replace CB := CB.kept k2 d12.out
  replace NR := NR.kept k2 (Ne.symm d17.out)
  replace KR := KR.kept k2 (Ne.symm d18.out)
  replace BL := BL.kept k2 (hbl.out lnb lNL (Ne.symm d16.out))
  replace kk := kk.trans (k2.mono (fun b _ h => by subst h; simp))
  clear hHeld u1 u2 fl k2
  obtain ⟨lc, hlc⟩ : ∃ lc, Hid (lks.length = lc) := ⟨_, rfl⟩
  obtain ⟨rc, hrc⟩ : ∃ rc, Hid (rks.length = rc) := ⟨_, rfl⟩
  obtain ⟨ls, hls⟩ : ∃ ls, Hid (lks.sum = ls) := ⟨_, rfl⟩
  obtain ⟨rs, hrs⟩ : ∃ rs, Hid (rks.sum = rs) := ⟨_, rfl⟩
  rw [hlc.out, hls.out] at NL
  rw [hrc.out, hrs.out] at NR
  have hA := fun w => add_calls ls rs (by rw [← hls.out, ← hrs.out]; exact hsum) w
  have hwrap : IntKind.i64.wrap ((lc : Int) + (rc : Int)) = (lc : Int) + (rc : Int) := by
    have := hlc.out
    have := hrc.out
    have := hcnt.out
    rw [IntKind.wrap_i64]
    omega
  go_wp2_with fail
  have v1 : V.cell? ⟨lnb, 2, none⟩ = some (.int .i64 (lc : Nat)) := NL.cell 2
  have v2 : V.cell? ⟨rnb, 2, none⟩ = some (.int .i64 (rc : Nat)) := NR.cell 2
  refine wp_region_B (fun w' => w'.cell? ⟨lnb, 2, none⟩ = some (.int .i64 (lc : Nat)) ∧ w'.cell? ⟨rnb, 2, none⟩ = some (.int .i64 (rc : Nat)) ∧ Below V.heap.size V w') (fun j => j != 22 && j != 25) (by kernel_rfl) (⟨by simpa using v1, by simpa using v2, (Below.refl _ V).drew⟩) (fun hHeld => ?_)
  simp only [List.size_toArray, List.length_cons, List.length_nil, Nat.reduceAdd, Array.replicate_succ, Array.replicate_zero, List.push_toArray, List.append_toArray, List.nil_append, List.cons_append]
  refine wpAnyB_takeW (i := 0) (v := ?_) rfl (by kernel_rfl) (by kernel_rfl) (by kernel_rfl) (fun _ _ _ h => h) (Or.inl ⟨by rfl, ?_⟩) ?_
  rotate_left 1
  · intro w hSw; go_simp <;> with_reducible rfl
  try simp only [Act.put, List.setIfInBounds_toArray, List.set_cons_zero, List.set_cons_succ, List.getElem_toArray, List.getElem_cons_succ, List.getElem_cons_zero]
  refine wpAnyB_takeW (i := 1) (v := ?_) rfl (by kernel_rfl) (by kernel_rfl) (by kernel_rfl) (fun _ _ _ h => h) (Or.inl ⟨by rfl, ?_⟩) ?_
  rotate_left 1
  · intro w hSw; go_simp <;> with_reducible rfl
  try simp only [Act.put, List.setIfInBounds_toArray, List.set_cons_zero, List.set_cons_succ, List.getElem_toArray, List.getElem_cons_succ, List.getElem_cons_zero]
  refine wpAnyB_takeW (i := 2) (v := ?_) rfl (by kernel_rfl) (by kernel_rfl) (by kernel_rfl) (fun _ _ _ h => h) (Or.inl ⟨by rfl, ?_⟩) ?_
  rotate_left 1
  · intro w hSw; go_simp <;> with_reducible rfl
  try simp only [Act.put, List.setIfInBounds_toArray, List.set_cons_zero, List.set_cons_succ, List.getElem_toArray, List.getElem_cons_succ, List.getElem_cons_zero]
  refine wpAnyB_takeW (i := 3) (v := ?_) rfl (by kernel_rfl) (by kernel_rfl) (by kernel_rfl) (fun _ _ _ h => h) (Or.inl ⟨by rfl, ?_⟩) ?_
  rotate_left 1
  · intro w hSw; go_simp <;> with_reducible rfl
  try simp only [Act.put, List.setIfInBounds_toArray, List.set_cons_zero, List.set_cons_succ, List.getElem_toArray, List.getElem_cons_succ, List.getElem_cons_zero]
  refine wpAnyB_takeW (i := 4) (v := ?_) rfl (by kernel_rfl) (by kernel_rfl) (by kernel_rfl) (fun _ _ _ h => h) (Or.inl ⟨by rfl, ?_⟩) ?_
  rotate_left 1
  · intro w hSw; go_simp <;> with_reducible rfl
  try simp only [Act.put, List.setIfInBounds_toArray, List.set_cons_zero, List.set_cons_succ, List.getElem_toArray, List.getElem_cons_succ, List.getElem_cons_zero]
  refine wpAnyB_take (i := 5) (v := ?_) rfl (by kernel_rfl) (by kernel_rfl) (by kernel_rfl) (by kernel_rfl) (fun _ _ _ h => h) (Or.inl ⟨by rfl, ?_⟩) hHeld ?_
  rotate_left 1
  · intro w hSw; (try dsimp only at hSw); obtain ⟨q1, q2, q3⟩ := hSw; go_simp <;> with_reducible rfl
  try simp only [Act.put, List.setIfInBounds_toArray, List.set_cons_zero, List.set_cons_succ, List.getElem_toArray, List.getElem_cons_succ, List.getElem_cons_zero]
  refine wpAnyB_takeW (i := 6) (v := ?_) rfl (by kernel_rfl) (by kernel_rfl) (by kernel_rfl) (fun _ _ _ h => h) (Or.inl ⟨by rfl, ?_⟩) ?_
  rotate_left 1
  · intro w hSw; go_simp <;> with_reducible rfl
  try simp only [Act.put, List.setIfInBounds_toArray, List.set_cons_zero, List.set_cons_succ, List.getElem_toArray, List.getElem_cons_succ, List.getElem_cons_zero]
  refine wpAnyB_takeW (i := 7) (v := ?_) rfl (by kernel_rfl) (by kernel_rfl) (by kernel_rfl) (fun _ _ _ h => h) (Or.inl ⟨by rfl, ?_⟩) ?_
  rotate_left 1
  · intro w hSw; go_simp <;> with_reducible rfl
  try simp only [Act.put, List.setIfInBounds_toArray, List.set_cons_zero, List.set_cons_succ, List.getElem_toArray, List.getElem_cons_succ, List.getElem_cons_zero]
  refine wpAnyB_takeW (i := 8) (v := ?_) rfl (by kernel_rfl) (by kernel_rfl) (by kernel_rfl) (fun _ _ _ h => h) (Or.inl ⟨by rfl, ?_⟩) ?_
  rotate_left 1
  · intro w hSw; go_simp <;> with_reducible rfl
  try simp only [Act.put, List.setIfInBounds_toArray, List.set_cons_zero, List.set_cons_succ, List.getElem_toArray, List.getElem_cons_succ, List.getElem_cons_zero]
  refine wpAnyB_take (i := 9) (v := ?_) rfl (by kernel_rfl) (by kernel_rfl) (by kernel_rfl) (by kernel_rfl) (fun _ _ _ h => h) (Or.inl ⟨by rfl, ?_⟩) hHeld ?_
  rotate_left 1
  · intro w hSw; (try dsimp only at hSw); obtain ⟨q1, q2, q3⟩ := hSw; go_simp <;> with_reducible rfl
  try simp only [Act.put, List.setIfInBounds_toArray, List.set_cons_zero, List.set_cons_succ, List.getElem_toArray, List.getElem_cons_succ, List.getElem_cons_zero]
  refine wpAnyB_takeW (i := 10) (v := ?_) rfl (by kernel_rfl) (by kernel_rfl) (by kernel_rfl) (fun _ _ _ h => h) (Or.inl ⟨by rfl, ?_⟩) ?_
  rotate_left 1
  · intro w hSw; go_simp <;> with_reducible rfl
  try simp only [Act.put, List.setIfInBounds_toArray, List.set_cons_zero, List.set_cons_succ, List.getElem_toArray, List.getElem_cons_succ, List.getElem_cons_zero]
  refine wpAnyB_takeW (i := 11) (v := ?_) rfl (by kernel_rfl) (by kernel_rfl) (by kernel_rfl) (fun _ _ _ h => h) (Or.inl ⟨by rfl, ?_⟩) ?_
  rotate_left 1
  · intro w hSw; go_simp <;> with_reducible rfl
  try simp only [Act.put, List.setIfInBounds_toArray, List.set_cons_zero, List.set_cons_succ, List.getElem_toArray, List.getElem_cons_succ, List.getElem_cons_zero]
  refine wpAnyB_takeW (i := 12) (v := ?_) rfl (by kernel_rfl) (by kernel_rfl) (by kernel_rfl) (fun _ _ _ h => h) (Or.inl ⟨by rfl, ?_⟩) ?_
  rotate_left 1
  · intro w hSw; go_simp <;> with_reducible rfl
  try simp only [Act.put, List.setIfInBounds_toArray, List.set_cons_zero, List.set_cons_succ, List.getElem_toArray, List.getElem_cons_succ, List.getElem_cons_zero]
  refine wpAnyB_takeW (i := 13) (v := ?_) rfl (by kernel_rfl) (by kernel_rfl) (by kernel_rfl) (fun _ _ _ h => h) (Or.inl ⟨by rfl, ?_⟩) ?_
  rotate_left 1
  · intro w hSw; go_simp <;> with_reducible rfl
  try simp only [Act.put, List.setIfInBounds_toArray, List.set_cons_zero, List.set_cons_succ, List.getElem_toArray, List.getElem_cons_succ, List.getElem_cons_zero]
  refine wpAnyB_load47 (i := 14) rfl (by kernel_rfl) (by kernel_rfl) (by kernel_rfl) (by kernel_rfl) (lnb) (3) (ls) (.tmp 88) rfl rfl (fun _ _ _ h => h) (by rfl) (fun w hSw => rangeAt_of_block NL.digR (hSw.2.2.block _ NL.lt)) hHeld ?_
  try simp only [Act.put, List.setIfInBounds_toArray, List.set_cons_zero, List.set_cons_succ, List.getElem_toArray, List.getElem_cons_succ, List.getElem_cons_zero]
  refine wpAnyB_takeW (i := 15) (v := ?_) rfl (by kernel_rfl) (by kernel_rfl) (by kernel_rfl) (fun _ _ _ h => h) (Or.inl ⟨by rfl, ?_⟩) ?_
  rotate_left 1
  · intro w hSw; go_simp <;> with_reducible rfl
  try simp only [Act.put, List.setIfInBounds_toArray, List.set_cons_zero, List.set_cons_succ, List.getElem_toArray, List.getElem_cons_succ, List.getElem_cons_zero]
  refine wpAnyB_takeW (i := 16) (v := ?_) rfl (by kernel_rfl) (by kernel_rfl) (by kernel_rfl) (fun _ _ _ h => h) (Or.inl ⟨by rfl, ?_⟩) ?_
  rotate_left 1
  · intro w hSw; go_simp <;> with_reducible rfl
  try simp only [Act.put, List.setIfInBounds_toArray, List.set_cons_zero, List.set_cons_succ, List.getElem_toArray, List.getElem_cons_succ, List.getElem_cons_zero]
  refine wpAnyB_takeW (i := 17) (v := ?_) rfl (by kernel_rfl) (by kernel_rfl) (by kernel_rfl) (fun _ _ _ h => h) (Or.inl ⟨by rfl, ?_⟩) ?_
  rotate_left 1
  · intro w hSw; go_simp <;> with_reducible rfl
  try simp only [Act.put, List.setIfInBounds_toArray, List.set_cons_zero, List.set_cons_succ, List.getElem_toArray, List.getElem_cons_succ, List.getElem_cons_zero]
  refine wpAnyB_load47 (i := 18) rfl (by kernel_rfl) (by kernel_rfl) (by kernel_rfl) (by kernel_rfl) (rnb) (3) (rs) (.tmp 92) rfl rfl (fun _ _ _ h => h) (by rfl) (fun w hSw => rangeAt_of_block NR.digR (hSw.2.2.block _ NR.lt)) hHeld ?_
  try simp only [Act.put, List.setIfInBounds_toArray, List.set_cons_zero, List.set_cons_succ, List.getElem_toArray, List.getElem_cons_succ, List.getElem_cons_zero]
  refine wpAnyB_step (i := 19) (by kernel_rfl) rfl (fun Kq hKq => ?_)
  go_simp
  refine (hA _).mono ?_
  rintro e w7 ⟨rfl, hw7⟩
  dsimp only
  have hb7 : Below V.heap.size V w7 := hHeld.2.2.trans (hw7.mono hHeld.2.2.size)
  have hHeld := (⟨(hb7.cell (p := ⟨lnb, 2, none⟩) NL.lt).trans v1, (hb7.cell (p := ⟨rnb, 2, none⟩) NR.lt).trans v2, hb7⟩ : _ ∧ _ ∧ _)
  refine hKq.out _ _ (fun _ _ => hHeld) ?_
  clear hKq Kq
  try simp only [Act.put, List.setIfInBounds_toArray, List.set_cons_zero, List.set_cons_succ, List.getElem_toArray, List.getElem_cons_succ, List.getElem_cons_zero]
  refine wpAnyB_takeW (i := 20) (v := ?_) rfl (by kernel_rfl) (by kernel_rfl) (by kernel_rfl) (fun _ _ _ h => h) (Or.inl ⟨by rfl, ?_⟩) ?_
  rotate_left 1
  · intro w hSw; go_simp <;> with_reducible rfl
  try simp only [Act.put, List.setIfInBounds_toArray, List.set_cons_zero, List.set_cons_succ, List.getElem_toArray, List.getElem_cons_succ, List.getElem_cons_zero]
  refine wpAnyB_takeW (i := 21) (v := ?_) rfl (by kernel_rfl) (by kernel_rfl) (by kernel_rfl) (fun _ _ _ h => h) (Or.inl ⟨by rfl, ?_⟩) ?_
  rotate_left 1
  · intro w hSw; go_simp <;> with_reducible rfl
  try simp only [Act.put, List.setIfInBounds_toArray, List.set_cons_zero, List.set_cons_succ, List.getElem_toArray, List.getElem_cons_succ, List.getElem_cons_zero]
  have N7 := NL.below hb7
  have c7 : w7.cell? ⟨lnb, 2, none⟩ = some (.int .i64 (lc : Nat)) := N7.cell 2
  have f7 := N7.frozen 2
  refine wpAnyB_step (i := 22) (by kernel_rfl) rfl (fun Kq hKq => ?_)
  go_simp
  refine hKq.out _ _ (fun h => absurd h (by decide)) ?_
  clear hKq Kq
  try simp only [Act.put, List.setIfInBounds_toArray, List.set_cons_zero, List.set_cons_succ, List.getElem_toArray, List.getElem_cons_succ, List.getElem_cons_zero]
  have e8 : (lc : Int) + (rc : Int) = ((lc + rc : Nat) : Int) := by omega
  rw [e8]
  clear e8 hwrap
  have N8 := N7.setCount (lc + rc)
  have T8 := N8.digT
  refine wpAnyB_takeW (i := 23) (v := ?_) rfl (by kernel_rfl) (by kernel_rfl) (by kernel_rfl) (fun _ _ _ h => h) (Or.inl ⟨by rfl, ?_⟩) ?_
  rotate_left 1
  · intro w hSw; go_simp <;> with_reducible rfl
  try simp only [Act.put, List.setIfInBounds_toArray, List.set_cons_zero, List.set_cons_succ, List.getElem_toArray, List.getElem_cons_succ, List.getElem_cons_zero]
  refine wpAnyB_takeW (i := 24) (v := ?_) rfl (by kernel_rfl) (by kernel_rfl) (by kernel_rfl) (fun _ _ _ h => h) (Or.inl ⟨by rfl, ?_⟩) ?_
  rotate_left 1
  · intro w hSw; go_simp <;> with_reducible rfl
  try simp only [Act.put, List.setIfInBounds_toArray, List.set_cons_zero, List.set_cons_succ, List.getElem_toArray, List.getElem_cons_succ, List.getElem_cons_zero]
  refine wpAnyB_step (i := 25) (by kernel_rfl) rfl (fun Kq hKq => ?_)
  refine step_st47 rfl rfl (.tmp 98) (.tmp 94) rfl lnb 3 (ls + rs) rfl rfl T8 ?_
  refine hKq.out _ _ (fun h => absurd h (by decide)) ?_
  clear hKq Kq
  try simp only [Act.put, List.setIfInBounds_toArray, List.set_cons_zero, List.set_cons_succ, List.getElem_toArray, List.getElem_cons_succ, List.getElem_cons_zero]
  refine wpAnyB_done (by kernel_rfl) ?_ _
  have N9 := N8.setDig (ls + rs)
  have k9 : Kept (· = lnb) V ((w7.setCell ⟨lnb, 2, none⟩ (.int .i64 ((lc + rc : Nat) : Int))).setCells lnb 3 (dgc (ls + rs))) := kept_sets (kept_set (Kept.of_below hb7) _ _) _ _
  generalize (w7.setCell ⟨lnb, 2, none⟩ (.int .i64 ((lc + rc : Nat) : Int))).setCells lnb 3 (dgc (ls + rs)) = X at *
  clear hA N7 c7 f7 N8 T8 hHeld hb7 hw7 v1 v2
  replace N := N.kept k9 d3.out
  replace KB := KB.kept k9 d8.out
  replace CB := CB.kept k9 d12.out
  replace NR := NR.kept k9 (Ne.symm d17.out)
  replace KR := KR.kept k9 (Ne.symm d18.out)
  replace BL := BL.kept k9 (hbl.out lnb lNL (Ne.symm d16.out))
  replace kk := kk.trans (k9.mono (fun b _ h => by subst h; simp))
  replace NL := N9
  clear k9 N9
  have FT : Tree 0 capl capl X lnb (lks ++ rks) (ln + rn) [lnb, bl] := ⟨bl, xl', ⟨rfl, Ne.symm (hbl.out lnb lNL (Ne.symm d16.out)), hln'.out.symm, hlen1, by rw [htk1, htl.out], hcap1, ?ftN, BL, ?ftS, ?ftM⟩⟩
  case ftN => rw [List.length_append, List.sum_append, hlc.out, hrc.out, hls.out, hrs.out]; exact NL
  case ftS => rw [List.pairwise_append]; exact ⟨L.hSorted, R.hSorted, hlr⟩
  case ftM =>
    intro x hx
    rcases List.mem_append.1 hx with h1 | h1
    · exact L.hSmall x h1
    · exact R.hSmall x h1
  have hownF : Hid (∀ x ∈ [lnb, bl], x ∈ l.own ++ r.own ∨ w.heap.size ≤ x) := by
    intro x hx
    rw [L.hOwn]
    simp only [List.mem_cons, List.not_mem_nil, or_false] at hx
    rcases hx with rfl | rfl
    · exact .inl (by simp)
    · rcases hb1 with h | h
      · exact .inl (by rw [h]; simp)
      · exact .inr (Nat.le_trans hs0 h)
  have hkept : Kept (fun b => b = nb ∨ b = kb ∨ b = cb ∨ b ∈ l.own ++ r.own) w X := kk.mono (fun b _ h => by
    rw [L.hOwn, R.hOwn]
    rcases h with h | h | h | h | h | h | h <;> simp [h])
  have hlnbO : Hid (lnb ∈ l.own ++ r.own) := by rw [L.hOwn]; show _ ∈ _; simp
  have hdisF : Hid (∀ b ∈ [lnb, bl], ¬ (b = nb ∨ b = kb ∨ b = cb)) := by
    intro b hb
    simp only [List.mem_cons, List.not_mem_nil, or_false] at hb
    rcases hb with rfl | rfl
    · rintro (h | h | h)
      · exact (Ne.symm d3.out) h
      · exact (Ne.symm d8.out) h
      · exact (Ne.symm d12.out) h
    · rintro (h | h | h)
      · exact hbl.out nb lN (Ne.symm d4.out) h
      · exact hbl.out kb lKB (Ne.symm d9.out) h
      · exact hbl.out cb lCB (Ne.symm d13.out) h
  have hlks2 : l.ks = lks := hlks.out
  have hrks2 : r.ks = rks := hrks.out
  have hlnb2 : l.nb = lnb := hlnb.out
  have hjA : j = A.length := hj.out
  have hlne : l.ks ≠ [] := by
    intro e
    have := hln.out
    rw [← hlks2, e] at this
    simp at this
    omega
  replace hlks2 := Hid.mk' hlks2
  replace hrks2 := Hid.mk' hrks2
  replace hlnb2 := Hid.mk' hlnb2
  replace hjA := Hid.mk' hjA
  replace hlne := Hid.mk' hlne
  replace hltA := Hid.mk' hltA
  have hsumF : (lks ++ rks).sum < 18446744073709551616 := by rw [List.sum_append]; exact hsum
  have hcntF : (lks ++ rks).length < 1099511627776 := by rw [List.length_append]; exact hcnt.out
  by_cases hsm : ln + rn ≤ 32
  · have hcap33 := hcapE (by omega)
    have FT3 : Tree 0 33 33 X lnb (lks ++ rks) (ln + rn) [lnb, bl] := by rw [← hcap33]; exact FT
    have hD : Calls Yba.prog 14 #[.slice (some ⟨kb, 0, none⟩) n 33, .int .i64 ((j : Int) + 1), .int .i64 ((j : Int) + 2)] X fun e w' => e = .returned (.slice (some ⟨kb, 0, none⟩) (n - 1) 33) ∧ Blk w' kb (ids ((xs.take n).eraseIdx (j + 1) ++ 0 :: xs.drop n)) 30 ∧ Kept (· = kb) X w' := by
      have := del_calls kb n 33 (j + 1) xs X KB (by rw [Sh.hXs]; omega) Sh.hXs.symm (by omega) (by rw [Sh.hXs]; omega)
      rw [show (((j + 1 : Nat) : Int) + 1) = (j : Int) + 2 by omega, show (((j + 1 : Nat) : Int)) = (j : Int) + 1 by omega] at this
      exact this
    have hE : ∀ Y, Blk Y cb ps 32 → Calls Yba.prog 53 #[.slice (some ⟨cb, 0, none⟩) n 33, .int .i64 ((j : Int) + 1), .int .i64 ((j : Int) + 2)] Y fun e w' => e = .returned (.slice (some ⟨cb, 0, none⟩) (n - 1) 33) ∧ Blk w' cb ((ps.take n).eraseIdx (j + 1) ++ .pointer none :: ps.drop n) 32 ∧ Kept (· = cb) Y w' := fun Y hY => by
      have := delp_calls cb n 33 (j + 1) ps Y hY Sh.hOne (by rw [Sh.hPs]; omega) Sh.hPs.symm (by omega) (by rw [Sh.hPs]; omega)
      rw [show (((j + 1 : Nat) : Int) + 1) = (j : Int) + 2 by omega, show (((j + 1 : Nat) : Int)) = (j : Int) + 1 by omega] at this
      exact this
    have en2 := @run_neq_pointer_nil Yba.prog
    have x0 : X.cell? ⟨nb, 0, none⟩ = some (.slice (some ⟨kb, 0, none⟩) n 33) := N.cell 0
    go_wp2_with (first
      | (go_at_call 52; refine (split_none FT3 hsm).mono ?_; rintro e w5 ⟨rfl, hw5⟩; rw [hw5]; clear hw5)
      | (go_at_call 14; refine hD.mono ?_; rintro e X1 ⟨rfl, KB1, k1⟩; have N1 := N.kept k1 d1.out; have CB1 := CB.kept k1 (Ne.symm d7.out); have x1 : X1.cell? ⟨nb, 0, none⟩ = some (.slice (some ⟨kb, 0, none⟩) n 33) := N1.cell 0; have f1 := N1.frozen 0; have N2 := N1.setKeys (.slice (some ⟨kb, 0, none⟩) (n - 1) 33); have CB2 := CB1.setOther (p := ⟨nb, 0, none⟩) d2.out (.slice (some ⟨kb, 0, none⟩) (n - 1) 33); have KB2 := KB1.setOther (p := ⟨nb, 0, none⟩) d1.out (.slice (some ⟨kb, 0, none⟩) (n - 1) 33); have x2 : (X1.setCell ⟨nb, 0, none⟩ (.slice (some ⟨kb, 0, none⟩) (n - 1) 33)).cell? ⟨nb, 1, none⟩ = some (.slice (some ⟨cb, 0, none⟩) n 33) := N2.cell 1; have hE1 := hE _ CB2; have kA := kept_set (nb := nb) (Kept.refl _ X1) 0 (.slice (some ⟨kb, 0, none⟩) (n - 1) 33))
      | (go_at_call 53; refine hE1.mono ?_; rintro e X3 ⟨rfl, CB3, k3⟩; have N3 := N2.kept k3 d2.out; have KB3 := KB2.kept k3 d7.out; have x3 : X3.cell? ⟨nb, 1, none⟩ = some (.slice (some ⟨cb, 0, none⟩) n 33) := N3.cell 1; have f3 := N3.frozen 1))
    go_end0
    refine ⟨rfl, ?_⟩
    have N4 := N3.setKids (.slice (some ⟨cb, 0, none⟩) (n - 1) 33)
    have KB4 := KB3.setOther (p := ⟨nb, 1, none⟩) d1.out (.slice (some ⟨cb, 0, none⟩) (n - 1) 33)
    have CB4 := CB3.setOther (p := ⟨nb, 1, none⟩) d2.out (.slice (some ⟨cb, 0, none⟩) (n - 1) 33)
    have kB := kept_set (nb := nb) (Kept.refl _ X3) 1 (.slice (some ⟨cb, 0, none⟩) (n - 1) 33)
    have kAll : Kept (fun b => b = nb ∨ b = kb ∨ b = cb) X _ := (((k1.mono (T := fun b => b = nb ∨ b = kb ∨ b = cb) (fun b _ h => .inr (.inl h))).trans (kA.mono (fun b _ h => .inl h))).trans (k3.mono (fun b _ h => .inr (.inr h)))).trans (kB.mono (fun b _ h => .inl h))
    have FT4 := FT3.kept kAll (fun b hb h => hdisF.out b hb h)
    rw [hjA.out] at KB4 CB4
    refine refout_merge (m := ln + rn) Sh hltA.out hlne.out (ownF := [lnb, bl]) ?_ ⟨by omega, hsm⟩ hownF.out N4 KB4 CB4 (hkept.trans (kAll.mono (fun b _ h => by rcases h with h | h | h <;> simp [h])))
    rw [hlks2.out, hrks2.out, hlnb2.out]
    exact FT4
  · have en2 := @run_neq_pointer_nil Yba.prog
    go_wp2_with (go_at_call 52; refine (split_calls FT (by omega) (by omega) hsumF hcntF).mono ?_; rintro e Y ⟨nb2, rfl, ⟨ks1, ks2, own1, own2, bd, kb2, q2, xs2, c2, s2, hks, T1, T2, hnd12, hsub, hbd1, hbd2, hbd, M2, MK2, hx0, hnb2, hkb2⟩, k1⟩; unfold ptr)
    replace N := N.kept k1 d3.out
    replace KB := KB.kept k1 d8.out
    replace CB := CB.kept k1 d12.out
    have hXw : w.heap.size ≤ X.heap.size := hkept.size
    have y1 : Y.cell? ⟨nb, 0, none⟩ = some (.slice (some ⟨kb, 0, none⟩) n 33) := N.cell 0
    have y2 : Y.cell? ⟨nb, 1, none⟩ = some (.slice (some ⟨cb, 0, none⟩) n 33) := N.cell 1
    have y3 : Y.cell? ⟨nb2, 0, none⟩ = some (.slice (some ⟨kb2, 0, none⟩) ((ln + rn) - (ln + rn) / 2) 33) := M2.cell 0
    have y4 : 0 < (ln + rn) - (ln + rn) / 2 := by omega
    have RB : Y.rangeAt kb2 0 (idc bd) := by
      have := MK2.sub (k := 0) (zs := [bd]) (by
        obtain ⟨h1, h2⟩ := List.getElem?_eq_some_iff.1 hx0
        rw [List.drop_zero]
        cases xs2 with
        | nil => simp at h1
        | cons a t => simp at h2; subst h2; exact ⟨t, rfl⟩)
      simpa [ids] using this
    generalize hmm : (ln + rn) - (ln + rn) / 2 = mm at *
    have hcbs : ∃ u, Y.cell? ⟨cb, j + 1, none⟩ = some u := by
      have := CB.there (o := j + 1) (n := 1) (by rw [Sh.hPs]; omega) 0 (by omega)
      exact Option.isSome_iff_exists.1 this.1
    obtain ⟨ux, hux⟩ := hcbs
    have hwj : IntKind.i64.wrap ((j : Int) + 1) = (j : Int) + 1 := by rw [IntKind.wrap_i64]; omega
    have hj0 : (0 : Int) ≤ (j : Int) + 1 := by omega
    have fux := CB.frozen (j + 1)
    refine wp_region_B (fun w' => w'.cell? ⟨nb, 0, none⟩ = some (.slice (some ⟨kb, 0, none⟩) n 33) ∧ w'.cell? ⟨nb, 1, none⟩ = some (.slice (some ⟨cb, 0, none⟩) n 33) ∧ w'.cell? ⟨nb2, 0, none⟩ = some (.slice (some ⟨kb2, 0, none⟩) mm 33) ∧ w'.rangeAt kb2 0 (idc bd)) (fun j => j != 20 && j != 22) (by kernel_rfl) (⟨by simpa using y1, by simpa using y2, by simpa using y3, by simpa using RB⟩) (fun hHeld => ?_)
    simp only [List.size_toArray, List.length_cons, List.length_nil, Nat.reduceAdd, Array.replicate_succ, Array.replicate_zero, List.push_toArray, List.append_toArray, List.nil_append, List.cons_append]
    refine wpAnyB_takeW (i := 0) (v := ?_) rfl (by kernel_rfl) (by kernel_rfl) (by kernel_rfl) (fun _ _ _ h => h) (Or.inl ⟨by rfl, ?_⟩) ?_
    rotate_left 1
    · intro w hSw; go_simp <;> with_reducible rfl
    try simp only [Act.put, List.setIfInBounds_toArray, List.set_cons_zero, List.set_cons_succ, List.getElem_toArray, List.getElem_cons_succ, List.getElem_cons_zero]
    refine wpAnyB_takeW (i := 1) (v := ?_) rfl (by kernel_rfl) (by kernel_rfl) (by kernel_rfl) (fun _ _ _ h => h) (Or.inl ⟨by rfl, ?_⟩) ?_
    rotate_left 1
    · intro w hSw; go_simp <;> with_reducible rfl
    try simp only [Act.put, List.setIfInBounds_toArray, List.set_cons_zero, List.set_cons_succ, List.getElem_toArray, List.getElem_cons_succ, List.getElem_cons_zero]
    refine wpAnyB_takeW (i := 2) (v := ?_) rfl (by kernel_rfl) (by kernel_rfl) (by kernel_rfl) (fun _ _ _ h => h) (Or.inl ⟨by rfl, ?_⟩) ?_
    rotate_left 1
    · intro w hSw; go_simp <;> with_reducible rfl
    try simp only [Act.put, List.setIfInBounds_toArray, List.set_cons_zero, List.set_cons_succ, List.getElem_toArray, List.getElem_cons_succ, List.getElem_cons_zero]
    refine wpAnyB_take (i := 3) (v := ?_) rfl (by kernel_rfl) (by kernel_rfl) (by kernel_rfl) (by kernel_rfl) (fun _ _ _ h => h) (Or.inl ⟨by rfl, ?_⟩) hHeld ?_
    rotate_left 1
    · intro w hSw; (try dsimp only at hSw); obtain ⟨q1, q2, q3, q4⟩ := hSw; go_simp <;> with_reducible rfl
    try simp only [Act.put, List.setIfInBounds_toArray, List.set_cons_zero, List.set_cons_succ, List.getElem_toArray, List.getElem_cons_succ, List.getElem_cons_zero]
    refine wpAnyB_takeW (i := 4) (v := ?_) rfl (by kernel_rfl) (by kernel_rfl) (by kernel_rfl) (fun _ _ _ h => h) (Or.inl ⟨by rfl, ?_⟩) ?_
    rotate_left 1
    · intro w hSw; go_simp <;> with_reducible rfl
    try simp only [Act.put, List.setIfInBounds_toArray, List.set_cons_zero, List.set_cons_succ, List.getElem_toArray, List.getElem_cons_succ, List.getElem_cons_zero]
    refine wpAnyB_takeW (i := 5) (v := ?_) rfl (by kernel_rfl) (by kernel_rfl) (by kernel_rfl) (fun _ _ _ h => h) (Or.inl ⟨by rfl, ?_⟩) ?_
    rotate_left 1
    · intro w hSw; go_simp <;> with_reducible rfl
    try simp only [Act.put, List.setIfInBounds_toArray, List.set_cons_zero, List.set_cons_succ, List.getElem_toArray, List.getElem_cons_succ, List.getElem_cons_zero]
    refine wpAnyB_takeW (i := 6) (v := ?_) rfl (by kernel_rfl) (by kernel_rfl) (by kernel_rfl) (fun _ _ _ h => h) (Or.inl ⟨by rfl, ?_⟩) ?_
    rotate_left 1
    · intro w hSw; go_simp <;> with_reducible rfl
    try simp only [Act.put, List.setIfInBounds_toArray, List.set_cons_zero, List.set_cons_succ, List.getElem_toArray, List.getElem_cons_succ, List.getElem_cons_zero]
    refine wpAnyB_takeW (i := 7) (v := ?_) rfl (by kernel_rfl) (by kernel_rfl) (by kernel_rfl) (fun _ _ _ h => h) (Or.inl ⟨by rfl, ?_⟩) ?_
    rotate_left 1
    · intro w hSw; go_simp <;> with_reducible rfl
    try simp only [Act.put, List.setIfInBounds_toArray, List.set_cons_zero, List.set_cons_succ, List.getElem_toArray, List.getElem_cons_succ, List.getElem_cons_zero]
    refine wpAnyB_takeW (i := 8) (v := ?_) rfl (by kernel_rfl) (by kernel_rfl) (by kernel_rfl) (fun _ _ _ h => h) (Or.inl ⟨by rfl, ?_⟩) ?_
    rotate_left 1
    · intro w hSw; go_simp <;> with_reducible rfl
    try simp only [Act.put, List.setIfInBounds_toArray, List.set_cons_zero, List.set_cons_succ, List.getElem_toArray, List.getElem_cons_succ, List.getElem_cons_zero]
    refine wpAnyB_take (i := 9) (v := ?_) rfl (by kernel_rfl) (by kernel_rfl) (by kernel_rfl) (by kernel_rfl) (fun _ _ _ h => h) (Or.inl ⟨by rfl, ?_⟩) hHeld ?_
    rotate_left 1
    · intro w hSw; (try dsimp only at hSw); obtain ⟨q1, q2, q3, q4⟩ := hSw; go_simp <;> with_reducible rfl
    try simp only [Act.put, List.setIfInBounds_toArray, List.set_cons_zero, List.set_cons_succ, List.getElem_toArray, List.getElem_cons_succ, List.getElem_cons_zero]
    refine wpAnyB_takeW (i := 10) (v := ?_) rfl (by kernel_rfl) (by kernel_rfl) (by kernel_rfl) (fun _ _ _ h => h) (Or.inl ⟨by rfl, ?_⟩) ?_
    rotate_left 1
    · intro w hSw; go_simp <;> with_reducible rfl
    try simp only [Act.put, List.setIfInBounds_toArray, List.set_cons_zero, List.set_cons_succ, List.getElem_toArray, List.getElem_cons_succ, List.getElem_cons_zero]
    refine wpAnyB_takeW (i := 11) (v := ?_) rfl (by kernel_rfl) (by kernel_rfl) (by kernel_rfl) (fun _ _ _ h => h) (Or.inl ⟨by rfl, ?_⟩) ?_
    rotate_left 1
    · intro w hSw; go_simp <;> with_reducible rfl
    try simp only [Act.put, List.setIfInBounds_toArray, List.set_cons_zero, List.set_cons_succ, List.getElem_toArray, List.getElem_cons_succ, List.getElem_cons_zero]
    refine wpAnyB_takeW (i := 12) (v := ?_) rfl (by kernel_rfl) (by kernel_rfl) (by kernel_rfl) (fun _ _ _ h => h) (Or.inl ⟨by rfl, ?_⟩) ?_
    rotate_left 1
    · intro w hSw; go_simp <;> with_reducible rfl
    try simp only [Act.put, List.setIfInBounds_toArray, List.set_cons_zero, List.set_cons_succ, List.getElem_toArray, List.getElem_cons_succ, List.getElem_cons_zero]
    refine wpAnyB_takeW (i := 13) (v := ?_) rfl (by kernel_rfl) (by kernel_rfl) (by kernel_rfl) (fun _ _ _ h => h) (Or.inl ⟨by rfl, ?_⟩) ?_
    rotate_left 1
    · intro w hSw; go_simp <;> with_reducible rfl
    try simp only [Act.put, List.setIfInBounds_toArray, List.set_cons_zero, List.set_cons_succ, List.getElem_toArray, List.getElem_cons_succ, List.getElem_cons_zero]
    refine wpAnyB_takeW (i := 14) (v := ?_) rfl (by kernel_rfl) (by kernel_rfl) (by kernel_rfl) (fun _ _ _ h => h) (Or.inl ⟨by rfl, ?_⟩) ?_
    rotate_left 1
    · intro w hSw; go_simp <;> with_reducible rfl
    try simp only [Act.put, List.setIfInBounds_toArray, List.set_cons_zero, List.set_cons_succ, List.getElem_toArray, List.getElem_cons_succ, List.getElem_cons_zero]
    refine wpAnyB_take (i := 15) (v := ?_) rfl (by kernel_rfl) (by kernel_rfl) (by kernel_rfl) (by kernel_rfl) (fun _ _ _ h => h) (Or.inl ⟨by rfl, ?_⟩) hHeld ?_
    rotate_left 1
    · intro w hSw; (try dsimp only at hSw); obtain ⟨q1, q2, q3, q4⟩ := hSw; go_simp <;> with_reducible rfl
    try simp only [Act.put, List.setIfInBounds_toArray, List.set_cons_zero, List.set_cons_succ, List.getElem_toArray, List.getElem_cons_succ, List.getElem_cons_zero]
    refine wpAnyB_takeW (i := 16) (v := ?_) rfl (by kernel_rfl) (by kernel_rfl) (by kernel_rfl) (fun _ _ _ h => h) (Or.inl ⟨by rfl, ?_⟩) ?_
    rotate_left 1
    · intro w hSw; go_simp <;> with_reducible rfl
    try simp only [Act.put, List.setIfInBounds_toArray, List.set_cons_zero, List.set_cons_succ, List.getElem_toArray, List.getElem_cons_succ, List.getElem_cons_zero]
    refine wpAnyB_load30 (i := 17) rfl (by kernel_rfl) (by kernel_rfl) (by kernel_rfl) (by kernel_rfl) (kb2) (0) (bd) (.tmp 120) rfl rfl (fun _ _ _ h => h) (by rfl) (fun w hSw => hSw.2.2.2) hHeld ?_
    try simp only [Act.put, List.setIfInBounds_toArray, List.set_cons_zero, List.set_cons_succ, List.getElem_toArray, List.getElem_cons_succ, List.getElem_cons_zero]
    refine wpAnyB_takeW (i := 18) (v := ?_) rfl (by kernel_rfl) (by kernel_rfl) (by kernel_rfl) (fun _ _ _ h => h) (Or.inl ⟨by rfl, ?_⟩) ?_
    rotate_left 1
    · intro w hSw; go_simp <;> with_reducible rfl
    try simp only [Act.put, List.setIfInBounds_toArray, List.set_cons_zero, List.set_cons_succ, List.getElem_toArray, List.getElem_cons_succ, List.getElem_cons_zero]
    refine wpAnyB_takeW (i := 19) (v := ?_) rfl (by kernel_rfl) (by kernel_rfl) (by kernel_rfl) (fun _ _ _ h => h) (Or.inl ⟨by rfl, ?_⟩) ?_
    rotate_left 1
    · intro w hSw; go_simp <;> with_reducible rfl
    try simp only [Act.put, List.setIfInBounds_toArray, List.set_cons_zero, List.set_cons_succ, List.getElem_toArray, List.getElem_cons_succ, List.getElem_cons_zero]
    have TK : Y.drew.there kb ((j + 1) * 20) 20 := KB.drew.idsT (k := j + 1) (n := 1) (by rw [Sh.hXs]; omega)
    have KB1 : Blk (Y.drew.setCells kb ((j + 1) * 20) (idc bd)) kb (ids (xs.set (j + 1) bd)) 30 := by
      have := KB.drew.idsS (k := j + 1) (ys := [bd]) (by rw [Sh.hXs]; simp; omega)
      rw [← set_eq bd xs (j + 1) (by rw [Sh.hXs]; omega)]
      simpa [ids] using this
    have kA : Kept (· = kb) Y (Y.drew.setCells kb ((j + 1) * 20) (idc bd)) := kept_sets (Kept.refl _ Y).drew _ _
    refine wpAnyB_step (i := 20) (by kernel_rfl) rfl (fun Kq hKq => ?_)
    refine step_st30 rfl rfl (.tmp 123) (.tmp 121) rfl kb ((j + 1) * 20) bd rfl rfl TK ?_
    refine hKq.out _ _ (fun h => absurd h (by decide)) ?_
    clear hKq Kq
    try simp only [Act.put, List.setIfInBounds_toArray, List.set_cons_zero, List.set_cons_succ, List.getElem_toArray, List.getElem_cons_succ, List.getElem_cons_zero]
    generalize Y.drew.setCells kb ((j + 1) * 20) (idc bd) = Y1 at *
    have CB1 := CB.kept kA (Ne.symm d7.out)
    have N1 := N.kept kA d1.out
    have hux1 : Y1.cell? ⟨cb, j + 1, none⟩ = some ux := (kA.cell (p := ⟨cb, j + 1, none⟩) CB.lt (Ne.symm d7.out)).trans hux
    have fux1 := CB1.frozen (j + 1)
    refine wpAnyB_takeW (i := 21) (v := ?_) rfl (by kernel_rfl) (by kernel_rfl) (by kernel_rfl) (fun _ _ _ h => h) (Or.inl ⟨by rfl, ?_⟩) ?_
    rotate_left 1
    · intro w hSw; go_simp <;> with_reducible rfl
    try simp only [Act.put, List.setIfInBounds_toArray, List.set_cons_zero, List.set_cons_succ, List.getElem_toArray, List.getElem_cons_succ, List.getElem_cons_zero]
    refine wpAnyB_step (i := 22) (by kernel_rfl) rfl (fun Kq hKq => ?_)
    go_simp
    refine hKq.out _ _ (fun h => absurd h (by decide)) ?_
    clear hKq Kq
    try simp only [Act.put, List.setIfInBounds_toArray, List.set_cons_zero, List.set_cons_succ, List.getElem_toArray, List.getElem_cons_succ, List.getElem_cons_zero]
    refine wpAnyB_done (by kernel_rfl) ?_ _
    have CB2 := CB1.set (j + 1) (.pointer (some ⟨nb2, 0, none⟩))
    have N2 := N1.setOther (p := ⟨cb, j + 1, none⟩) (Ne.symm d2.out) (.pointer (some ⟨nb2, 0, none⟩))
    have KB2 := KB1.setOther (p := ⟨cb, j + 1, none⟩) (Ne.symm d7.out) (.pointer (some ⟨nb2, 0, none⟩))
    have kB := kept_set (nb := cb) (Kept.refl _ Y1) (j + 1) (.pointer (some ⟨nb2, 0, none⟩))
    have kAll : Kept (fun b => b = kb ∨ b = cb) Y _ := (kA.mono (T := fun b => b = kb ∨ b = cb) (fun b _ h => .inl h)).trans (kB.mono (fun b _ h => .inr h))
    generalize Y1.setCell ⟨cb, j + 1, none⟩ (.pointer (some ⟨nb2, 0, none⟩)) = Y2 at *
    clear hHeld
    go_wp2_with fail
    refine bodyPost_ret (results_none rfl _ _ _) rfl ⟨rfl, ?_⟩
    have hdis2 : ∀ b ∈ own1 ++ own2, ¬ (b = kb ∨ b = cb) := fun b hb h => by
      rcases hsub b hb with h1 | h1
      · exact hdisF.out b h1 (.inr h)
      · have := lKB
        have := lCB
        rcases h with h | h <;> omega
    have T1' := T1.kept kAll (fun b hb h => hdis2 b (List.mem_append_left _ hb) h)
    have T2' := T2.kept kAll (fun b hb h => hdis2 b (List.mem_append_right _ hb) h)
    rw [hjA.out] at KB2 CB2
    refine refout_split (bd := bd) (nb2 := nb2) (ks1 := ks1) (ks2 := ks2) (m1 := (ln + rn) / 2) (m2 := mm) (own1 := own1) (own2 := own2) Sh hltA.out hlne.out ?_ T2' ⟨by omega, by omega⟩ ⟨by omega, by omega⟩ ?_ hnd12 ?_ hbd1 hbd2 hbd N2 KB2 CB2 ?_
    · rw [hlnb2.out]; exact T1'
    · rw [hlks2.out, hrks2.out]; exact hks
    · intro x hx
      rcases hsub x hx with h1 | h1
      · exact hownF.out x h1
      · exact .inr (Nat.le_trans hXw h1)
    · refine (hkept.trans (k1.mono (fun b _ h => ?_))).trans (kAll.mono (fun b _ h => by rcases h with h | h <;> simp [h]))
      subst h
      exact .inr (.inr (.inr hlnbO.out))
end Go.Proofs.Ybulkbqza
