/-
  Seat b3380a. treeNode.refill: the node between.
-/
import Derived.Test.YbulkbqzaSplit
namespace Go.Proofs.Ybulkbqza
open Go.RowKit
set_option linter.unusedVariables false
set_option maxRecDepth 100000
set_option linter.unusedSimpArgs false

/-- An inner node, its count and digest whatever. -/
structure Shell (w : World) (nb n c s kb cb : Nat) (xs : List Nat) (ps : List Value) (es : List Kid) : Prop where
  hNodup : (nb :: kb :: cb :: ownOf es).Nodup
  hN : n = es.length
  hXs : xs.length = 33
  hTake : xs.take n = es.map Kid.bd
  hSmall : ∀ x ∈ xs, x < 4294967296
  hLe : n ≤ 33
  hPs : ps.length = 33
  hTakeP : ps.take n = es.map fun e => ptr e.nb
  hOne : ∀ u ∈ ps, u.oneCell' = true
  hNode : Blk w nb (nd (sl kb n 33) (sl cb n 33) c s) 63
  hKeys : Blk w kb (ids xs) 30
  hKids : Blk w cb ps 32
  hOrd : Ord es

theorem own_swap {P X Q Y : List Nat} {m : Nat} (h : (P ++ X ++ Q).Nodup) (hY : Y.Nodup) (hy : ∀ y ∈ Y, y ∈ X ∨ m ≤ y) (hl : ∀ x ∈ P ++ Q, x < m) : (P ++ Y ++ Q).Nodup := by
  rw [List.append_assoc, List.nodup_append] at h
  obtain ⟨hP, hXQ, hd⟩ := h
  rw [List.nodup_append] at hXQ
  obtain ⟨hX, hQ, hd2⟩ := hXQ
  rw [List.append_assoc, List.nodup_append]
  refine ⟨hP, ?_, ?_⟩
  · rw [List.nodup_append]
    refine ⟨hY, hQ, ?_⟩
    intro a ha b hb e
    subst e
    rcases hy a ha with h1 | h1
    · exact hd2 a h1 a hb rfl
    · have := hl a (List.mem_append_right _ hb); omega
  · intro a ha b hb e
    subst e
    rcases List.mem_append.1 hb with h1 | h1
    · rcases hy a h1 with h2 | h2
      · exact hd a ha a (List.mem_append_left _ h2) rfl
      · have := hl a (List.mem_append_left _ ha); omega
    · exact hd a ha a (List.mem_append_right _ h1) rfl

theorem Ord.merge {A Z : List Kid} {l r l' : Kid} (h : Ord (A ++ l :: r :: Z)) (hb : l'.bd = l.bd) (hk : l'.ks = l.ks ++ r.ks) (hl : l.ks ≠ []) : Ord (A ++ l' :: Z) := by
  rw [Ord, List.pairwise_append, List.pairwise_cons, List.pairwise_cons] at h
  obtain ⟨h1, ⟨h2, h3, h4⟩, h5⟩ := h
  rw [Ord, List.pairwise_append, List.pairwise_cons]
  refine ⟨h1, ⟨?_, h4⟩, ?_⟩
  · intro z hz
    refine ⟨fun x hx => ?_, (h3 z hz).2⟩
    rw [hk] at hx
    rcases List.mem_append.1 hx with hx | hx
    · exact (h2 z (by simp [hz])).1 x hx
    · exact (h3 z hz).1 x hx
  · intro a ha z hz
    rcases List.mem_cons.1 hz with rfl | hz
    · rw [hb, hk]
      have q := h5 a ha l (by simp)
      refine ⟨q.1, fun y hy => ?_⟩
      rcases List.mem_append.1 hy with hy | hy
      · exact q.2 y hy
      · obtain ⟨x, hx⟩ := List.exists_mem_of_ne_nil _ hl
        have q2 := h2 r (by simp)
        have := q2.1 x hx
        have := q2.2 y hy
        have := q.2 x hx
        omega
    · exact h5 a ha z (by simp [hz])

theorem Ord.resplit {A Z : List Kid} {l r l' r' : Kid} (h : Ord (A ++ l :: r :: Z)) (hb : l'.bd = l.bd) (hk : l'.ks ++ r'.ks = l.ks ++ r.ks) (hl : l.ks ≠ []) (h1 : ∀ x ∈ l'.ks, x < r'.bd) (h2 : ∀ y ∈ r'.ks, r'.bd ≤ y) (hne : l'.ks ≠ []) : Ord (A ++ l' :: r' :: Z) := by
  obtain ⟨m, hmb, hmk⟩ : ∃ m : Kid, m.bd = l.bd ∧ m.ks = l.ks ++ r.ks := ⟨(l.bd, 0, l.ks ++ r.ks, 0, []), rfl, rfl⟩
  have hm := h.merge hmb hmk hl
  rw [Ord, List.pairwise_append, List.pairwise_cons] at hm
  obtain ⟨g1, ⟨g2, g3⟩, g4⟩ := hm
  rw [hmk, ← hk] at g2
  rw [Ord, List.pairwise_append, List.pairwise_cons, List.pairwise_cons]
  refine ⟨g1, ⟨?_, ?_, g3⟩, ?_⟩
  · intro z hz
    rcases List.mem_cons.1 hz with rfl | hz
    · exact ⟨h1, h2⟩
    · exact ⟨fun x hx => (g2 z hz).1 x (List.mem_append_left _ hx), (g2 z hz).2⟩
  · intro z hz
    exact ⟨fun x hx => (g2 z hz).1 x (List.mem_append_right _ hx), (g2 z hz).2⟩
  · intro a ha z hz
    have q := g4 a ha m (by simp)
    rw [hmb, hmk, ← hk] at q
    rcases List.mem_cons.1 hz with rfl | hz
    · rw [hb]
      exact ⟨q.1, fun y hy => q.2 y (List.mem_append_left _ hy)⟩
    · rcases List.mem_cons.1 hz with rfl | hz
      · refine ⟨fun x hx => ?_, h2⟩
        obtain ⟨y, hy⟩ := List.exists_mem_of_ne_nil _ hne
        have := q.1 x hx
        have := q.2 y (List.mem_append_left _ hy)
        have := h1 y hy
        omega
      · exact g4 a ha z (by simp [hz])

/-- What refill leaves: the two kids l and r have become M. -/
def RefOut (d : Nat) (w w' : World) (nb n c s kb cb : Nat) (A Z : List Kid) (l r : Kid) : Prop :=
  ∃ n' xs' ps' M, Shell w' nb n' c s kb cb xs' ps' (A ++ M ++ Z) ∧ keysOf M = l.ks ++ r.ks ∧ (∀ e ∈ M, 16 ≤ e.n ∧ e.n ≤ 32 ∧ Tree d 33 33 w' e.nb e.ks e.n e.own) ∧ n' ≤ n ∧ n ≤ n' + 1 ∧
    (∀ x ∈ ownOf M, x ∈ l.own ++ r.own ∨ w.heap.size ≤ x) ∧ Kept (fun b => b = nb ∨ b = kb ∨ b = cb ∨ b ∈ l.own ++ r.own) w w'
theorem erase_mid {α : Type} (l r : α) (Z : List α) : ∀ A : List α, (A ++ l :: r :: Z).eraseIdx (A.length + 1) = A ++ l :: Z
  | [] => rfl
  | a :: A => by simp [erase_mid l r Z A]
theorem set_mid {α : Type} (l r v : α) (Z : List α) : ∀ A : List α, (A ++ l :: r :: Z).set (A.length + 1) v = A ++ l :: v :: Z
  | [] => rfl
  | a :: A => by simp [set_mid l r v Z A]
theorem set_eq {α : Type} (v : α) : ∀ (xs : List α) (k : Nat), k < xs.length → xs.take k ++ [v] ++ xs.drop (k + 1) = xs.set k v
  | [], _, h => by simp at h
  | x :: xs, 0, _ => rfl
  | x :: xs, k + 1, h => by have := set_eq v xs k (by simpa using h); simpa using this
theorem mem_eraseIdx {α : Type} {x : α} {l : List α} {i : Nat} (h : x ∈ l.eraseIdx i) : x ∈ l := (List.eraseIdx_sublist l i).subset h

theorem refout_merge {d : Nat} {w w' : World} {nb n c s kb cb : Nat} {xs : List Nat} {ps : List Value} {A Z : List Kid} {l r : Kid} (Sh : Shell w nb n c s kb cb xs ps (A ++ l :: r :: Z))
    (hlt : ∀ x ∈ ownOf (A ++ l :: r :: Z), x < w.heap.size) (hl : l.ks ≠ []) {m : Nat} {ownF : List Nat} (T : Tree d 33 33 w' l.nb (l.ks ++ r.ks) m ownF) (hm : 16 ≤ m ∧ m ≤ 32) (hown : ∀ x ∈ ownF, x ∈ l.own ++ r.own ∨ w.heap.size ≤ x)
    (N : Blk w' nb (nd (sl kb (n - 1) 33) (sl cb (n - 1) 33) c s) 63) (KB : Blk w' kb (ids ((xs.take n).eraseIdx (A.length + 1) ++ 0 :: xs.drop n)) 30) (CB : Blk w' cb ((ps.take n).eraseIdx (A.length + 1) ++ .pointer none :: ps.drop n) 32)
    (hk : Kept (fun b => b = nb ∨ b = kb ∨ b = cb ∨ b ∈ l.own ++ r.own) w w') : RefOut d w w' nb n c s kb cb A Z l r := by
  have hn := Sh.hN
  have hle := Sh.hLe
  have hxs := Sh.hXs
  have hps := Sh.hPs
  rw [List.length_append, List.length_cons, List.length_cons] at hn
  have t1 : (xs.take n).eraseIdx (A.length + 1) = A.map Kid.bd ++ l.bd :: Z.map Kid.bd := by
    rw [Sh.hTake, List.map_append, List.map_cons, List.map_cons]
    have := erase_mid l.bd r.bd (Z.map Kid.bd) (A.map Kid.bd)
    rwa [List.length_map] at this
  have t2 : (ps.take n).eraseIdx (A.length + 1) = A.map (fun e => ptr e.nb) ++ ptr l.nb :: Z.map (fun e => ptr e.nb) := by
    rw [Sh.hTakeP, List.map_append, List.map_cons, List.map_cons]
    have := erase_mid (ptr l.nb) (ptr r.nb) (Z.map fun e => ptr e.nb) (A.map fun e => ptr e.nb)
    rwa [List.length_map] at this
  refine ⟨n - 1, (xs.take n).eraseIdx (A.length + 1) ++ 0 :: xs.drop n, (ps.take n).eraseIdx (A.length + 1) ++ .pointer none :: ps.drop n, [(l.bd, l.nb, l.ks ++ r.ks, m, ownF)], ?_, ?_, ?_, by omega, by omega, ?_, hk⟩
  · refine { hNodup := ?_, hN := by simp; omega, hXs := ?_, hTake := ?_, hSmall := ?_, hLe := by omega, hPs := ?_, hTakeP := ?_, hOne := ?_, hNode := N, hKeys := KB, hKids := CB, hOrd := ?_ }
    · have h := Sh.hNodup
      have hlk : nb < w.heap.size ∧ kb < w.heap.size ∧ cb < w.heap.size := ⟨Sh.hNode.lt, Sh.hKeys.lt, Sh.hKids.lt⟩
      rw [ownOf_append, ownOf_cons, ownOf_cons] at h hlt
      have := own_swap (P := nb :: kb :: cb :: ownOf A) (X := l.own ++ r.own) (Q := ownOf Z) (Y := ownF) (m := w.heap.size) (by simpa using h) T.nodup hown (by
        intro x hx
        simp only [List.cons_append, List.mem_cons, List.mem_append] at hx
        rcases hx with rfl | rfl | rfl | hx | hx
        · exact hlk.1
        · exact hlk.2.1
        · exact hlk.2.2
        · exact hlt x (by simp [hx])
        · exact hlt x (by simp [hx]))
      simpa [ownOf, Kid.own] using this
    · rw [List.length_append, List.length_eraseIdx, List.length_cons, List.length_drop, List.length_take]
      split <;> omega
    · rw [List.take_append_of_le_length (by rw [t1]; simp; omega), List.take_of_length_le (by rw [t1]; simp; omega), t1]
      simp [Kid.bd]
    · intro x hx
      rcases List.mem_append.1 hx with h1 | h1
      · exact Sh.hSmall x (List.mem_of_mem_take (mem_eraseIdx h1))
      · rcases List.mem_cons.1 h1 with rfl | h1
        · decide
        · exact Sh.hSmall x (List.mem_of_mem_drop h1)
    · rw [List.length_append, List.length_eraseIdx, List.length_cons, List.length_drop, List.length_take]
      split <;> omega
    · rw [List.take_append_of_le_length (by rw [t2]; simp; omega), List.take_of_length_le (by rw [t2]; simp; omega), t2]
      simp [Kid.nb]
    · intro x hx
      rcases List.mem_append.1 hx with h1 | h1
      · exact Sh.hOne x (List.mem_of_mem_take (mem_eraseIdx h1))
      · rcases List.mem_cons.1 h1 with rfl | h1
        · rfl
        · exact Sh.hOne x (List.mem_of_mem_drop h1)
    · have := Ord.merge (l' := (l.bd, l.nb, l.ks ++ r.ks, m, ownF)) Sh.hOrd rfl rfl hl
      simpa using this
  · simp [keysOf, Kid.ks]
  · intro e he
    simp at he
    subst he
    exact ⟨hm.1, hm.2, T⟩
  · intro x hx
    simp [ownOf, Kid.own] at hx
    exact hown x hx

theorem refout_split {d : Nat} {w w' : World} {nb n c s kb cb : Nat} {xs : List Nat} {ps : List Value} {A Z : List Kid} {l r : Kid} (Sh : Shell w nb n c s kb cb xs ps (A ++ l :: r :: Z))
    (hlt : ∀ x ∈ ownOf (A ++ l :: r :: Z), x < w.heap.size) (hl : l.ks ≠ []) {m1 m2 bd nb2 : Nat} {own1 own2 ks1 ks2 : List Nat} (T1 : Tree d 33 33 w' l.nb ks1 m1 own1) (T2 : Tree d 33 33 w' nb2 ks2 m2 own2) (hm : 16 ≤ m1 ∧ m1 ≤ 32) (hm2 : 16 ≤ m2 ∧ m2 ≤ 32)
    (hks : l.ks ++ r.ks = ks1 ++ ks2) (hnd : (own1 ++ own2).Nodup) (hown : ∀ x ∈ own1 ++ own2, x ∈ l.own ++ r.own ∨ w.heap.size ≤ x) (hb1 : ∀ x ∈ ks1, x < bd) (hb2 : ∀ y ∈ ks2, bd ≤ y) (hbd : bd < 4294967296)
    (N : Blk w' nb (nd (sl kb n 33) (sl cb n 33) c s) 63) (KB : Blk w' kb (ids (xs.set (A.length + 1) bd)) 30) (CB : Blk w' cb (ps.set (A.length + 1) (ptr nb2)) 32)
    (hk : Kept (fun b => b = nb ∨ b = kb ∨ b = cb ∨ b ∈ l.own ++ r.own) w w') : RefOut d w w' nb n c s kb cb A Z l r := by
  have hn := Sh.hN
  have hle := Sh.hLe
  have hxs := Sh.hXs
  have hps := Sh.hPs
  rw [List.length_append, List.length_cons, List.length_cons] at hn
  have t1 : (xs.set (A.length + 1) bd).take n = A.map Kid.bd ++ l.bd :: bd :: Z.map Kid.bd := by
    rw [List.take_set, Sh.hTake, List.map_append, List.map_cons, List.map_cons]
    have := set_mid l.bd r.bd bd (Z.map Kid.bd) (A.map Kid.bd)
    rwa [List.length_map] at this
  have t2 : (ps.set (A.length + 1) (ptr nb2)).take n = A.map (fun e => ptr e.nb) ++ ptr l.nb :: ptr nb2 :: Z.map (fun e => ptr e.nb) := by
    rw [List.take_set, Sh.hTakeP, List.map_append, List.map_cons, List.map_cons]
    have := set_mid (ptr l.nb) (ptr r.nb) (ptr nb2) (Z.map fun e => ptr e.nb) (A.map fun e => ptr e.nb)
    rwa [List.length_map] at this
  refine ⟨n, xs.set (A.length + 1) bd, ps.set (A.length + 1) (ptr nb2), [(l.bd, l.nb, ks1, m1, own1), (bd, nb2, ks2, m2, own2)], ?_, ?_, ?_, by omega, by omega, ?_, hk⟩
  · refine { hNodup := ?_, hN := by simp; omega, hXs := by simpa using hxs, hTake := ?_, hSmall := ?_, hLe := hle, hPs := by simpa using hps, hTakeP := ?_, hOne := ?_, hNode := N, hKeys := KB, hKids := CB, hOrd := ?_ }
    · have h := Sh.hNodup
      have hlk : nb < w.heap.size ∧ kb < w.heap.size ∧ cb < w.heap.size := ⟨Sh.hNode.lt, Sh.hKeys.lt, Sh.hKids.lt⟩
      rw [ownOf_append, ownOf_cons, ownOf_cons] at h hlt
      have := own_swap (P := nb :: kb :: cb :: ownOf A) (X := l.own ++ r.own) (Q := ownOf Z) (Y := own1 ++ own2) (m := w.heap.size) (by simpa using h) hnd hown (by
        intro x hx
        simp only [List.cons_append, List.mem_cons, List.mem_append] at hx
        rcases hx with rfl | rfl | rfl | hx | hx
        · exact hlk.1
        · exact hlk.2.1
        · exact hlk.2.2
        · exact hlt x (by simp [hx])
        · exact hlt x (by simp [hx]))
      simpa [ownOf, Kid.own] using this
    · rw [t1]
      simp [Kid.bd]
    · intro x hx
      rcases List.mem_or_eq_of_mem_set hx with h1 | rfl
      · exact Sh.hSmall x h1
      · exact hbd
    · rw [t2]
      simp [Kid.nb]
    · intro x hx
      rcases List.mem_or_eq_of_mem_set hx with h1 | rfl
      · exact Sh.hOne x h1
      · rfl
    · have := Ord.resplit (l' := (l.bd, l.nb, ks1, m1, own1)) (r' := (bd, nb2, ks2, m2, own2)) Sh.hOrd rfl hks.symm hl hb1 hb2 (T1.ne_nil (by omega))
      simpa using this
  · rw [hks]
    simp [keysOf, Kid.ks]
  · intro e he
    simp at he
    rcases he with rfl | rfl
    · exact ⟨hm.1, hm.2, T1⟩
    · exact ⟨hm2.1, hm2.2, T2⟩
  · intro x hx
    simp [ownOf, Kid.own] at hx
    exact hown x (by simpa using hx)
end Go.Proofs.Ybulkbqza
