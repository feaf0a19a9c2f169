/-
  Seat b3380a. What treeOf's loops keep.
-/
import Derived.Test.YbulkbqzaLvp
namespace Go.Proofs.Ybulkbqza
open Go.RowKit
set_option linter.unusedVariables false

/-- Block b holds cells. -/
def Cel (w : World) (b : Nat) : Prop := ∃ cs t, Blk w b cs t
theorem Blk.cel {w : World} {b : Nat} {cs : List Value} {t : TypeId} (h : Blk w b cs t) : Cel w b := ⟨cs, t, h⟩
theorem Cel.not {w : World} {b : Nat} (h : Cel w b) {o : Obj} (ho : w.heap[b]? = some o) (hc : o.isCells = false) : False := by
  obtain ⟨cs, t, h⟩ := h
  unfold Blk at h
  rw [h] at ho
  cases ho
  cases hc

theorem Tree.cel : ∀ {d K C : Nat} {w : World} {nb : Nat} {ks : List Nat} {n : Nat} {own : List Nat}, Tree d K C w nb ks n own → ∀ b ∈ own, Cel w b
  | 0, _, _, _, _, _, _, _, ⟨kb, xs, h⟩, b, hb => by
    rw [h.hOwn] at hb
    simp at hb
    rcases hb with rfl | rfl
    · exact h.hNode.cel
    · exact h.hKeys.cel
  | d + 1, _, _, _, _, _, _, _, ⟨kb, cb, xs, ps, es, h, hk⟩, b, hb => by
    rw [h.hOwn] at hb
    simp at hb
    rcases hb with rfl | rfl | rfl | hb
    · exact h.hNode.cel
    · exact h.hKeys.cel
    · exact h.hKids.cel
    · obtain ⟨e, he, hb⟩ := List.mem_flatMap.1 hb
      exact (hk e he).2.2.cel b hb
theorem Lev.cel {d : Nat} {w : World} {es : List Kid} {ks : List Nat} (h : Lev d w es ks) : ∀ b ∈ ownOf es, Cel w b := fun b hb => by
  obtain ⟨e, he, hb⟩ := List.mem_flatMap.1 hb
  exact (h.good e he).tree.cel b hb
theorem Made.cel {w : World} {e : Kid} {sub : List Kid} (h : Made w e sub) : ∀ b ∈ e.own, Cel w b := by
  obtain ⟨kb, cb, xs, ps, hI, ho, hr⟩ := h
  intro b hb
  rw [ho] at hb
  simp at hb
  rcases hb with rfl | rfl | rfl
  · exact hI.hNode.cel
  · exact hI.hKeys.cel
  · exact hI.hKids.cel

theorem keepsFrom_of {U : Nat → Prop} {B : Nat} {w w' : World} (k : Kept U w w') (hU : ∀ b, U b → Cel w b) : KeepsFrom B w w' :=
  ⟨k.size, fun b o _ ho hc => (k.block b (Array.getElem?_eq_some_iff.1 ho).1 (fun hu => (hU b hu).not ho hc)).trans ho⟩

/-- A turn of what is no cells. -/
theorem kept_grown {B : Nat} {w w' : World} {row : Option Nat} (hg : w.grownBy w' row) (hr : ∀ r, row = some r → B ≤ r ∧ ∃ o : Obj, w.heap[r]? = some o ∧ o.isCells = false) : Kept (fun b => B ≤ b ∧ ¬ Cel w b) w w' :=
  ⟨hg.os, hg.tape, hg.output, hg.size, fun b hb hn => hg.block b hb (fun e => hn ⟨(hr b e.symm).1, fun hc => by obtain ⟨_, o, ho, hoc⟩ := hr b e.symm; exact hc.not ho hoc⟩)⟩

/-- treeOf's boxes: the keys, the sum, the result. -/
structure Bx (w : World) (k0 g cap len : Nat) (W : World) : Prop where
  keys : Blk W k0 [.slice (some ⟨g, 0, none⟩) len cap] 28
  sum : Blk W (k0 + 1) [.func (.func 10) #[] #[]] 34
  res : Blk W (k0 + 2) [.pointer none, .nilFunc] 36
  bel : Below k0 w W

theorem Bx.kept {U : Nat → Prop} {w : World} {k0 g cap len : Nat} {W W' : World} (h : Bx w k0 g cap len W) (k : Kept U W W') (hU : ∀ b, b ≤ k0 + 2 → ¬ U b) : Bx w k0 g cap len W' :=
  ⟨h.keys.kept k (hU _ (by omega)), h.sum.kept k (hU _ (by omega)), h.res.kept k (hU _ (by omega)), h.bel.trans (k.below (Nat.le_of_lt h.keys.lt) (fun b hb => hU b (by omega)))⟩

/-- The first loop: the leaves so far. -/
structure L1 (w : World) (k0 g cap : Nat) (xs : List Nat) (r : Nat) (pre : List (Fin r)) (W : World) (p : Option Addr) (n c : Nat) (L : List Kid) : Prop where
  bx : Bx w k0 g cap xs.length W
  box : Blk W (k0 + 3) [.slice p n c] 57
  sz : k0 + 4 < W.heap.size
  ptrs : Ptrs (fun k => k0 + 4 < k ∧ k ∉ ownOf L) W p n c (L.map Kid.nb)
  ks : L.map Kid.ks = pre.map fun x => seg xs (xs.length * x.1 / r) (xs.length * (x.1 + 1) / r)
  good : ∀ e ∈ L, Good 0 W e
  len : ∀ e ∈ L, e.n = e.ks.length
  nodup : (ownOf L).Nodup
  new : ∀ b ∈ ownOf L, k0 + 4 < b

theorem L1.own {w : World} {k0 g cap : Nat} {xs : List Nat} {r : Nat} (B : Nat) (hB : k0 ≤ B) : OwnFrom B (fun (pre : List (Fin r)) W => ∃ p n c L, L1 w k0 g cap xs r pre W p n c L) := by
  rintro pre W W' row ⟨p, n, c, L, h⟩ hg hr
  have k := kept_grown hg hr
  have hBx : Bx w k0 g cap xs.length W' := ⟨h.bx.keys.kept k (fun h' => h'.2 h.bx.keys.cel), h.bx.sum.kept k (fun h' => h'.2 h.bx.sum.cel), h.bx.res.kept k (fun h' => h'.2 h.bx.res.cel), h.bx.bel.trans (k.below (Nat.le_of_lt h.bx.keys.lt) (fun b hb h' => by omega))⟩
  refine ⟨p, n, c, L, hBx, h.box.kept k (fun h' => h'.2 h.box.cel), Nat.lt_of_lt_of_le h.sz k.size, ?_, h.ks, fun e he => (h.good e he).kept k (fun b hb h' => h'.2 ((h.good e he).tree.cel b hb)), h.len, h.nodup, h.new⟩
  obtain ⟨h0, h1 | ⟨gb, ps, h1, h2, h3, h4⟩⟩ := h.ptrs
  · exact ⟨h0, .inl h1⟩
  · exact ⟨h0, .inr ⟨gb, ps, h1, h2, h3.kept k (fun h' => h'.2 h3.cel), h4⟩⟩

theorem Ptrs.exact {T : Nat → Prop} {w : World} {p : Option Addr} {n c : Nat} {ns : List Nat} (h : Ptrs T w p n c ns) : Ptrs (fun k => T k ∧ p = some ⟨k, 0, none⟩ ∧ Cel w k) w p n c ns := by
  obtain ⟨h0, h1 | ⟨gb, ps, h1, h2, h3, h4⟩⟩ := h
  · exact ⟨h0, .inl h1⟩
  · exact ⟨h0, .inr ⟨gb, ps, h1, ⟨h2, h1, h3.cel⟩, h3, h4⟩⟩
theorem Ptrs.mono {T T' : Nat → Prop} {w : World} {p : Option Addr} {n c : Nat} {ns : List Nat} (h : Ptrs T w p n c ns) (hT : ∀ k, T k → T' k) : Ptrs T' w p n c ns := h.of_blocks fun k hk _ => ⟨hT k hk, rfl⟩
theorem Ptrs.below {T : Nat → Prop} {w w' : World} {p : Option Addr} {n c : Nat} {ns : List Nat} (h : Ptrs T w p n c ns) (k : Below w.heap.size w w') : Ptrs T w' p n c ns := h.of_blocks fun b hb hlt => ⟨hb, k.block b hlt⟩
theorem Ptrs.kept {T U : Nat → Prop} {w w' : World} {p : Option Addr} {n c : Nat} {ns : List Nat} (h : Ptrs T w p n c ns) (k : Kept U w w') (hU : ∀ b, T b → ¬ U b) : Ptrs T w' p n c ns := h.of_blocks fun b hb hlt => ⟨hb, k.block b hlt (hU b hb)⟩

/-- One leaf more. -/
theorem L1.next {w : World} {k0 g cap : Nat} {xs : List Nat} {r : Nat} {pre : List (Fin r)} {W W1 W2 W3 : World} {p : Option Addr} {n c : Nat} {L : List Kid} (h : L1 w k0 g cap xs r pre W p n c L)
    (x : Fin r) (hk1 : Below W.heap.size W W1) {nb : Nat} {own ks : List Nat} (hks : ks = seg xs (xs.length * x.1 / r) (xs.length * (x.1 + 1) / r)) (hT : Tree 0 33 33 W1 nb ks ks.length own) (hnew : ∀ b ∈ own, W.heap.size ≤ b)
    (h1 : 1 ≤ ks.length) (h2 : ks.length ≤ 32) (hk2 : Below W1.heap.size W1 W2)
    (hk3 : Kept (fun k => (k0 + 4 < k ∧ k ∉ ownOf L) ∧ p = some ⟨k, 0, none⟩ ∧ Cel W k) W2 W3) {gb c' : Nat} (hP : Ptrs (fun k => k0 + 4 < k ∧ k ∉ ownOf L ∧ k ∉ own) W3 (some ⟨gb, 0, none⟩) (n + 1) c' (L.map Kid.nb ++ [nb])) (B : Nat) :
    KeepsFrom B W (W3.setCell ⟨k0 + 3, 0, none⟩ (.slice (some ⟨gb, 0, none⟩) (n + 1) c')) ∧ (W3.setCell ⟨k0 + 3, 0, none⟩ (.slice (some ⟨gb, 0, none⟩) (n + 1) c')).heap[k0 + 4]? = W.heap[k0 + 4]? ∧
      ∃ p' n' c'' L', L1 w k0 g cap xs r (pre ++ [x]) (W3.setCell ⟨k0 + 3, 0, none⟩ (.slice (some ⟨gb, 0, none⟩) (n + 1) c')) p' n' c'' L' := by
  have hz1 := hk1.size
  have hsz := h.sz
  have k3 : Kept (fun k => ((k0 + 4 < k ∧ k ∉ ownOf L) ∧ p = some ⟨k, 0, none⟩ ∧ Cel W k) ∨ k = k0 + 3) W2 (W3.setCell ⟨k0 + 3, 0, none⟩ (.slice (some ⟨gb, 0, none⟩) (n + 1) c')) := Kept.setCell (hk3.mono (fun _ _ h => .inl h)) (p := ⟨k0 + 3, 0, none⟩) (.inr (.inr rfl)) _
  have k1 : Kept (fun k => ((k0 + 4 < k ∧ k ∉ ownOf L) ∧ p = some ⟨k, 0, none⟩ ∧ Cel W k) ∨ k = k0 + 3) W1 (W3.setCell ⟨k0 + 3, 0, none⟩ (.slice (some ⟨gb, 0, none⟩) (n + 1) c')) := (Kept.of_below hk2).trans k3
  have k : Kept (fun k => ((k0 + 4 < k ∧ k ∉ ownOf L) ∧ p = some ⟨k, 0, none⟩ ∧ Cel W k) ∨ k = k0 + 3) W (W3.setCell ⟨k0 + 3, 0, none⟩ (.slice (some ⟨gb, 0, none⟩) (n + 1) c')) := (Kept.of_below hk1).trans k1
  have hb3 : Blk W3 (k0 + 3) [.slice p n c] 57 := ((h.box.below hk1).below hk2).kept hk3 (fun h' => by omega)
  have k4 : Kept (· = k0 + 3) W3 (W3.setCell ⟨k0 + 3, 0, none⟩ (.slice (some ⟨gb, 0, none⟩) (n + 1) c')) := Kept.setCell (S := (· = k0 + 3)) (Kept.refl _ _) (p := ⟨k0 + 3, 0, none⟩) (.inr rfl) _
  generalize hW4 : W3.setCell ⟨k0 + 3, 0, none⟩ (.slice (some ⟨gb, 0, none⟩) (n + 1) c') = W4 at *
  have hown : ∀ b ∈ own, ¬ (((k0 + 4 < b ∧ b ∉ ownOf L) ∧ p = some ⟨b, 0, none⟩ ∧ Cel W b) ∨ b = k0 + 3) := by
    rintro b hb (⟨_, _, cs, t, hc⟩ | rfl)
    · have := hnew b hb; have := hc.lt; omega
    · have := hnew _ hb; omega
  have hold : ∀ b ∈ ownOf L, ¬ (((k0 + 4 < b ∧ b ∉ ownOf L) ∧ p = some ⟨b, 0, none⟩ ∧ Cel W b) ∨ b = k0 + 3) := by
    rintro b hb (⟨⟨_, h'⟩, _⟩ | rfl)
    · exact h' hb
    · have := h.new _ hb; omega
  refine ⟨keepsFrom_of k ?_, k.block _ hsz (by rintro (⟨⟨h', _⟩, _⟩ | h') <;> omega), some ⟨gb, 0, none⟩, n + 1, c', L ++ [(ks.headD 0, nb, ks, ks.length, own)], ?_⟩
  · rintro b (⟨_, _, h'⟩ | rfl)
    · exact h'
    · exact h.box.cel
  · have hap : ownOf (L ++ [(ks.headD 0, nb, ks, ks.length, own)]) = ownOf L ++ own := by
      rw [ownOf_append]
      simp [ownOf, Kid.own]
    refine ⟨h.bx.kept k (by rintro b hb (⟨⟨h', _⟩, _⟩ | h') <;> omega), ?_, Nat.lt_of_lt_of_le hsz k.size, ?_, ?_, ?_, ?_, ?_, ?_⟩
    · rw [← hW4]
      exact hb3.set 0 _
    · rw [hap, List.map_append]
      refine (hP.kept k4 (fun b hb e => by omega)).mono ?_
      intro b hb
      exact ⟨hb.1, by rw [List.mem_append]; exact fun h' => h'.elim hb.2.1 hb.2.2⟩
    · rw [List.map_append, List.map_append, h.ks]
      simp [Kid.ks, hks]
    · intro e he
      rcases List.mem_append.1 he with he | he
      · exact (h.good e he).kept k (fun b hb => hold b (mem_ownOf he hb))
      · rw [List.mem_singleton.1 he]
        exact good_leaf (hT.kept k1 hown) h1 h2
    · intro e he
      rcases List.mem_append.1 he with he | he
      · exact h.len e he
      · rw [List.mem_singleton.1 he]
        rfl
    · rw [hap, List.nodup_append]
      refine ⟨h.nodup, hT.nodup, fun a ha b hb e => ?_⟩
      have h3 : a < W.heap.size := by
        obtain ⟨y, hy, ha⟩ := List.mem_flatMap.1 ha
        exact (h.good y hy).tree.lt a ha
      have := hnew b hb
      omega
    · intro b hb
      rw [hap] at hb
      rcases List.mem_append.1 hb with hb | hb
      · exact h.new b hb
      · have := hnew b hb; omega
end Go.Proofs.Ybulkbqza
