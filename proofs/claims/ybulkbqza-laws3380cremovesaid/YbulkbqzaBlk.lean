/-
  Seat b3380a. A block known whole.
-/
import Derived.Test.YbulkbqzaFrame
import Derived.Deep.MidRow
namespace Go.Proofs.Ybulkbqza
open Go.RowKit
set_option linter.unusedVariables false

/-- Block b holds just the cells cs, of type t, none frozen. -/
def Blk (w : World) (b : Nat) (cs : List Value) (t : TypeId) : Prop := w.heap[b]? = some (.cells cs.toArray t (0, 0))

variable {w w' : World} {b : Nat} {cs : List Value} {t : TypeId}

theorem Blk.lt (h : Blk w b cs t) : b < w.heap.size := by
  unfold Blk at h
  exact (Array.getElem?_eq_some_iff.1 h).1

theorem Blk.of_block (h : Blk w b cs t) (e : w'.heap[b]? = w.heap[b]?) : Blk w' b cs t := e.trans h
theorem Blk.below (h : Blk w b cs t) (e : Below w.heap.size w w') : Blk w' b cs t := h.of_block (e.block _ h.lt)
theorem Blk.kept {S : Nat → Prop} (h : Blk w b cs t) (e : Kept S w w') (n : ¬ S b) : Blk w' b cs t := h.of_block (e.block _ h.lt n)
theorem Blk.drew (h : Blk w b cs t) : Blk w.drew b cs t := h
theorem Blk.drewN (h : Blk w b cs t) (n : Nat) : Blk (w.drewN n) b cs t := h
theorem Blk.alloc (h : Blk w b cs t) (o : Obj) : Blk (w.alloc o) b cs t := h.of_block (Below.heap_alloc _ _ _ h.lt)
theorem Blk.new (w : World) (cs : List Value) (t : TypeId) : Blk (w.alloc (.cells cs.toArray t (0, 0))) w.heap.size cs t := by
  show (w.heap.push _)[w.heap.size]? = _
  simp

theorem Blk.cell (h : Blk w b cs t) (i : Nat) : w.cell? ⟨b, i, none⟩ = cs[i]? := by
  rw [cell_of_row w b i _ t _ h]
  simp

theorem Blk.inj (h : Blk w b cs t) {cs' : List Value} {t' : TypeId} (h' : Blk w b cs' t') : cs = cs' ∧ t = t' := by
  unfold Blk at h h'
  rw [h] at h'
  simp at h'
  exact h'

theorem Blk.frozen (h : Blk w b cs t) (i : Nat) : w.frozen? ⟨b, i, none⟩ = false := by
  unfold Blk at h
  simp [World.frozen?, h]

theorem Blk.set (h : Blk w b cs t) (i : Nat) (v : Value) : Blk (w.setCell ⟨b, i, none⟩ v) b (cs.set i v) t := by
  unfold Blk at *
  simp [World.setCell, Array.getElem?_modify, h]

theorem Blk.setOther (h : Blk w b cs t) {p : Addr} (hp : p.block ≠ b) (v : Value) : Blk (w.setCell p v) b cs t := h.of_block (Below.heap_setCell _ _ _ _ (fun e => hp e.symm))

/-- The cells from o on written over. -/
def splice (cs : List Value) : Nat → List Value → List Value
  | _, [] => cs
  | o, v :: r => splice (cs.set o v) (o + 1) r

theorem Blk.setCells : ∀ {vs : List Value} {o : Nat} {w : World} {cs : List Value}, Blk w b cs t → Blk (w.setCells b o vs) b (splice cs o vs) t
  | [], _, _, _, h => h
  | v :: r, o, w, cs, h => (h.set o v).setCells

theorem heap_setCells (b : Nat) : ∀ (vs : List Value) (o : Nat) (w : World) (k : Nat), k ≠ b → (w.setCells b o vs).heap[k]? = w.heap[k]?
  | [], _, _, _, _ => rfl
  | v :: r, o, w, k, h => by rw [World.setCells, heap_setCells b r _ _ k h, Below.heap_setCell _ _ _ _ h]

theorem size_setCells (b : Nat) : ∀ (vs : List Value) (o : Nat) (w : World), (w.setCells b o vs).heap.size = w.heap.size
  | [], _, _ => rfl
  | v :: r, o, w => by rw [World.setCells, size_setCells b r]; simp [World.setCell]

theorem Blk.setCellsOther (h : Blk w b cs t) {b' : Nat} (hp : b' ≠ b) (o : Nat) (vs : List Value) : Blk (w.setCells b' o vs) b cs t := h.of_block (heap_setCells _ _ _ _ _ (fun e => hp e.symm))

theorem Blk.range (h : Blk w b cs t) {o : Nat} {vs : List Value} (hv : ∀ j v, vs[j]? = some v → cs[o + j]? = some v) : w.rangeAt b o vs := fun j v e => by rw [h.cell]; exact hv j v e
theorem Blk.there (h : Blk w b cs t) {o n : Nat} (hn : o + n ≤ cs.length) : w.there b o n := fun j hj => ⟨by rw [h.cell, List.getElem?_eq_getElem (by omega)]; rfl, h.frozen _⟩

theorem splice_length : ∀ (vs : List Value) (cs : List Value) (o : Nat), (splice cs o vs).length = cs.length
  | [], _, _ => rfl
  | v :: r, cs, o => by rw [splice, splice_length r]; simp

theorem splice_get : ∀ (vs : List Value) (cs : List Value) (o : Nat) (_ : o + vs.length ≤ cs.length) (i : Nat), (splice cs o vs)[i]? = if o ≤ i ∧ i < o + vs.length then vs[i - o]? else cs[i]?
  | [], cs, o, h, i => by
    rw [if_neg (by simp)]; rfl
  | v :: r, cs, o, h, i => by
    simp at h
    rw [splice, splice_get r (cs.set o v) (o + 1) (by simp; omega) i]
    by_cases h1 : i = o
    · subst h1
      rw [if_neg (by omega), if_pos (by simp), List.getElem?_set_self (by omega)]
      simp
    · by_cases h2 : o + 1 ≤ i ∧ i < o + 1 + r.length
      · rw [if_pos h2, if_pos (by simp; omega)]
        obtain ⟨k, hk⟩ : ∃ k, i - o = k + 1 := ⟨i - o - 1, by omega⟩
        rw [hk, show i - (o + 1) = k by omega]
        simp
      · rw [if_neg h2, if_neg (by simp; omega), List.getElem?_set_ne (by omega)]

theorem splice_eq (vs cs : List Value) (o : Nat) (h : o + vs.length ≤ cs.length) : splice cs o vs = cs.take o ++ vs ++ cs.drop (o + vs.length) := by
  apply List.ext_getElem?
  intro i
  rw [splice_get vs cs o h i]
  by_cases h1 : i < o
  · rw [if_neg (by omega), List.append_assoc, List.getElem?_append_left (by simp; omega), List.getElem?_take, if_pos h1]
  · by_cases h2 : i < o + vs.length
    · rw [if_pos ⟨by omega, h2⟩, List.getElem?_append_left (by simp; omega), List.getElem?_append_right (by simp; omega)]
      simp [Nat.min_eq_left (show o ≤ cs.length by omega)]
    · rw [if_neg (by omega), List.getElem?_append_right (by simp; omega), List.getElem?_drop]
      simp only [List.length_append, List.length_take]
      congr 1
      omega

end Go.Proofs.Ybulkbqza
