/-
  Seat b3380a. A node, a tree, in the heap.
-/
import Derived.Test.YbulkbqzaDelp
namespace Go.Proofs.Ybulkbqza
open Go.RowKit
set_option linter.unusedVariables false

/-- The cells of a node. -/
def nd (k q : Value) (c s : Nat) : List Value := k :: q :: .int .i64 c :: dgc s
theorem nd_length (k q : Value) (c s : Nat) : (nd k q c s).length = 35 := by simp [nd, dgc_length]
/-- A slice at the head of block b. -/
def sl (b n cap : Nat) : Value := .slice (some ⟨b, 0, none⟩) n cap
def ptr (b : Nat) : Value := .pointer (some ⟨b, 0, none⟩)

/-- A kid: its bound, its node, its keys, how many entries it has, its blocks. -/
abbrev Kid := Nat × Nat × List Nat × Nat × List Nat
def Kid.bd (e : Kid) : Nat := e.1
def Kid.nb (e : Kid) : Nat := e.2.1
def Kid.ks (e : Kid) : List Nat := e.2.2.1
def Kid.n (e : Kid) : Nat := e.2.2.2.1
def Kid.own (e : Kid) : List Nat := e.2.2.2.2

/-- Each kid's bound parts it from the kids before. -/
def Ord (es : List Kid) : Prop := es.Pairwise fun a b => (∀ x ∈ a.ks, x < b.bd) ∧ ∀ y ∈ b.ks, b.bd ≤ y
def keysOf (es : List Kid) : List Nat := es.flatMap Kid.ks
def ownOf (es : List Kid) : List Nat := es.flatMap Kid.own

/-- A leaf, its keys' array of capacity K. -/
structure Leaf (K : Nat) (w : World) (nb : Nat) (ks : List Nat) (n : Nat) (own : List Nat) (kb : Nat) (xs : List Nat) : Prop where
  hOwn : own = [nb, kb]
  hNe : nb ≠ kb
  hN : n = ks.length
  hXs : xs.length = K
  hTake : xs.take n = ks
  hLe : n ≤ K
  hNode : Blk w nb (nd (sl kb n K) (.slice none 0 0) ks.length ks.sum) 63
  hKeys : Blk w kb (ids xs) 30
  hSorted : ks.Pairwise (· < ·)
  hSmall : ∀ x ∈ ks, x < 4294967296

/-- An inner node: what is its own. -/
structure Inner (K C : Nat) (w : World) (nb : Nat) (ks : List Nat) (n : Nat) (own : List Nat) (kb cb : Nat) (xs : List Nat) (ps : List Value) (es : List Kid) : Prop where
  hOwn : own = nb :: kb :: cb :: ownOf es
  hNodup : own.Nodup
  hN : n = es.length
  hPos : 0 < n
  hXs : xs.length = K
  hTake : xs.take n = es.map Kid.bd
  hSmall : ∀ x ∈ xs, x < 4294967296
  hLe : n ≤ K
  hPs : ps.length = C
  hTakeP : ps.take n = es.map fun e => ptr e.nb
  hOne : ∀ u ∈ ps, u.oneCell' = true
  hLeC : n ≤ C
  hKs : ks = keysOf es
  hNode : Blk w nb (nd (sl kb n K) (sl cb n C) ks.length ks.sum) 63
  hKeys : Blk w kb (ids xs) 30
  hKids : Blk w cb ps 32
  hOrd : Ord es

/-- A tree of depth d at node nb: its keys, in order; its entries; its blocks. -/
def Tree : Nat → Nat → Nat → World → Nat → List Nat → Nat → List Nat → Prop
  | 0, K, _, w, nb, ks, n, own => ∃ kb xs, Leaf K w nb ks n own kb xs
  | d + 1, K, C, w, nb, ks, n, own => ∃ kb cb xs ps es, Inner K C w nb ks n own kb cb xs ps es ∧ ∀ e ∈ es, 16 ≤ e.n ∧ e.n ≤ 32 ∧ Tree d 33 33 w e.nb e.ks e.n e.own

theorem Leaf.of_blocks {K : Nat} {w w' : World} {nb : Nat} {ks : List Nat} {n : Nat} {own : List Nat} {kb : Nat} {xs : List Nat} (h : Leaf K w nb ks n own kb xs) (e : ∀ b ∈ own, w'.heap[b]? = w.heap[b]?) : Leaf K w' nb ks n own kb xs := by
  refine { h with hNode := h.hNode.of_block (e _ ?_), hKeys := h.hKeys.of_block (e _ ?_) } <;> rw [h.hOwn] <;> simp

theorem Inner.of_blocks {K C : Nat} {w w' : World} {nb : Nat} {ks : List Nat} {n : Nat} {own : List Nat} {kb cb : Nat} {xs : List Nat} {ps : List Value} {es : List Kid} (h : Inner K C w nb ks n own kb cb xs ps es) (e : ∀ b ∈ [nb, kb, cb], w'.heap[b]? = w.heap[b]?) : Inner K C w' nb ks n own kb cb xs ps es :=
  { h with hNode := h.hNode.of_block (e _ (by simp)), hKeys := h.hKeys.of_block (e _ (by simp)), hKids := h.hKids.of_block (e _ (by simp)) }

theorem mem_ownOf {es : List Kid} {e : Kid} (he : e ∈ es) {b : Nat} (hb : b ∈ e.own) : b ∈ ownOf es := List.mem_flatMap.2 ⟨e, he, hb⟩
theorem mem_keysOf {es : List Kid} {e : Kid} (he : e ∈ es) {b : Nat} (hb : b ∈ e.ks) : b ∈ keysOf es := List.mem_flatMap.2 ⟨e, he, hb⟩

theorem Tree.of_blocks : ∀ {d K C : Nat} {w w' : World} {nb : Nat} {ks : List Nat} {n : Nat} {own : List Nat}, Tree d K C w nb ks n own → (∀ b ∈ own, w'.heap[b]? = w.heap[b]?) → Tree d K C w' nb ks n own
  | 0, _, _, _, _, _, _, _, _, ⟨kb, xs, h⟩, e => ⟨kb, xs, h.of_blocks e⟩
  | d + 1, _, _, _, _, _, _, _, _, ⟨kb, cb, xs, ps, es, h, hk⟩, e =>
    ⟨kb, cb, xs, ps, es, h.of_blocks (fun b hb => e b (by rw [h.hOwn]; simp at hb ⊢; rcases hb with rfl | rfl | rfl <;> simp)),
      fun x hx => ⟨(hk x hx).1, (hk x hx).2.1, (hk x hx).2.2.of_blocks (fun b hb => e b (by rw [h.hOwn]; simp; exact .inr (.inr (.inr (mem_ownOf hx hb)))))⟩⟩

theorem Tree.lt : ∀ {d K C : Nat} {w : World} {nb : Nat} {ks : List Nat} {n : Nat} {own : List Nat}, Tree d K C w nb ks n own → ∀ b ∈ own, b < w.heap.size
  | 0, _, _, _, _, _, _, _, ⟨kb, xs, h⟩, b, hb => by
    rw [h.hOwn] at hb
    simp at hb
    rcases hb with rfl | rfl
    · exact h.hNode.lt
    · exact h.hKeys.lt
  | d + 1, _, _, _, _, _, _, _, ⟨kb, cb, xs, ps, es, h, hk⟩, b, hb => by
    rw [h.hOwn] at hb
    simp at hb
    rcases hb with rfl | rfl | rfl | hb
    · exact h.hNode.lt
    · exact h.hKeys.lt
    · exact h.hKids.lt
    · obtain ⟨e, he, hb⟩ := List.mem_flatMap.1 hb
      exact (hk e he).2.2.lt b hb

theorem Tree.kept {S : Nat → Prop} {d K C : Nat} {w w' : World} {nb : Nat} {ks : List Nat} {n : Nat} {own : List Nat} (h : Tree d K C w nb ks n own) (e : Kept S w w') (hn : ∀ b ∈ own, ¬ S b) : Tree d K C w' nb ks n own :=
  h.of_blocks fun b hb => e.block b (h.lt b hb) (hn b hb)
theorem Tree.below {d K C : Nat} {w w' : World} {nb : Nat} {ks : List Nat} {n : Nat} {own : List Nat} (h : Tree d K C w nb ks n own) (e : Below w.heap.size w w') : Tree d K C w' nb ks n own :=
  h.of_blocks fun b hb => e.block b (h.lt b hb)

theorem Tree.nodup {d K C : Nat} {w : World} {nb : Nat} {ks : List Nat} {n : Nat} {own : List Nat} (h : Tree d K C w nb ks n own) : own.Nodup := by
  cases d with
  | zero =>
    obtain ⟨kb, xs, h⟩ := h
    rw [h.hOwn]
    simp [h.hNe]
  | succ d =>
    obtain ⟨kb, cb, xs, ps, es, h, _⟩ := h
    exact h.hNodup

/-- The node's block, whatever the depth. -/
theorem Tree.node {d K C : Nat} {w : World} {nb : Nat} {ks : List Nat} {n : Nat} {own : List Nat} (h : Tree d K C w nb ks n own) : nb ∈ own ∧ ∃ kb q xs, kb ∈ own ∧ Blk w nb (nd (sl kb n K) q ks.length ks.sum) 63 ∧ Blk w kb (ids xs) 30 ∧ xs.length = K ∧ n ≤ K := by
  cases d with
  | zero =>
    obtain ⟨kb, xs, h⟩ := h
    exact ⟨by rw [h.hOwn]; simp, kb, _, xs, by rw [h.hOwn]; simp, h.hNode, h.hKeys, h.hXs, h.hLe⟩
  | succ d =>
    obtain ⟨kb, cb, xs, ps, es, h, _⟩ := h
    exact ⟨by rw [h.hOwn]; simp, kb, _, xs, by rw [h.hOwn]; simp, h.hNode, h.hKeys, h.hXs, h.hLe⟩

theorem keysOf_nil : keysOf [] = [] := rfl
theorem keysOf_cons (e : Kid) (es : List Kid) : keysOf (e :: es) = e.ks ++ keysOf es := rfl
theorem keysOf_append (a b : List Kid) : keysOf (a ++ b) = keysOf a ++ keysOf b := by simp [keysOf]
theorem ownOf_append (a b : List Kid) : ownOf (a ++ b) = ownOf a ++ ownOf b := by simp [ownOf]
theorem ownOf_cons (e : Kid) (es : List Kid) : ownOf (e :: es) = e.own ++ ownOf es := rfl

/-- The keys are in order, and small. -/
theorem Ord.sorted : ∀ {es : List Kid}, Ord es → (∀ e ∈ es, e.ks.Pairwise (· < ·)) → (keysOf es).Pairwise (· < ·)
  | [], _, _ => List.Pairwise.nil
  | e :: es, h, hs => by
    rw [Ord, List.pairwise_cons] at h
    rw [keysOf_cons, List.pairwise_append]
    refine ⟨hs e (by simp), Ord.sorted h.2 (fun x hx => hs x (by simp [hx])), fun x hx y hy => ?_⟩
    obtain ⟨f, hf, hy⟩ := List.mem_flatMap.1 hy
    exact Nat.lt_of_lt_of_le ((h.1 f hf).1 x hx) ((h.1 f hf).2 y hy)

theorem Tree.sorted : ∀ {d K C : Nat} {w : World} {nb : Nat} {ks : List Nat} {n : Nat} {own : List Nat}, Tree d K C w nb ks n own → ks.Pairwise (· < ·) ∧ ∀ x ∈ ks, x < 4294967296
  | 0, _, _, _, _, _, _, _, ⟨kb, xs, h⟩ => ⟨h.hSorted, h.hSmall⟩
  | d + 1, _, _, _, _, _, _, _, ⟨kb, cb, xs, ps, es, h, hk⟩ => by
    rw [h.hKs]
    refine ⟨h.hOrd.sorted fun e he => (hk e he).2.2.sorted.1, fun x hx => ?_⟩
    obtain ⟨e, he, hx⟩ := List.mem_flatMap.1 hx
    exact (hk e he).2.2.sorted.2 x hx

theorem Tree.ne_nil : ∀ {d K C : Nat} {w : World} {nb : Nat} {ks : List Nat} {n : Nat} {own : List Nat}, Tree d K C w nb ks n own → 0 < n → ks ≠ []
  | 0, _, _, _, _, _, _, _, ⟨kb, xs, h⟩, hn => fun e => by have := h.hN; rw [e] at this; simp at this; omega
  | d + 1, _, _, _, _, _, _, _, ⟨kb, cb, xs, ps, es, h, hk⟩, hn => by
    cases es with
    | nil => have := h.hN; simp at this; omega
    | cons e es =>
      rw [h.hKs, keysOf_cons]
      have := (hk e (by simp)).2.2.ne_nil (by have := (hk e (by simp)).1; omega)
      simp [this]

end Go.Proofs.Ybulkbqza
