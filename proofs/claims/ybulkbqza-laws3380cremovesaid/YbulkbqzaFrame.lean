/-
  Seat b3380a. The frame of the walks: which blocks a call may turn; a row of uint32.
-/
import Derived.Test.YbulkbqzaRows
import Derived.WalkKit
import Derived.Below
import Derived.Sort.Defs
import Derived.Sort.LotA
import Derived.Sort.WalkA
import Derived.CellFam
import Derived.Deep.QuietTactic
import Derived.Deep.LoopGhost
import Derived.BigQuiet
namespace Go.Proofs.Ybulkbqza
open Go.RowKit
set_option linter.unusedVariables false

/-- All blocks of w but those of S stand in w' as they stood. -/
structure Kept (S : Nat → Prop) (w w' : World) : Prop where
  os : w'.os = w.os
  tape : w'.tape = w.tape
  output : w'.output = w.output
  size : w.heap.size ≤ w'.heap.size
  block : ∀ k, k < w.heap.size → ¬ S k → w'.heap[k]? = w.heap[k]?

theorem Kept.refl (S : Nat → Prop) (w : World) : Kept S w w := ⟨rfl, rfl, rfl, Nat.le_refl _, fun _ _ _ => rfl⟩

theorem Kept.trans {S : Nat → Prop} {a b c : World} (h : Kept S a b) (k : Kept S b c) : Kept S a c :=
  ⟨k.os.trans h.os, k.tape.trans h.tape, k.output.trans h.output, Nat.le_trans h.size k.size,
    fun i hi h1 => (k.block i (Nat.lt_of_lt_of_le hi h.size) h1).trans (h.block i hi h1)⟩

theorem Kept.mono {S T : Nat → Prop} {w w' : World} (h : Kept S w w') (st : ∀ k, k < w.heap.size → S k → T k) : Kept T w w' :=
  ⟨h.os, h.tape, h.output, h.size, fun k hk hT => h.block k hk fun hS => hT (st k hk hS)⟩

theorem Kept.of_below {S : Nat → Prop} {w w' : World} (h : Below w.heap.size w w') : Kept S w w' :=
  ⟨h.os, h.tape, h.output, h.size, fun k hk _ => h.block k hk⟩

theorem Kept.below {S : Nat → Prop} {w w' : World} (h : Kept S w w') {m : Nat} (hm : m ≤ w.heap.size) (hS : ∀ k, k < m → ¬ S k) : Below m w w' :=
  ⟨h.os, h.tape, h.output, h.size, fun k hk => h.block k (by omega) (hS k hk)⟩

theorem Kept.drewN {S : Nat → Prop} {a w : World} (h : Kept S a w) (n : Nat) : Kept S a (w.drewN n) := ⟨h.os, h.tape, h.output, h.size, h.block⟩
theorem Kept.drew {S : Nat → Prop} {a w : World} (h : Kept S a w) : Kept S a w.drew := ⟨h.os, h.tape, h.output, h.size, h.block⟩

theorem Kept.alloc {S : Nat → Prop} {a w : World} (h : Kept S a w) (o : Obj) : Kept S a (w.alloc o) :=
  h.trans (Kept.of_below ((Below.refl _ _).alloc (Nat.le_refl _) o))

/-- A store into a block that is new since a, or into one that may turn. -/
theorem Kept.setCell {S : Nat → Prop} {a w : World} (h : Kept S a w) {p : Addr} (hp : a.heap.size ≤ p.block ∨ S p.block) (u : Value) : Kept S a (w.setCell p u) :=
  ⟨h.os, h.tape, h.output, by simpa [World.setCell] using h.size, fun k hk h1 => by
    have : k ≠ p.block := fun e => by rcases hp with hp | hp; · omega
                                      · exact h1 (e ▸ hp)
    rw [Below.heap_setCell _ _ _ _ this]; exact h.block k hk h1⟩

theorem Kept.cell {S : Nat → Prop} {w w' : World} (h : Kept S w w') {p : Addr} (hp : p.block < w.heap.size) (h1 : ¬ S p.block) : w'.cell? p = w.cell? p :=
  World.cell?_of_block (w := w) (h.block p.block hp h1)
theorem Kept.frozen {S : Nat → Prop} {w w' : World} (h : Kept S w w') {p : Addr} (hp : p.block < w.heap.size) (h1 : ¬ S p.block) : w'.frozen? p = w.frozen? p :=
  World.frozen?_of_block (w := w) (h.block p.block hp h1)

/-- A row of uint32. -/
structure Row32 (b off : Nat) (d : Array Int) (w : World) : Prop where
  lt : b < w.heap.size
  c : ∀ t, t < d.size → w.cell? ⟨b, off + t, none⟩ = some (.int .u32 d[t]!)
  f : ∀ t, t < d.size → w.frozen? ⟨b, off + t, none⟩ = false

theorem Row32.of_block {b off : Nat} {d : Array Int} {w w' : World} (t : Row32 b off d w) (hs : w.heap.size ≤ w'.heap.size) (h1 : w'.heap[b]? = w.heap[b]?) : Row32 b off d w' :=
  ⟨Nat.lt_of_lt_of_le t.lt hs,
    fun i hi => (World.cell?_of_block (w := w) (a := ⟨b, off + i, none⟩) h1).trans (t.c i hi),
    fun i hi => (World.frozen?_of_block (w := w) (a := ⟨b, off + i, none⟩) h1).trans (t.f i hi)⟩

/-- The state inside a sort that began in the world w0. -/
structure St (b off n : Nat) (w0 : World) (d : Array Int) (w : World) : Prop where
  row : Row32 b off d w
  kept : Kept (· = b) w0 w
  size : d.size = n

theorem St.below {b off n : Nat} {w0 w w' : World} {d : Array Int} (s : St b off n w0 d w) (h : Below w.heap.size w w') : St b off n w0 d w' := ⟨s.row.of_block h.size (h.block _ s.row.lt), s.kept.trans (Kept.of_below h), s.size⟩
theorem St.drew {b off n : Nat} {w0 w : World} {d : Array Int} (s : St b off n w0 d w) : St b off n w0 d w.drew := ⟨s.row.of_block (Nat.le_refl _) rfl, s.kept.drew, s.size⟩
theorem St.drewN {b off n : Nat} {w0 w : World} {d : Array Int} (s : St b off n w0 d w) (m : Nat) : St b off n w0 d (w.drewN m) := ⟨s.row.of_block (Nat.le_refl _) rfl, s.kept.drewN m, s.size⟩
theorem St.trans {b off n : Nat} {w0 w w' : World} {d d' : Array Int} (s : St b off n w0 d w) (h : St b off n w d' w') : St b off n w0 d' w' := ⟨h.row, s.kept.trans h.kept, h.size⟩
theorem St.start {b off n : Nat} {w : World} {d : Array Int} (t : Row32 b off d w) (h : d.size = n) : St b off n w d w := ⟨t, Kept.refl _ _, h⟩

/-- One store into the row. -/
theorem St.set {b off n : Nat} {w0 w : World} {d : Array Int} (s : St b off n w0 d w) (i : Nat) (hi : i < n) (x : Int) : St b off n w0 (d.setIfInBounds i x) (w.setCell ⟨b, off + i, none⟩ (.int .u32 x)) := by
  have hs := s.size
  refine ⟨⟨by simpa [World.setCell] using s.row.lt, fun t ht => ?_, fun t ht => ?_⟩, s.kept.setCell (Or.inr rfl) _, by simpa using hs⟩
  · have ht' : t < d.size := by simpa using ht
    have ct := s.row.c t ht'
    rw [getElem!_pos _ t ht, Array.getElem_setIfInBounds ht']
    by_cases e : i = t
    · subst e
      rw [if_pos rfl]
      exact World.cell?_setCell_same _ _ _ ct
    · rw [if_neg e, World.cell?_setCell_other _ _ _ _ (by simp), ct, getElem!_pos _ t ht']
  · have ht' : t < d.size := by simpa using ht
    simpa using s.row.f t ht'

/-- The two stores of 'data[i], data[j] = data[j], data[i]'. -/
theorem St.swapped {b off n : Nat} {w0 w : World} {d : Array Int} (s : St b off n w0 d w) (i j : Nat) (hi : i < n) (hj : j < n) :
    St b off n w0 (Sort.swp d i j) ((w.setCell ⟨b, off + i, none⟩ (.int .u32 d[j]!)).setCell ⟨b, off + j, none⟩ (.int .u32 d[i]!)) :=
  (s.set i hi d[j]!).set j hj d[i]!

end Go.Proofs.Ybulkbqza
