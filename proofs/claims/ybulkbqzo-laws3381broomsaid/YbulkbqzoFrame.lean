/-
  Seat b3381a. The frame of the sort's walks: two rows (hosts, counts) in two blocks; whatever else lay there stays.
-/
import Derived.Test.YbulkbqzoRows
import Derived.WalkKit
import Derived.Sort.Defs
import Derived.Deep.QuietTactic
import Derived.BigQuiet
namespace Go.Proofs.Ybulkbqzo
open Go.RowKit

/-- A host's name and its count. -/
abbrev HC := ByteArray × Int

/-- 'Less' of byName. -/
def ltS (x y : HC) : Bool := Op.bytesLess x.1.toList y.1.toList

/-- All blocks of w but bh and bc stand in w' as they stood. -/
structure Kept (bh bc : Nat) (w w' : World) : Prop where
  os : w'.os = w.os
  tape : w'.tape = w.tape
  output : w'.output = w.output
  size : w.heap.size ≤ w'.heap.size
  block : ∀ k, k < w.heap.size → k ≠ bh → k ≠ bc → w'.heap[k]? = w.heap[k]?

theorem Kept.refl (bh bc : Nat) (w : World) : Kept bh bc w w := ⟨rfl, rfl, rfl, Nat.le_refl _, fun _ _ _ _ => rfl⟩

theorem Kept.trans {bh bc : Nat} {a b c : World} (h : Kept bh bc a b) (k : Kept bh bc b c) : Kept bh bc a c :=
  ⟨k.os.trans h.os, k.tape.trans h.tape, k.output.trans h.output, Nat.le_trans h.size k.size,
    fun i hi h1 h2 => (k.block i (Nat.lt_of_lt_of_le hi h.size) h1 h2).trans (h.block i hi h1 h2)⟩

theorem Kept.of_below {bh bc : Nat} {w w' : World} (h : Below w.heap.size w w') : Kept bh bc w w' :=
  ⟨h.os, h.tape, h.output, h.size, fun k hk _ _ => h.block k hk⟩

theorem Kept.drewN {bh bc : Nat} {a w : World} (h : Kept bh bc a w) (n : Nat) : Kept bh bc a (w.drewN n) := ⟨h.os, h.tape, h.output, h.size, h.block⟩
theorem Kept.drew {bh bc : Nat} {a w : World} (h : Kept bh bc a w) : Kept bh bc a w.drew := ⟨h.os, h.tape, h.output, h.size, h.block⟩

theorem Kept.alloc {bh bc : Nat} {a w : World} (h : Kept bh bc a w) (o : Obj) : Kept bh bc a (w.alloc o) :=
  h.trans (Kept.of_below ((Below.refl _ _).alloc (Nat.le_refl _) o))

/-- A store into a block that is new since a, or into one of the two rows. -/
theorem Kept.setCell {bh bc : Nat} {a w : World} (h : Kept bh bc a w) {p : Addr} (hp : a.heap.size ≤ p.block ∨ p.block = bh ∨ p.block = bc) (u : Value) : Kept bh bc a (w.setCell p u) :=
  ⟨h.os, h.tape, h.output, by simpa [World.setCell] using h.size, fun k hk h1 h2 => by
    rw [Below.heap_setCell _ _ _ _ (by omega)]; exact h.block k hk h1 h2⟩

theorem Kept.cell {bh bc : Nat} {w w' : World} (h : Kept bh bc w w') {p : Addr} (hp : p.block < w.heap.size) (h1 : p.block ≠ bh) (h2 : p.block ≠ bc) : w'.cell? p = w.cell? p :=
  World.cell?_of_block (w := w) (h.block p.block hp h1 h2)
theorem Kept.frozen {bh bc : Nat} {w w' : World} (h : Kept bh bc w w') {p : Addr} (hp : p.block < w.heap.size) (h1 : p.block ≠ bh) (h2 : p.block ≠ bc) : w'.frozen? p = w.frozen? p :=
  World.frozen?_of_block (w := w) (h.block p.block hp h1 h2)

/-- The two rows hold d. -/
structure Two (bh bc : Nat) (d : Array HC) (w : World) : Prop where
  ne : bh ≠ bc
  hb : bh < w.heap.size
  cb : bc < w.heap.size
  h : ∀ i, i < d.size → w.cell? ⟨bh, i, none⟩ = some (.string d[i]!.1)
  c : ∀ i, i < d.size → w.cell? ⟨bc, i, none⟩ = some (.int .i64 d[i]!.2)
  fh : ∀ i, i < d.size → w.frozen? ⟨bh, i, none⟩ = false
  fc : ∀ i, i < d.size → w.frozen? ⟨bc, i, none⟩ = false

theorem Two.of_blocks {bh bc : Nat} {d : Array HC} {w w' : World} (t : Two bh bc d w) (hs : w.heap.size ≤ w'.heap.size) (h1 : w'.heap[bh]? = w.heap[bh]?) (h2 : w'.heap[bc]? = w.heap[bc]?) : Two bh bc d w' :=
  ⟨t.ne, Nat.lt_of_lt_of_le t.hb hs, Nat.lt_of_lt_of_le t.cb hs,
    fun i hi => (World.cell?_of_block (w := w) (a := ⟨bh, i, none⟩) h1).trans (t.h i hi),
    fun i hi => (World.cell?_of_block (w := w) (a := ⟨bc, i, none⟩) h2).trans (t.c i hi),
    fun i hi => (World.frozen?_of_block (w := w) (a := ⟨bh, i, none⟩) h1).trans (t.fh i hi),
    fun i hi => (World.frozen?_of_block (w := w) (a := ⟨bc, i, none⟩) h2).trans (t.fc i hi)⟩

theorem Two.of_below {bh bc : Nat} {d : Array HC} {w w' : World} (t : Two bh bc d w) (h : Below w.heap.size w w') : Two bh bc d w' :=
  t.of_blocks h.size (h.block _ t.hb) (h.block _ t.cb)
theorem Two.drewN {bh bc : Nat} {d : Array HC} {w : World} (t : Two bh bc d w) (n : Nat) : Two bh bc d (w.drewN n) := t.of_blocks (Nat.le_refl _) rfl rfl
theorem Two.drew {bh bc : Nat} {d : Array HC} {w : World} (t : Two bh bc d w) : Two bh bc d w.drew := t.of_blocks (Nat.le_refl _) rfl rfl
theorem Two.alloc {bh bc : Nat} {d : Array HC} {w : World} (t : Two bh bc d w) (o : Obj) : Two bh bc d (w.alloc o) := t.of_below ((Below.refl _ _).alloc (Nat.le_refl _) o)
/-- A store into a third block. -/
theorem Two.setCell {bh bc : Nat} {d : Array HC} {w : World} (t : Two bh bc d w) {p : Addr} (h1 : p.block ≠ bh) (h2 : p.block ≠ bc) (u : Value) : Two bh bc d (w.setCell p u) :=
  t.of_blocks (by simp [World.setCell]) (Below.heap_setCell _ _ _ _ (by omega)) (Below.heap_setCell _ _ _ _ (by omega))

theorem swp_get (d : Array HC) (i j k : Nat) (hk : k < d.size) : (Sort.swp d i j)[k]! = if k = j then d[i]! else if k = i then d[j]! else d[k]! := by
  unfold Sort.swp
  rw [getElem!_pos _ k (by simpa using hk), Array.getElem_setIfInBounds (by simpa using hk)]
  by_cases h1 : j = k
  · subst h1; simp
  · rw [if_neg h1, if_neg (by omega), Array.getElem_setIfInBounds (by simpa using hk)]
    by_cases h2 : i = k
    · subst h2; simp
    · rw [if_neg h2, if_neg (by omega), getElem!_pos _ k hk]

theorem swp_size (d : Array HC) (i j : Nat) : (Sort.swp d i j).size = d.size := by simp [Sort.swp]

/-- The four stores of 'Swap'. -/
theorem Two.swapped {bh bc : Nat} {d : Array HC} {w : World} (t : Two bh bc d w) (i j : Nat) (hi : i < d.size) (hj : j < d.size) :
    Two bh bc (Sort.swp d i j) ((((w.setCell ⟨bh, i, none⟩ (.string d[j]!.1)).setCell ⟨bh, j, none⟩ (.string d[i]!.1)).setCell ⟨bc, i, none⟩ (.int .i64 d[j]!.2)).setCell ⟨bc, j, none⟩ (.int .i64 d[i]!.2)) := by
  have ne := t.ne
  have ad : ∀ (b b' o o' : Nat), (b ≠ b' ∨ o ≠ o') → (⟨b, o, none⟩ : Addr) ≠ ⟨b', o', none⟩ := fun b b' o o' h e => by
    simp at e; omega
  refine ⟨ne, by simpa [World.setCell] using t.hb, by simpa [World.setCell] using t.cb, ?_, ?_, ?_, ?_⟩
  · intro k hk
    rw [swp_size] at hk
    rw [World.cell?_setCell_other _ _ _ _ (ad _ _ _ _ (Or.inl (fun e => ne e.symm))), World.cell?_setCell_other _ _ _ _ (ad _ _ _ _ (Or.inl (fun e => ne e.symm))), swp_get d i j k hk]
    have ci := t.h i hi
    have cj := t.h j hj
    by_cases h1 : k = j
    · subst h1
      rw [if_pos rfl]
      by_cases h2 : i = k
      · subst h2; exact World.cell?_setCell_same _ _ _ (World.cell?_setCell_same _ _ _ ci)
      · exact World.cell?_setCell_same _ _ _ ((World.cell?_setCell_other _ _ _ _ (ad _ _ _ _ (Or.inr h2))).trans cj)
    · rw [if_neg h1, World.cell?_setCell_other _ _ _ _ (ad _ _ _ _ (Or.inr (fun e => h1 e.symm)))]
      by_cases h2 : k = i
      · subst h2; rw [if_pos rfl]; exact World.cell?_setCell_same _ _ _ ci
      · rw [if_neg h2, World.cell?_setCell_other _ _ _ _ (ad _ _ _ _ (Or.inr (fun e => h2 e.symm)))]; exact t.h k hk
  · intro k hk
    rw [swp_size] at hk
    rw [swp_get d i j k hk]
    have cc : ∀ m, m < d.size → ((w.setCell ⟨bh, i, none⟩ (.string d[j]!.1)).setCell ⟨bh, j, none⟩ (.string d[i]!.1)).cell? ⟨bc, m, none⟩ = some (.int .i64 d[m]!.2) := fun m hm => by
      rw [World.cell?_setCell_other _ _ _ _ (ad _ _ _ _ (Or.inl ne)), World.cell?_setCell_other _ _ _ _ (ad _ _ _ _ (Or.inl ne))]; exact t.c m hm
    have ci := cc i hi
    have cj := cc j hj
    by_cases h1 : k = j
    · subst h1
      rw [if_pos rfl]
      by_cases h2 : i = k
      · subst h2; exact World.cell?_setCell_same _ _ _ (World.cell?_setCell_same _ _ _ ci)
      · exact World.cell?_setCell_same _ _ _ ((World.cell?_setCell_other _ _ _ _ (ad _ _ _ _ (Or.inr h2))).trans cj)
    · rw [if_neg h1, World.cell?_setCell_other _ _ _ _ (ad _ _ _ _ (Or.inr (fun e => h1 e.symm)))]
      by_cases h2 : k = i
      · subst h2; rw [if_pos rfl]; exact World.cell?_setCell_same _ _ _ ci
      · rw [if_neg h2, World.cell?_setCell_other _ _ _ _ (ad _ _ _ _ (Or.inr (fun e => h2 e.symm)))]; exact cc k hk
  · intro k hk
    rw [swp_size] at hk
    simpa using t.fh k hk
  · intro k hk
    rw [swp_size] at hk
    simpa using t.fc k hk

end Go.Proofs.Ybulkbqzo
