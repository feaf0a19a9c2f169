/-
  Seat b3381a. The plain side of newHosts: names in the order of their first event, each with its count. No Go in sight.
-/
import Derived.Test.YbulkbqzoFrame
namespace Go.Proofs.Ybulkbqzo
set_option linter.unusedVariables false

/-- How many of the first k names are s. -/
def cntTo (hs : Nat → ByteArray) : Nat → ByteArray → Nat
  | 0, _ => 0
  | k + 1, s => cntTo hs k s + if hs k = s then 1 else 0

theorem cntTo_zero (hs : Nat → ByteArray) (s : ByteArray) : ∀ k, (∀ i, i < k → hs i ≠ s) → cntTo hs k s = 0
  | 0, _ => rfl
  | k + 1, h => by
    unfold cntTo
    rw [cntTo_zero hs s k (fun i hi => h i (by omega)), if_neg (h k (by omega))]

theorem cntTo_pos (hs : Nat → ByteArray) (s : ByteArray) : ∀ k i, i < k → hs i = s → 1 ≤ cntTo hs k s
  | 0, i, h, _ => by omega
  | k + 1, i, h, e => by
    unfold cntTo
    by_cases hk : i = k
    · subst hk; rw [if_pos e]; omega
    · have := cntTo_pos hs s k i (by omega) e
      omega

theorem cntTo_mem (hs : Nat → ByteArray) (s : ByteArray) (k : Nat) (h : 1 ≤ cntTo hs k s) : ∃ i, i < k ∧ hs i = s := by
  apply Classical.byContradiction
  intro hn
  have := cntTo_zero hs s k (fun i hi e => hn ⟨i, hi, e⟩)
  omega

theorem cntTo_le (hs : Nat → ByteArray) (s : ByteArray) : ∀ k, cntTo hs k s ≤ k
  | 0 => by simp [cntTo]
  | k + 1 => by
    unfold cntTo
    have := cntTo_le hs s k
    split <;> omega

/-- What the first loop of newHosts has gathered after k events. -/
structure Inv (hs : Nat → ByteArray) (k : Nat) (P : List (ByteArray × Nat)) : Prop where
  nodup : (P.map (·.1)).Nodup
  le : P.length ≤ k
  cnt : ∀ i (h : i < P.length), P[i].2 = cntTo hs k P[i].1
  pos : ∀ i (h : i < P.length), 1 ≤ P[i].2
  mem : ∀ i, i < k → hs i ∈ P.map (·.1)
  sum : (P.map (·.2)).sum = k

theorem Inv.zero (hs : Nat → ByteArray) : Inv hs 0 [] :=
  ⟨List.nodup_nil, Nat.le_refl _, fun i h => by simp at h, fun i h => by simp at h, fun i h => by omega, rfl⟩

theorem sum_set_succ : ∀ (l : List Nat) (j : Nat) (h : j < l.length), (l.set j (l[j] + 1)).sum = l.sum + 1
  | [], j, h => by simp at h
  | x :: l, 0, h => by simp; omega
  | x :: l, j + 1, h => by
    have := sum_set_succ l j (by simpa using h)
    simp at *
    omega

theorem Inv.fst_inj {hs : Nat → ByteArray} {k : Nat} {P : List (ByteArray × Nat)} (v : Inv hs k P) {i j : Nat} (hi : i < P.length) (hj : j < P.length) (e : P[i].1 = P[j].1) : i = j := by
  have h := (List.getElem_inj (xs := P.map (·.1)) (i := i) (j := j) (h₀ := by simpa using hi) (h₁ := by simpa using hj) v.nodup).1 (by simpa using e)
  exact h

theorem Inv.bound {hs : Nat → ByteArray} {k : Nat} {P : List (ByteArray × Nat)} (v : Inv hs k P) (i : Nat) (h : i < P.length) : P[i].2 ≤ k := by
  rw [v.cnt i h]; exact cntTo_le _ _ _

theorem Inv.hit {hs : Nat → ByteArray} {k : Nat} {P : List (ByteArray × Nat)} (v : Inv hs k P) (j : Nat) (hj : j < P.length) (e : P[j].1 = hs k) : Inv hs (k + 1) (P.set j (P[j].1, P[j].2 + 1)) := by
  have hm : (P.set j (P[j].1, P[j].2 + 1)).map (·.1) = P.map (·.1) := by
    rw [List.map_set]
    apply List.ext_getElem (by simp)
    intro n h1 h2
    rw [List.getElem_set]
    split
    · rename_i hh; subst hh; simp
    · rfl
  refine ⟨by rw [hm]; exact v.nodup, by have := v.le; simp; omega, fun i h => ?_, fun i h => ?_, fun i h => ?_, ?_⟩
  · simp only [List.length_set] at h
    rw [List.getElem_set]
    split
    · rename_i hh; subst hh
      simp only [cntTo]
      rw [if_pos e.symm, v.cnt j hj]
    · rename_i hh
      simp only [cntTo]
      rw [if_neg (fun e2 => hh (v.fst_inj hj h (e.trans e2))), v.cnt i h]
      simp
  · simp only [List.length_set] at h
    rw [List.getElem_set]
    split
    · simp
    · exact v.pos i h
  · rw [hm]
    by_cases hk : i = k
    · subst hk; rw [← e]; exact List.mem_map.2 ⟨P[j], List.getElem_mem _, rfl⟩
    · exact v.mem i (by omega)
  · rw [List.map_set]
    have := sum_set_succ (P.map (·.2)) j (by simpa using hj)
    simp only [List.getElem_map] at this
    simpa [v.sum] using this

theorem Inv.miss {hs : Nat → ByteArray} {k : Nat} {P : List (ByteArray × Nat)} (v : Inv hs k P) (e : hs k ∉ P.map (·.1)) : Inv hs (k + 1) (P ++ [(hs k, 1)]) := by
  have hne : ∀ i (h : i < P.length), hs k ≠ P[i].1 := fun i h ee => e (by rw [ee]; exact List.mem_map.2 ⟨P[i], List.getElem_mem _, rfl⟩)
  refine ⟨?_, by have := v.le; simp; omega, fun i h => ?_, fun i h => ?_, fun i h => ?_, ?_⟩
  · rw [List.map_append]
    exact List.nodup_append.2 ⟨v.nodup, by simp, fun a ha b hb => by simp at hb; subst hb; intro e2; subst e2; exact e ha⟩
  · rw [List.getElem_append]
    split
    · rename_i h2
      simp only [cntTo]
      rw [if_neg (hne i h2), v.cnt i h2]
      simp
    · rename_i h2
      simp at h
      have : i - P.length = 0 := by omega
      simp only [this, List.getElem_cons_zero, cntTo]
      rw [cntTo_zero hs _ k (fun i hi e2 => e (by rw [← e2]; exact v.mem i hi))]
      simp
  · rw [List.getElem_append]
    split
    · rename_i h2; exact v.pos i h2
    · rename_i h2
      simp at h
      have : i - P.length = 0 := by omega
      simp only [this, List.getElem_cons_zero]
      omega
  · rw [List.map_append]
    by_cases hk : i = k
    · subst hk; simp
    · exact List.mem_append_left _ (v.mem i (by omega))
  · simp [v.sum]

/-- f leads each name to its place. -/
structure Idx (L : List ByteArray) (f : List UInt8 → Option Nat) : Prop where
  yes : ∀ j (h : j < L.length), f L[j].data.toList = some j
  no : ∀ s : ByteArray, s ∉ L → f s.data.toList = none

theorem Idx.nil : Idx [] (fun _ => none) := ⟨fun j h => by simp at h, fun _ _ => rfl⟩

theorem data_inj {a b : ByteArray} (h : a.data.toList = b.data.toList) : a = b := WideShapes.bytes_inj h

theorem Idx.snoc {L : List ByteArray} {f : List UInt8 → Option Nat} (v : Idx L f) (s : ByteArray) (hs : s ∉ L) : Idx (L ++ [s]) (fun l => if l = s.data.toList then some L.length else f l) := by
  refine ⟨fun j h => ?_, fun t ht => ?_⟩
  · rw [List.getElem_append]
    split
    · rename_i h2
      rw [if_neg (fun e => hs (by rw [← data_inj e]; exact List.getElem_mem _))]
      exact v.yes j h2
    · rename_i h2
      simp at h
      have : j - L.length = 0 := by omega
      simp only [this, List.getElem_cons_zero, if_true]
      congr 1
      omega
  · simp at ht
    rw [if_neg (fun e => ht.2 (data_inj e))]
    exact v.no t ht.1

theorem Idx.isSome {L : List ByteArray} {f : List UInt8 → Option Nat} (v : Idx L f) (s : ByteArray) : (s ∈ L ∧ ∃ j, ∃ h : j < L.length, L[j] = s ∧ f s.data.toList = some j) ∨ (s ∉ L ∧ f s.data.toList = none) := by
  by_cases h : s ∈ L
  · obtain ⟨j, hj, e⟩ := List.getElem_of_mem h
    exact Or.inl ⟨h, j, hj, e, by rw [← e]; exact v.yes j hj⟩
  · exact Or.inr ⟨h, v.no s h⟩

end Go.Proofs.Ybulkbqzo
