/-
  Seat b3380a. slices.Compact over a sorted row of uint32.
-/
import Derived.Test.YbulkbqzaCps
import Derived.Test.YbulkbqzaSort
namespace Go.Proofs.Ybulkbqza
open Go.RowKit
open Go.Lib Go.Sort
set_option linter.unusedVariables false

theorem mem_compactUpTo {d : Array Int} {m : Nat} {x : Int} (h : x ∈ compactUpTo d m) : ∃ j, j < m ∧ x = d[j]! := by
  unfold compactUpTo at h
  obtain ⟨j, hj, rfl⟩ := List.mem_map.1 h
  exact ⟨j, List.mem_range.1 (List.mem_filter.1 hj).1, rfl⟩

theorem compact_sorted {d : Array Int} (hs : ∀ i j, i < j → j < d.size → d[i]! ≤ d[j]!) : ∀ m, m ≤ d.size → (compactUpTo d m).Pairwise (· < ·)
  | 0, _ => by simp [compactUpTo]
  | m + 1, hm => by
    rw [compactUpTo_succ, List.pairwise_append]
    refine ⟨compact_sorted hs m (by omega), by split <;> simp, ?_⟩
    intro x hx y hy
    by_cases hk : keeps d m = true
    · rw [if_pos hk] at hy
      simp at hy
      subst hy
      obtain ⟨j, hj, rfl⟩ := mem_compactUpTo hx
      have hne : d[m]! ≠ d[m - 1]! := by
        unfold keeps at hk
        simp at hk
        rcases hk with h | h
        · omega
        · exact h
      have h1 : d[m - 1]! ≤ d[m]! := hs (m - 1) m (by omega) (by omega)
      rcases Nat.lt_or_ge j (m - 1) with h | h
      · have := hs j (m - 1) h (by omega)
        omega
      · have : j = m - 1 := by omega
        subst this
        omega
    · rw [if_neg hk] at hy
      simp at hy

theorem kept_putRow (enc : Int → Value) (w : World) (q blk off : Nat) (d : Array Int) : Kept (· = blk) w (putRow enc (Sort.ahead w q) blk off d) := by
  refine ⟨rfl, rfl, rfl, by simp [putRow, mapBlock, Sort.ahead], fun k hk hn => ?_⟩
  simp [putRow, mapBlock, Sort.ahead, Array.getElem?_modify]
  intro h
  exact absurd h.symm hn

theorem compact_calls (rb cap : Nat) (d : Array Int) (w : World) (t : Row32 rb 0 d w) (hs : ∀ i j, i < j → j < d.size → d[i]! ≤ d[j]!) (hcap : d.size ≤ cap) (hsm : d.size < 1000000) :
    Calls Yba.prog 6 #[.slice (some ⟨rb, 0, none⟩) d.size cap] w fun e w' => ∃ ys : List Int, e = .returned (.slice (some ⟨rb, 0, none⟩) ys.length cap) ∧ ys.Pairwise (· < ·) ∧ (∀ y ∈ ys, ∃ j, j < d.size ∧ y = d[j]!) ∧ ys.length ≤ d.size ∧
      (∀ j y, ys[j]? = some y → w'.cell? ⟨rb, j, none⟩ = some (.int .u32 y)) ∧ Kept (· = rb) w w' := by
  have hH : Holds (Value.int .u32) w rb 0 d := fun j hj => ⟨t.c j hj, t.f j hj⟩
  have h := AnyE.slices_Compact Yba.laysE43 (Value.int .u32) (fun _ => rfl) (EqlAt.intD _ _ .u32) (NeqAt.intD _ _ .u32) 0 (fun w => Yba.zeroValue25 w) rb 0 cap d w hH (by omega) hcap
  refine Calls.mono h ?_
  rintro e w' ⟨rfl, q, rfl⟩
  have hle : (compactUpTo d d.size).length ≤ d.size := by
    unfold compactUpTo
    rw [List.length_map]
    exact Nat.le_trans (List.length_filter_le _ _) (by simp)
  refine ⟨compactUpTo d d.size, rfl, compact_sorted hs _ (Nat.le_refl _), fun y hy => mem_compactUpTo hy, hle, ?_, kept_putRow _ w q rb 0 _⟩
  intro j y hy
  have hH2 : Holds (Value.int .u32) (Sort.ahead w q) rb 0 d := hH
  have hp := holds_putRow (Value.int .u32) (Sort.ahead w q) rb 0 d (compactUpTo d d.size ++ List.replicate (d.size - (compactUpTo d d.size).length) 0).toArray hH2 (by simp; omega)
  have hj := (List.getElem?_eq_some_iff.1 hy).1
  have := (hp j (by simp; omega)).1
  rw [Nat.zero_add] at this
  rw [this]
  congr 2
  simp
  rw [List.getElem?_append_left hj, hy]
  rfl
end Go.Proofs.Ybulkbqza
