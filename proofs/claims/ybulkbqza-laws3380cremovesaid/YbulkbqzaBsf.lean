/-
  Seat b3380a. slices.BinarySearchFunc over ids.
-/
import Derived.Test.YbulkbqzaSum
import Derived.Deep.RegionWith
namespace Go.Proofs.Ybulkbqza
open Go.RowKit
set_option linter.unusedVariables false
set_option maxRecDepth 100000
set_option linter.unusedSimpArgs false

/-- How many of xs lie below v. -/
def lo (xs : List Nat) (v : Nat) : Nat := xs.countP (fun x => decide (x < v))

theorem lo_eq {xs : List Nat} {v i : Nat} (hi : i ≤ xs.length) (h1 : ∀ j x, j < i → xs[j]? = some x → x < v) (h2 : ∀ j x, i ≤ j → xs[j]? = some x → v ≤ x) : lo xs v = i := by
  unfold lo
  rw [← List.take_append_drop i xs, List.countP_append]
  have e1 : (xs.take i).countP (fun x => decide (x < v)) = (xs.take i).length := by
    rw [List.countP_eq_length]
    intro x hx
    obtain ⟨j, hj⟩ := List.mem_iff_getElem?.1 hx
    rw [List.getElem?_take] at hj
    split at hj
    · simpa using h1 j x (by assumption) hj
    · cases hj
  have e2 : (xs.drop i).countP (fun x => decide (x < v)) = 0 := by
    rw [List.countP_eq_zero]
    intro x hx
    obtain ⟨j, hj⟩ := List.mem_iff_getElem?.1 hx
    rw [List.getElem?_drop] at hj
    simpa using h2 _ x (by omega) hj
  rw [e1, e2, List.length_take]
  omega

theorem sorted_le {xs : List Nat} (hs : xs.Pairwise (· < ·)) {i j x y : Nat} (hij : i ≤ j) (hi : xs[i]? = some x) (hj : xs[j]? = some y) : x ≤ y := by
  rcases Nat.lt_or_ge i j with h | h
  · obtain ⟨h1, rfl⟩ := List.getElem?_eq_some_iff.1 hi
    obtain ⟨h2, rfl⟩ := List.getElem?_eq_some_iff.1 hj
    exact Nat.le_of_lt (List.pairwise_iff_getElem.1 hs i j h1 h2 h)
  · obtain rfl : i = j := by omega
    rw [hi] at hj
    cases hj
    exact Nat.le_refl _

theorem cmpN_neg {u v : Nat} (h : u < v) : cmpN u v < 0 := by unfold cmpN; rw [if_pos h]; decide
theorem cmpN_nonneg {u v : Nat} (h : ¬ u < v) : ¬ cmpN u v < 0 := by unfold cmpN; rw [if_neg h]; split <;> decide
theorem cmpN_zero {u v : Nat} : cmpN u v = 0 ↔ u = v := by
  unfold cmpN
  split
  · simp; omega
  · split
    · simp; omega
    · simp; omega

theorem bsf_calls (a : Option Addr) (xs : List Nat) (cap v : Nat) (w : World) (h : SlIds w a xs) (hx : ∀ x ∈ xs, x < 4294967296) (hv : v < 4294967296) (hlen : xs.length < 1000000) (hs : xs.Pairwise (· < ·)) :
    Calls Yba.prog 11 #[.slice a xs.length cap, .agg (idc v).toArray, .func (.func 12) #[] #[]] w fun e w' => e = .returned (.tuple #[.int .i64 (lo xs v), .bool (decide (v ∈ xs))]) ∧ Below w.heap.size w w' := by
  go_enter Yba.func11, Yba.ntmps11
  go_wp2_with fail
  have BV : Blk (w.alloc (.cells (idc v).toArray 30)) w.heap.size (idc v) 30 := Blk.new w _ 30
  have hb : Below w.heap.size w (w.alloc (.cells (idc v).toArray 30)) := (Below.refl _ w).alloc (Nat.le_refl _) _
  generalize w.alloc (.cells (idc v).toArray 30) = W at *
  go_loopg [9, 10] xs.length (fun k s9 s10 wr => ∃ i j : Nat, s9 = .int .i64 i ∧ s10 = .int .i64 j ∧ i ≤ j ∧ j ≤ xs.length ∧ j - i ≤ k ∧ Blk wr w.heap.size (idc v) 30 ∧ Below w.heap.size w wr ∧
      Hid (∀ k x, k < i → xs[k]? = some x → x < v) ∧ Hid (∀ k x, j ≤ k → xs[k]? = some x → v ≤ x))
  case atStart => exact ⟨0, xs.length, rfl, rfl, by omega, by omega, by omega, BV, hb, fun _ _ h => by omega, fun k x h1 h2 => by rw [List.getElem?_eq_none h1] at h2; cases h2⟩
  case round =>
    clear BV hb
    obtain ⟨i, j, rfl, rfl, hij, hj, hk, BV, hb, H1, H2⟩ := hrel
    by_cases hlt : i < j
    · have hlt' : (i : Int) < j := by omega
      go_wp2_with fail
      rw [show ((i : Int) + (j : Int)) / 2 = (((i + j) / 2 : Nat) : Int) by omega]
      obtain ⟨m, hm1, hm2, hm3⟩ : ∃ m, m = (i + j) / 2 ∧ i ≤ m ∧ m < j := ⟨_, rfl, by omega, by omega⟩
      rw [← hm1]
      clear hm1
      obtain ⟨b, off, rfl, hbs, hI⟩ : ∃ b off, a = some ⟨b, off, none⟩ ∧ b < w.heap.size ∧ Ids w b off xs := by
        rcases h with rfl | h
        · simp at hj; omega
        · exact h
      obtain ⟨x, hxi⟩ : ∃ x, xs[m]? = some x := ⟨_, List.getElem?_eq_getElem (by omega)⟩
      have hxl := hx x (List.mem_of_getElem? hxi)
      have RX := (hI.below hbs hb) m x hxi
      have RV := BV.id
      have hmx : (m : Int) < xs.length := by omega
      have hsz := hb.size
      have hC : ∀ w1, Below wr.heap.size wr w1 → Calls Yba.prog 12 #[.agg (idc x).toArray, .agg (idc v).toArray] w1 fun e w' => e = .returned (.int .i64 (cmpN x v)) ∧ Below wr.heap.size wr w' ∧ w'.rangeAt b (off + m * 20) (idc x) ∧ w'.rangeAt w.heap.size 0 (idc v) := fun w1 h1 =>
        (cmp_calls x v hxl hv w1).mono fun e w' ⟨he, hw⟩ => by
          have hb2 := h1.trans (hw.mono h1.size)
          exact ⟨he, hb2, rangeAt_of_block RX (hb2.block _ (by omega)), rangeAt_of_block RV (hb2.block _ BV.lt)⟩
      refine wp_region_held_drew (S := fun w' => Below wr.heap.size wr w' ∧ w'.rangeAt b (off + m * 20) (idc x) ∧ w'.rangeAt w.heap.size 0 (idc v)) (by kernel_rfl) (⟨(Below.refl _ wr).drew, by simpa using RX, by simpa using RV⟩) (fun hHeld => ?_)
      simp only [List.size_toArray, List.length_cons, List.length_nil, Nat.reduceAdd, Array.replicate_succ, Array.replicate_zero, List.push_toArray, List.append_toArray, List.nil_append, List.cons_append]
      refine wpAnyH_take (i := 0) (v := ?_) rfl (by kernel_rfl) (by kernel_rfl) (by kernel_rfl) (fun _ _ _ h => h) (Or.inl ⟨by rfl, ?_⟩) (by assumption) ?_
      rotate_left 1
      · intro w hSw; (try dsimp only at hSw); go_simp <;> with_reducible rfl
      try simp only [Act.put, List.setIfInBounds_toArray, List.set_cons_zero, List.set_cons_succ, List.getElem_toArray, List.getElem_cons_succ, List.getElem_cons_zero]
      refine wpAnyH_take (i := 1) (v := ?_) rfl (by kernel_rfl) (by kernel_rfl) (by kernel_rfl) (fun _ _ _ h => h) (Or.inl ⟨by rfl, ?_⟩) (by assumption) ?_
      rotate_left 1
      · intro w hSw; (try dsimp only at hSw); go_simp <;> with_reducible rfl
      try simp only [Act.put, List.setIfInBounds_toArray, List.set_cons_zero, List.set_cons_succ, List.getElem_toArray, List.getElem_cons_succ, List.getElem_cons_zero]
      refine wpAnyH_take (i := 2) (v := ?_) rfl (by kernel_rfl) (by kernel_rfl) (by kernel_rfl) (fun _ _ _ h => h) (Or.inl ⟨by rfl, ?_⟩) (by assumption) ?_
      rotate_left 1
      · intro w hSw; (try dsimp only at hSw); go_simp <;> with_reducible rfl
      try simp only [Act.put, List.setIfInBounds_toArray, List.set_cons_zero, List.set_cons_succ, List.getElem_toArray, List.getElem_cons_succ, List.getElem_cons_zero]
      refine wpAnyH_take (i := 3) (v := ?_) rfl (by kernel_rfl) (by kernel_rfl) (by kernel_rfl) (fun _ _ _ h => h) (Or.inl ⟨by rfl, ?_⟩) (by assumption) ?_
      rotate_left 1
      · intro w hSw; (try dsimp only at hSw); go_simp <;> with_reducible rfl
      try simp only [Act.put, List.setIfInBounds_toArray, List.set_cons_zero, List.set_cons_succ, List.getElem_toArray, List.getElem_cons_succ, List.getElem_cons_zero]
      refine wpAnyH_take (i := 4) rfl (by kernel_rfl) (by kernel_rfl) (by kernel_rfl) (fun _ _ _ h => h) (yieldsIf_load_mid (by rfl) _ _ rfl _ _ rfl (idc x) _ (fun w hSw => hSw.2.1) Yba.underlying30 rfl (by rw [idc_length]; exact info30)) (by assumption) ?_
      try simp only [Act.put, List.setIfInBounds_toArray, List.set_cons_zero, List.set_cons_succ, List.getElem_toArray, List.getElem_cons_succ, List.getElem_cons_zero]
      refine wpAnyH_take (i := 5) rfl (by kernel_rfl) (by kernel_rfl) (by kernel_rfl) (fun _ _ _ h => h) (yieldsIf_load_mid (by rfl) _ _ rfl _ _ rfl (idc v) _ (fun w hSw => hSw.2.2) Yba.underlying30 rfl (by rw [idc_length]; exact info30)) (by assumption) ?_
      try simp only [Act.put, List.setIfInBounds_toArray, List.set_cons_zero, List.set_cons_succ, List.getElem_toArray, List.getElem_cons_succ, List.getElem_cons_zero]
      refine wpAnyH_ready (rs := [6]) (by kernel_rfl) (by simp) ?_
      refine AllReadyH.cons rfl (fun K hK => ?_) AllReadyH.nil
      go_simp
      refine (hC _ hHeld.1).mono ?_
      rintro e w' ⟨rfl, hw'⟩
      dsimp only
      refine hK.out _ _ (hw') (fun hHeld => ?_)
      clear hK K
      try simp only [Act.put, List.setIfInBounds_toArray, List.set_cons_zero, List.set_cons_succ, List.getElem_toArray, List.getElem_cons_succ, List.getElem_cons_zero]
      refine wpAnyH_take (i := 7) (v := ?_) rfl (by kernel_rfl) (by kernel_rfl) (by kernel_rfl) (fun _ _ _ h => h) (Or.inl ⟨by rfl, ?_⟩) (by assumption) ?_
      rotate_left 1
      · intro w hSw; (try dsimp only at hSw); go_simp <;> with_reducible rfl
      try simp only [Act.put, List.setIfInBounds_toArray, List.set_cons_zero, List.set_cons_succ, List.getElem_toArray, List.getElem_cons_succ, List.getElem_cons_zero]
      refine wpAnyH_done (by kernel_rfl) ?_ _
      have BV' : Blk w' w.heap.size (idc v) 30 := BV.below hw'.1
      have hb' : Below w.heap.size w w' := hb.trans (hw'.1.mono hsz)
      clear hC hHeld RX RV
      by_cases hc : x < v
      · have hc' := cmpN_neg hc
        go_wp2_with fail
        go_roundg (j - (m + 1))
        case measure => omega
        case rel =>
          exact ⟨m + 1, j, by simp, rfl, by omega, hj, by omega, BV', hb', fun k y hk hy => Nat.lt_of_le_of_lt (sorted_le hs (by omega) hy hxi) hc, H2⟩
      · have hc' := cmpN_nonneg hc
        go_wp2_with fail
        go_roundg (m - i)
        case measure => omega
        case rel =>
          exact ⟨i, m, rfl, rfl, by omega, by omega, by omega, BV', hb', H1, fun k y hk hy => Nat.le_trans (by omega) (sorted_le hs hk hxi hy)⟩
    · have hlt' : ¬ (i : Int) < j := by omega
      obtain rfl : i = j := by omega
      go_wp2_with fail
      have e1 : Hid (lo xs v = i) := lo_eq hj H1.out H2.out
      by_cases hin : i < xs.length
      · have hin' : (i : Int) < xs.length := by omega
        obtain ⟨b, off, rfl, hbs, hI⟩ : ∃ b off, a = some ⟨b, off, none⟩ ∧ b < w.heap.size ∧ Ids w b off xs := by
          rcases h with rfl | h
          · simp at hin
          · exact h
        obtain ⟨x, hxi⟩ : ∃ x, xs[i]? = some x := ⟨_, List.getElem?_eq_getElem hin⟩
        have hxl := hx x (List.mem_of_getElem? hxi)
        have RX := (hI.below hbs hb) i x hxi
        have RV := BV.id
        have hsz := hb.size
        have hC : ∀ w1, Below wr.heap.size wr w1 → Calls Yba.prog 12 #[.agg (idc x).toArray, .agg (idc v).toArray] w1 fun e w' => e = .returned (.int .i64 (cmpN x v)) ∧ Below wr.heap.size wr w' ∧ w'.rangeAt b (off + i * 20) (idc x) ∧ w'.rangeAt w.heap.size 0 (idc v) := fun w1 h1 =>
          (cmp_calls x v hxl hv w1).mono fun e w' ⟨he, hw⟩ => by
            have hb2 := h1.trans (hw.mono h1.size)
            exact ⟨he, hb2, rangeAt_of_block RX (hb2.block _ (by omega)), rangeAt_of_block RV (hb2.block _ BV.lt)⟩
        have hfound : Hid (decide (v ∈ xs) = decide (cmpN x v = 0)) := by
          have hle : v ≤ x := H2.out i x (Nat.le_refl _) hxi
          apply decide_eq_decide.2
          rw [cmpN_zero]
          constructor
          · intro hm
            obtain ⟨k, hk⟩ := List.mem_iff_getElem?.1 hm
            have hki : i ≤ k := by
              rcases Nat.lt_or_ge k i with h1 | h1
              · exact absurd (H1.out k v h1 hk) (Nat.lt_irrefl _)
              · exact h1
            exact Nat.le_antisymm (sorted_le hs hki hxi hk) hle
          · intro e
            rw [← e]
            exact List.mem_of_getElem? hxi
        clear H1 H2 hs hx
        refine wp_region_held_drew (S := fun w' => Below wr.heap.size wr w' ∧ w'.rangeAt b (off + i * 20) (idc x) ∧ w'.rangeAt w.heap.size 0 (idc v)) (by kernel_rfl) (⟨(Below.refl _ wr).drew, by simpa using RX, by simpa using RV⟩) (fun hHeld => ?_)
        simp only [List.size_toArray, List.length_cons, List.length_nil, Nat.reduceAdd, Array.replicate_succ, Array.replicate_zero, List.push_toArray, List.append_toArray, List.nil_append, List.cons_append]
        refine wpAnyH_take (i := 0) (v := ?_) rfl (by kernel_rfl) (by kernel_rfl) (by kernel_rfl) (fun _ _ _ h => h) (Or.inl ⟨by rfl, ?_⟩) (by assumption) ?_
        rotate_left 1
        · intro w hSw; (try dsimp only at hSw); go_simp <;> with_reducible rfl
        try simp only [Act.put, List.setIfInBounds_toArray, List.set_cons_zero, List.set_cons_succ, List.getElem_toArray, List.getElem_cons_succ, List.getElem_cons_zero]
        refine wpAnyH_take (i := 1) (v := ?_) rfl (by kernel_rfl) (by kernel_rfl) (by kernel_rfl) (fun _ _ _ h => h) (Or.inl ⟨by rfl, ?_⟩) (by assumption) ?_
        rotate_left 1
        · intro w hSw; (try dsimp only at hSw); go_simp <;> with_reducible rfl
        try simp only [Act.put, List.setIfInBounds_toArray, List.set_cons_zero, List.set_cons_succ, List.getElem_toArray, List.getElem_cons_succ, List.getElem_cons_zero]
        refine wpAnyH_take (i := 2) (v := ?_) rfl (by kernel_rfl) (by kernel_rfl) (by kernel_rfl) (fun _ _ _ h => h) (Or.inl ⟨by rfl, ?_⟩) (by assumption) ?_
        rotate_left 1
        · intro w hSw; (try dsimp only at hSw); go_simp <;> with_reducible rfl
        try simp only [Act.put, List.setIfInBounds_toArray, List.set_cons_zero, List.set_cons_succ, List.getElem_toArray, List.getElem_cons_succ, List.getElem_cons_zero]
        refine wpAnyH_take (i := 3) (v := ?_) rfl (by kernel_rfl) (by kernel_rfl) (by kernel_rfl) (fun _ _ _ h => h) (Or.inl ⟨by rfl, ?_⟩) (by assumption) ?_
        rotate_left 1
        · intro w hSw; (try dsimp only at hSw); go_simp <;> with_reducible rfl
        try simp only [Act.put, List.setIfInBounds_toArray, List.set_cons_zero, List.set_cons_succ, List.getElem_toArray, List.getElem_cons_succ, List.getElem_cons_zero]
        refine wpAnyH_take (i := 4) (v := ?_) rfl (by kernel_rfl) (by kernel_rfl) (by kernel_rfl) (fun _ _ _ h => h) (Or.inl ⟨by rfl, ?_⟩) (by assumption) ?_
        rotate_left 1
        · intro w hSw; (try dsimp only at hSw); go_simp <;> with_reducible rfl
        try simp only [Act.put, List.setIfInBounds_toArray, List.set_cons_zero, List.set_cons_succ, List.getElem_toArray, List.getElem_cons_succ, List.getElem_cons_zero]
        refine wpAnyH_take (i := 5) (v := ?_) rfl (by kernel_rfl) (by kernel_rfl) (by kernel_rfl) (fun _ _ _ h => h) (Or.inl ⟨by rfl, ?_⟩) (by assumption) ?_
        rotate_left 1
        · intro w hSw; (try dsimp only at hSw); go_simp <;> with_reducible rfl
        try simp only [Act.put, List.setIfInBounds_toArray, List.set_cons_zero, List.set_cons_succ, List.getElem_toArray, List.getElem_cons_succ, List.getElem_cons_zero]
        refine wpAnyH_take (i := 6) (v := ?_) rfl (by kernel_rfl) (by kernel_rfl) (by kernel_rfl) (fun _ _ _ h => h) (Or.inl ⟨by rfl, ?_⟩) (by assumption) ?_
        rotate_left 1
        · intro w hSw; (try dsimp only at hSw); go_simp <;> with_reducible rfl
        try simp only [Act.put, List.setIfInBounds_toArray, List.set_cons_zero, List.set_cons_succ, List.getElem_toArray, List.getElem_cons_succ, List.getElem_cons_zero]
        refine wpAnyH_take (i := 7) (v := ?_) rfl (by kernel_rfl) (by kernel_rfl) (by kernel_rfl) (fun _ _ _ h => h) (Or.inl ⟨by rfl, ?_⟩) (by assumption) ?_
        rotate_left 1
        · intro w hSw; (try dsimp only at hSw); go_simp <;> with_reducible rfl
        try simp only [Act.put, List.setIfInBounds_toArray, List.set_cons_zero, List.set_cons_succ, List.getElem_toArray, List.getElem_cons_succ, List.getElem_cons_zero]
        refine wpAnyH_take (i := 8) (v := ?_) rfl (by kernel_rfl) (by kernel_rfl) (by kernel_rfl) (fun _ _ _ h => h) (Or.inl ⟨by rfl, ?_⟩) (by assumption) ?_
        rotate_left 1
        · intro w hSw; (try dsimp only at hSw); go_simp <;> with_reducible rfl
        try simp only [Act.put, List.setIfInBounds_toArray, List.set_cons_zero, List.set_cons_succ, List.getElem_toArray, List.getElem_cons_succ, List.getElem_cons_zero]
        refine wpAnyH_take (i := 9) rfl (by kernel_rfl) (by kernel_rfl) (by kernel_rfl) (fun _ _ _ h => h) (yieldsIf_load_mid (by rfl) _ _ rfl _ _ rfl (idc x) _ (fun w hSw => hSw.2.1) Yba.underlying30 rfl (by rw [idc_length]; exact info30)) (by assumption) ?_
        try simp only [Act.put, List.setIfInBounds_toArray, List.set_cons_zero, List.set_cons_succ, List.getElem_toArray, List.getElem_cons_succ, List.getElem_cons_zero]
        refine wpAnyH_take (i := 10) rfl (by kernel_rfl) (by kernel_rfl) (by kernel_rfl) (fun _ _ _ h => h) (yieldsIf_load_mid (by rfl) _ _ rfl _ _ rfl (idc v) _ (fun w hSw => hSw.2.2) Yba.underlying30 rfl (by rw [idc_length]; exact info30)) (by assumption) ?_
        try simp only [Act.put, List.setIfInBounds_toArray, List.set_cons_zero, List.set_cons_succ, List.getElem_toArray, List.getElem_cons_succ, List.getElem_cons_zero]
        refine wpAnyH_ready (rs := [11]) (by kernel_rfl) (by simp) ?_
        refine AllReadyH.cons rfl (fun K hK => ?_) AllReadyH.nil
        go_simp
        refine (hC _ hHeld.1).mono ?_
        rintro e w' ⟨rfl, hw'⟩
        dsimp only
        refine hK.out _ _ (hw') (fun hHeld => ?_)
        clear hK K
        try simp only [Act.put, List.setIfInBounds_toArray, List.set_cons_zero, List.set_cons_succ, List.getElem_toArray, List.getElem_cons_succ, List.getElem_cons_zero]
        refine wpAnyH_take (i := 12) (v := ?_) rfl (by kernel_rfl) (by kernel_rfl) (by kernel_rfl) (fun _ _ _ h => h) (Or.inl ⟨by rfl, ?_⟩) (by assumption) ?_
        rotate_left 1
        · intro w hSw; (try dsimp only at hSw); go_simp <;> with_reducible rfl
        try simp only [Act.put, List.setIfInBounds_toArray, List.set_cons_zero, List.set_cons_succ, List.getElem_toArray, List.getElem_cons_succ, List.getElem_cons_zero]
        refine wpAnyH_take (i := 13) (v := ?_) rfl (by kernel_rfl) (by kernel_rfl) (by kernel_rfl) (fun _ _ _ h => h) (Or.inl ⟨by rfl, ?_⟩) (by assumption) ?_
        rotate_left 1
        · intro w hSw; (try dsimp only at hSw); go_simp <;> with_reducible rfl
        try simp only [Act.put, List.setIfInBounds_toArray, List.set_cons_zero, List.set_cons_succ, List.getElem_toArray, List.getElem_cons_succ, List.getElem_cons_zero]
        refine wpAnyH_take (i := 14) (v := ?_) rfl (by kernel_rfl) (by kernel_rfl) (by kernel_rfl) (fun _ _ _ h => h) (Or.inl ⟨by rfl, ?_⟩) (by assumption) ?_
        rotate_left 1
        · intro w hSw; (try dsimp only at hSw); go_simp <;> with_reducible rfl
        try simp only [Act.put, List.setIfInBounds_toArray, List.set_cons_zero, List.set_cons_succ, List.getElem_toArray, List.getElem_cons_succ, List.getElem_cons_zero]
        refine wpAnyH_take (i := 15) (v := ?_) rfl (by kernel_rfl) (by kernel_rfl) (by kernel_rfl) (fun _ _ _ h => h) (Or.inl ⟨by rfl, ?_⟩) (by assumption) ?_
        rotate_left 1
        · intro w hSw; (try dsimp only at hSw); go_simp <;> with_reducible rfl
        try simp only [Act.put, List.setIfInBounds_toArray, List.set_cons_zero, List.set_cons_succ, List.getElem_toArray, List.getElem_cons_succ, List.getElem_cons_zero]
        refine wpAnyH_done (by kernel_rfl) ?_ _
        go_wp2_with fail
        go_ret2
        exact ⟨by rw [e1.out, hfound.out]; rfl, hb.trans (hw'.1.mono hsz)⟩
      · have hin' : ¬ (i : Int) < xs.length := by omega
        have hfound : Hid (decide (v ∈ xs) = false) := decide_eq_false fun hm => by
          obtain ⟨k, hk⟩ := List.mem_iff_getElem?.1 hm
          exact absurd (H1.out k v (by have := (List.getElem?_eq_some_iff.1 hk).1; omega) hk) (Nat.lt_irrefl _)
        clear H1 H2 hs hx
        refine wp_region_held_drew (S := fun w' => Below wr.heap.size wr w') (by kernel_rfl) ((Below.refl _ wr).drew) (fun hHeld => ?_)
        simp only [List.size_toArray, List.length_cons, List.length_nil, Nat.reduceAdd, Array.replicate_succ, Array.replicate_zero, List.push_toArray, List.append_toArray, List.nil_append, List.cons_append]
        refine wpAnyH_take (i := 0) (v := ?_) rfl (by kernel_rfl) (by kernel_rfl) (by kernel_rfl) (fun _ _ _ h => h) (Or.inl ⟨by rfl, ?_⟩) (by assumption) ?_
        rotate_left 1
        · intro w hSw; (try dsimp only at hSw); go_simp <;> with_reducible rfl
        try simp only [Act.put, List.setIfInBounds_toArray, List.set_cons_zero, List.set_cons_succ, List.getElem_toArray, List.getElem_cons_succ, List.getElem_cons_zero]
        refine wpAnyH_take (i := 1) (v := ?_) rfl (by kernel_rfl) (by kernel_rfl) (by kernel_rfl) (fun _ _ _ h => h) (Or.inl ⟨by rfl, ?_⟩) (by assumption) ?_
        rotate_left 1
        · intro w hSw; (try dsimp only at hSw); go_simp <;> with_reducible rfl
        try simp only [Act.put, List.setIfInBounds_toArray, List.set_cons_zero, List.set_cons_succ, List.getElem_toArray, List.getElem_cons_succ, List.getElem_cons_zero]
        refine wpAnyH_take (i := 2) (v := ?_) rfl (by kernel_rfl) (by kernel_rfl) (by kernel_rfl) (fun _ _ _ h => h) (Or.inl ⟨by rfl, ?_⟩) (by assumption) ?_
        rotate_left 1
        · intro w hSw; (try dsimp only at hSw); go_simp <;> with_reducible rfl
        try simp only [Act.put, List.setIfInBounds_toArray, List.set_cons_zero, List.set_cons_succ, List.getElem_toArray, List.getElem_cons_succ, List.getElem_cons_zero]
        refine wpAnyH_take (i := 3) (v := ?_) rfl (by kernel_rfl) (by kernel_rfl) (by kernel_rfl) (fun _ _ _ h => h) (Or.inl ⟨by rfl, ?_⟩) (by assumption) ?_
        rotate_left 1
        · intro w hSw; (try dsimp only at hSw); go_simp <;> with_reducible rfl
        try simp only [Act.put, List.setIfInBounds_toArray, List.set_cons_zero, List.set_cons_succ, List.getElem_toArray, List.getElem_cons_succ, List.getElem_cons_zero]
        refine wpAnyH_take (i := 4) (v := ?_) rfl (by kernel_rfl) (by kernel_rfl) (by kernel_rfl) (fun _ _ _ h => h) (Or.inl ⟨by rfl, ?_⟩) (by assumption) ?_
        rotate_left 1
        · intro w hSw; (try dsimp only at hSw); go_simp <;> with_reducible rfl
        try simp only [Act.put, List.setIfInBounds_toArray, List.set_cons_zero, List.set_cons_succ, List.getElem_toArray, List.getElem_cons_succ, List.getElem_cons_zero]
        refine wpAnyH_take (i := 5) rfl (by kernel_rfl) (by kernel_rfl) (by kernel_rfl) (fun _ _ _ h => h) (Or.inr ⟨by rfl, rfl⟩) (by assumption) ?_
        try simp only [Act.put, List.setIfInBounds_toArray, List.set_cons_zero, List.set_cons_succ, List.getElem_toArray, List.getElem_cons_succ, List.getElem_cons_zero]
        refine wpAnyH_take (i := 6) rfl (by kernel_rfl) (by kernel_rfl) (by kernel_rfl) (fun _ _ _ h => h) (Or.inr ⟨by rfl, rfl⟩) (by assumption) ?_
        try simp only [Act.put, List.setIfInBounds_toArray, List.set_cons_zero, List.set_cons_succ, List.getElem_toArray, List.getElem_cons_succ, List.getElem_cons_zero]
        refine wpAnyH_take (i := 7) rfl (by kernel_rfl) (by kernel_rfl) (by kernel_rfl) (fun _ _ _ h => h) (Or.inr ⟨by rfl, rfl⟩) (by assumption) ?_
        try simp only [Act.put, List.setIfInBounds_toArray, List.set_cons_zero, List.set_cons_succ, List.getElem_toArray, List.getElem_cons_succ, List.getElem_cons_zero]
        refine wpAnyH_take (i := 8) rfl (by kernel_rfl) (by kernel_rfl) (by kernel_rfl) (fun _ _ _ h => h) (Or.inr ⟨by rfl, rfl⟩) (by assumption) ?_
        try simp only [Act.put, List.setIfInBounds_toArray, List.set_cons_zero, List.set_cons_succ, List.getElem_toArray, List.getElem_cons_succ, List.getElem_cons_zero]
        refine wpAnyH_take (i := 9) rfl (by kernel_rfl) (by kernel_rfl) (by kernel_rfl) (fun _ _ _ h => h) (Or.inr ⟨by rfl, rfl⟩) (by assumption) ?_
        try simp only [Act.put, List.setIfInBounds_toArray, List.set_cons_zero, List.set_cons_succ, List.getElem_toArray, List.getElem_cons_succ, List.getElem_cons_zero]
        refine wpAnyH_take (i := 10) rfl (by kernel_rfl) (by kernel_rfl) (by kernel_rfl) (fun _ _ _ h => h) (Or.inr ⟨by rfl, rfl⟩) (by assumption) ?_
        try simp only [Act.put, List.setIfInBounds_toArray, List.set_cons_zero, List.set_cons_succ, List.getElem_toArray, List.getElem_cons_succ, List.getElem_cons_zero]
        refine wpAnyH_take (i := 11) rfl (by kernel_rfl) (by kernel_rfl) (by kernel_rfl) (fun _ _ _ h => h) (Or.inr ⟨by rfl, rfl⟩) (by assumption) ?_
        try simp only [Act.put, List.setIfInBounds_toArray, List.set_cons_zero, List.set_cons_succ, List.getElem_toArray, List.getElem_cons_succ, List.getElem_cons_zero]
        refine wpAnyH_take (i := 12) rfl (by kernel_rfl) (by kernel_rfl) (by kernel_rfl) (fun _ _ _ h => h) (Or.inr ⟨by rfl, rfl⟩) (by assumption) ?_
        try simp only [Act.put, List.setIfInBounds_toArray, List.set_cons_zero, List.set_cons_succ, List.getElem_toArray, List.getElem_cons_succ, List.getElem_cons_zero]
        refine wpAnyH_take (i := 13) (v := ?_) rfl (by kernel_rfl) (by kernel_rfl) (by kernel_rfl) (fun _ _ _ h => h) (Or.inl ⟨by rfl, ?_⟩) (by assumption) ?_
        rotate_left 1
        · intro w hSw; (try dsimp only at hSw); go_simp <;> with_reducible rfl
        try simp only [Act.put, List.setIfInBounds_toArray, List.set_cons_zero, List.set_cons_succ, List.getElem_toArray, List.getElem_cons_succ, List.getElem_cons_zero]
        refine wpAnyH_take (i := 14) (v := ?_) rfl (by kernel_rfl) (by kernel_rfl) (by kernel_rfl) (fun _ _ _ h => h) (Or.inl ⟨by rfl, ?_⟩) (by assumption) ?_
        rotate_left 1
        · intro w hSw; (try dsimp only at hSw); go_simp <;> with_reducible rfl
        try simp only [Act.put, List.setIfInBounds_toArray, List.set_cons_zero, List.set_cons_succ, List.getElem_toArray, List.getElem_cons_succ, List.getElem_cons_zero]
        refine wpAnyH_take (i := 15) (v := ?_) rfl (by kernel_rfl) (by kernel_rfl) (by kernel_rfl) (fun _ _ _ h => h) (Or.inl ⟨by rfl, ?_⟩) (by assumption) ?_
        rotate_left 1
        · intro w hSw; (try dsimp only at hSw); go_simp <;> with_reducible rfl
        try simp only [Act.put, List.setIfInBounds_toArray, List.set_cons_zero, List.set_cons_succ, List.getElem_toArray, List.getElem_cons_succ, List.getElem_cons_zero]
        refine wpAnyH_done (by kernel_rfl) ?_ _
        go_wp2_with fail
        go_ret2
        exact ⟨by rw [e1.out, hfound.out]; rfl, hb.drew⟩
end Go.Proofs.Ybulkbqza
