/-
  Seat b3380a. evenly and its iterator.
-/
import Derived.Test.YbulkbqzaRnd
namespace Go.Proofs.Ybulkbqza
open Go.RowKit Go.Shelf
attribute [local go_sem] Oper.semAt_some
set_option linter.unusedVariables false
set_option maxRecDepth 100000
set_option linter.unusedSimpArgs false

theorem evenly_calls (m : Nat) (w : World) : Calls Yba.prog 21 #[.int .i64 (m : Nat)] w fun e w' => e = .returned (.func (.func 37) #[] #[.pointer (some ⟨w.heap.size, 0, none⟩)]) ∧ Blk w' w.heap.size [.int .i64 (m : Nat)] 3 ∧ Below w.heap.size w w' ∧ w'.heap.size = w.heap.size + 1 := by
  go_enter Yba.func21, Yba.ntmps21
  go_wp2_with fail
  go_ret
  exact ⟨rfl, Blk.new w [.int .i64 (m : Nat)] 3, (Below.refl _ w).alloc (Nat.le_refl _) _, by simp⟩

/-- How many runs. -/
def Runs (m r : Nat) : Prop := (m ≤ 32 ∧ r = 1) ∨ (32 < m ∧ r = (m + 23) / 24)

set_option maxHeartbeats 1000000 in
theorem evenly1 (n l nb m r : Nat) (hr : Runs m r) (hm : m < 100000) (J Jx : List (Fin r) → World → Prop)
    (hY : ∀ pre x W, J pre W → pre.length < r → YieldAt Fence.wide (n - 1) Yba.prog l #[.int .i64 ((m * x.1 / r : Nat) : Int), .int .i64 ((m * (x.1 + 1) / r : Nat) : Int)] W fun e W' =>
      (e = .returned (.bool true) ∧ J (pre ++ [x]) W' ∧ W'.heap[nb]? = W.heap[nb]?) ∨ (e = .returned (.bool false) ∧ Jx (pre ++ [x]) W'))
    (hJd : ∀ pre W, J pre W → J pre W.drew)
    (W : World) (hc : W.cell? ⟨nb, 0, none⟩ = some (.int .i64 (m : Nat))) (h0 : J [] W) :
    CallsIn Fence.wide n Yba.prog 37 #[.func (.yield l) #[] #[], .pointer (some ⟨nb, 0, none⟩)] W fun e W' => (∃ v, e = .returned v) ∧
      ((∃ ys : List (Fin r), ys.map (·.1) = List.range r ∧ J ys W') ∨ (∃ pre, True ∧ Jx pre W')) := by
  have hr1 : 0 < r ∧ r ≤ m + 1 ∧ r < 100000 := by rcases hr with ⟨h1, h2⟩ | ⟨h1, h2⟩ <;> omega
  have key : ∀ (a : Act), True := fun _ => trivial
  refine callsIn_of_wp Yba.func37 rfl trivial ?_ rfl
  simp only [Yba.ntmps37, List.size_toArray, List.length_cons, List.length_nil, Nat.reduceAdd, Nat.reduceSub, Array.replicate_succ, Array.replicate_zero, List.push_toArray, List.append_toArray, List.nil_append, List.cons_append]
  have w1 : IntKind.i64.wrap ((m : Int) + 24) = (m : Int) + 24 := by rw [IntKind.wrap_i64]; omega
  have w2 : IntKind.i64.wrap ((m : Int) + 24 - 1) = (m : Int) + 24 - 1 := by rw [IntKind.wrap_i64]; omega
  rcases hr with ⟨h1, h2⟩ | ⟨h1, h2⟩
  have h1' : (m : Int) ≤ 32 := by omega
  replace h2 := Hid.mk' h2
  gi_wp2
  conv => arg 6; rw [show Value.int .i64 1 = Value.int .i64 (r : Int) by rw [h2.out]; rfl]
  rotate_left 1
  have h1' : ¬ (m : Int) ≤ 32 := by omega
  replace h2 := Hid.mk' h2
  gi_wp2
  have e1 : ((m : Int) + 24 - 1) / 24 = (r : Int) := by have := h2.out; omega
  rw [e1]
  all_goals
    try clear e1
    clear w1 w2 key
    gi_loopw [12] (fun i wr => ∃ (k : Nat) (pre : List (Fin r)), k ≤ r ∧ i = .int .i64 k ∧ pre.map (·.1) = List.range k ∧ J pre wr ∧ wr.heap[nb]? = W.heap[nb]?)
      (fun i _ => r - (intOf i).toNat)
    case atStart => exact ⟨0, [], Nat.zero_le _, rfl, rfl, h0, rfl⟩
    case round =>
      obtain ⟨k, pre, hk, rfl, hpre, hJs, hnx⟩ := hrel
      have hcx : wr.drew.cell? ⟨nb, 0, none⟩ = some (.int .i64 (m : Nat)) := (World.cell?_of_block (w := W) (w' := wr.drew) (a := ⟨nb, 0, none⟩) hnx).trans hc
      have hcy : wr.cell? ⟨nb, 0, none⟩ = some (.int .i64 (m : Nat)) := (World.cell?_of_block (w := W) (a := ⟨nb, 0, none⟩) hnx).trans hc
      have hlen : pre.length = k := by have := congrArg List.length hpre; simpa using this
      by_cases hlt : k < r
      · have hm1 : m * k < 100000 * 100000 := Nat.mul_lt_mul'' (by omega) (by omega)
        have hm2 : m * (k + 1) ≤ 100000 * 100000 := Nat.mul_le_mul (by omega) (by omega)
        have w1 : IntKind.i64.wrap ((m : Int) * (k : Int)) = (m : Int) * (k : Int) := by rw [IntKind.wrap_i64]; omega
        have w2 : IntKind.i64.wrap ((k : Int) + 1) = (k : Int) + 1 := by rw [IntKind.wrap_i64]; omega
        have e9 : (m : Int) * ((k : Int) + 1) = ((m * (k + 1) : Nat) : Int) := by simp
        have w3 : IntKind.i64.wrap ((m : Int) * ((k : Int) + 1)) = (m : Int) * ((k : Int) + 1) := by rw [IntKind.wrap_i64, e9]; omega
        clear e9
        have hr0 : ¬ r = 0 := by omega
        have hkr : (k : Int) < (r : Int) := by omega
        have hb1 : m * k / r ≤ m * k := Nat.div_le_self _ _
        have hb2 : m * (k + 1) / r ≤ m * (k + 1) := Nat.div_le_self _ _
        obtain ⟨q1, hq1⟩ : ∃ q, m * k / r = q := ⟨_, rfl⟩
        obtain ⟨q2, hq2⟩ : ∃ q, m * (k + 1) / r = q := ⟨_, rfl⟩
        have hd1 : IntKind.i64.wrap (((m : Int) * (k : Int)).tdiv (r : Int)) = (q1 : Int) := by
          rw [show (m : Int) * (k : Int) = ((m * k : Nat) : Int) by simp, ← Int.ofNat_tdiv, hq1, IntKind.wrap_i64]; omega
        have hd2 : IntKind.i64.wrap (((m : Int) * ((k : Int) + 1)).tdiv (r : Int)) = (q2 : Int) := by
          rw [show (m : Int) * ((k : Int) + 1) = ((m * (k + 1) : Nat) : Int) by simp, ← Int.ofNat_tdiv, hq2, IntKind.wrap_i64]; omega
        clear hb1 hb2 hm1 hm2
        obtain ⟨fn, tmps, assign, body, hy, hRd⟩ := hY pre ⟨k, hlt⟩ wr.drew (hJd _ _ hJs) (by omega)
        dsimp only at hy
        rw [hq1, hq2] at hy
        clear hq1 hq2
        gi_wp2
        refine wpIn_region_any (by kernel_rfl) ?_
        simp only [List.size_toArray, List.length_cons, List.length_nil, Nat.reduceAdd, Array.replicate_succ, Array.replicate_zero, List.push_toArray, List.append_toArray, List.nil_append, List.cons_append]
        refine wpAnyIn_take (i := 0) (v := ?_) rfl rfl (by kernel_rfl) (by kernel_rfl) (by kernel_rfl) (fun _ _ _ h => h) ⟨Or.inl ⟨by rfl, ?_⟩, fun _ => rfl⟩ ?_
        rotate_left 1
        · intro w; go_simp <;> with_reducible rfl
        try simp only [Act.put, List.setIfInBounds_toArray, List.set_cons_zero, List.set_cons_succ, List.getElem_toArray, List.getElem_cons_succ, List.getElem_cons_zero]
        refine wpAnyIn_take (i := 2) (v := ?_) rfl rfl (by kernel_rfl) (by kernel_rfl) (by kernel_rfl) (fun _ _ _ h => h) ⟨Or.inl ⟨by rfl, ?_⟩, fun _ => rfl⟩ ?_
        rotate_left 1
        · intro w; go_simp <;> with_reducible rfl
        try simp only [Act.put, List.setIfInBounds_toArray, List.set_cons_zero, List.set_cons_succ, List.getElem_toArray, List.getElem_cons_succ, List.getElem_cons_zero]
        refine wpAnyIn_take (i := 4) (v := ?_) rfl rfl (by kernel_rfl) (by kernel_rfl) (by kernel_rfl) (fun _ _ _ h => h) ⟨Or.inl ⟨by rfl, ?_⟩, fun _ => rfl⟩ ?_
        rotate_left 1
        · intro w; go_simp <;> with_reducible rfl
        try simp only [Act.put, List.setIfInBounds_toArray, List.set_cons_zero, List.set_cons_succ, List.getElem_toArray, List.getElem_cons_succ, List.getElem_cons_zero]
        refine wpAnyIn_take (i := 7) (v := ?_) rfl rfl (by kernel_rfl) (by kernel_rfl) (by kernel_rfl) (fun _ _ _ h => h) ⟨Or.inl ⟨by rfl, ?_⟩, fun _ => rfl⟩ ?_
        rotate_left 1
        · intro w; go_simp <;> with_reducible rfl
        try simp only [Act.put, List.setIfInBounds_toArray, List.set_cons_zero, List.set_cons_succ, List.getElem_toArray, List.getElem_cons_succ, List.getElem_cons_zero]
        refine wpAnyIn_take (i := 8) (v := ?_) rfl rfl (by kernel_rfl) (by kernel_rfl) (by kernel_rfl) (fun _ _ _ h => h) ⟨Or.inl ⟨by rfl, ?_⟩, fun _ => rfl⟩ ?_
        rotate_left 1
        · intro w; go_simp <;> with_reducible rfl
        try simp only [Act.put, List.setIfInBounds_toArray, List.set_cons_zero, List.set_cons_succ, List.getElem_toArray, List.getElem_cons_succ, List.getElem_cons_zero]
        refine wpAnyIn_take (i := 10) (v := ?_) rfl rfl (by kernel_rfl) (by kernel_rfl) (by kernel_rfl) (fun _ _ _ h => h) ⟨Or.inl ⟨by rfl, ?_⟩, fun _ => rfl⟩ ?_
        rotate_left 1
        · intro w; go_simp <;> with_reducible rfl
        try simp only [Act.put, List.setIfInBounds_toArray, List.set_cons_zero, List.set_cons_succ, List.getElem_toArray, List.getElem_cons_succ, List.getElem_cons_zero]
        refine wpAnyIn_ready (rs := [1, 6]) (by kernel_rfl) (by simp) ?_
        refine AllReadyIn.cons rfl (fun Kq hKq => ?_) (AllReadyIn.cons rfl (fun Kq hKq => ?_) AllReadyIn.nil)
        · go_simp
          refine hKq _ _ ?_
          clear hKq Kq
          try simp only [Act.put, List.setIfInBounds_toArray, List.set_cons_zero, List.set_cons_succ, List.getElem_toArray, List.getElem_cons_succ, List.getElem_cons_zero]
          refine wpAnyIn_take (i := 3) (v := ?_) rfl rfl (by kernel_rfl) (by kernel_rfl) (by kernel_rfl) (fun _ _ _ h => h) ⟨Or.inl ⟨by rfl, ?_⟩, fun _ => rfl⟩ ?_
          rotate_left 1
          · intro w; go_simp <;> with_reducible rfl
          try simp only [Act.put, List.setIfInBounds_toArray, List.set_cons_zero, List.set_cons_succ, List.getElem_toArray, List.getElem_cons_succ, List.getElem_cons_zero]
          refine wpAnyIn_take (i := 5) (v := .int .i64 q1) rfl rfl (by kernel_rfl) (by kernel_rfl) (by kernel_rfl) (fun _ _ _ h => h) ⟨Or.inl ⟨by rfl, ?_⟩, fun _ => rfl⟩ ?_
          · intro w; go_simp
          try simp only [Act.put, List.setIfInBounds_toArray, List.set_cons_zero, List.set_cons_succ, List.getElem_toArray, List.getElem_cons_succ, List.getElem_cons_zero]
          refine wpAnyIn_ready (rs := [6]) (by kernel_rfl) (by simp) ?_
          refine AllReadyIn.cons rfl (fun Kq hKq => ?_) AllReadyIn.nil
          go_simp
          refine hKq _ _ ?_
          clear hKq Kq
          try simp only [Act.put, List.setIfInBounds_toArray, List.set_cons_zero, List.set_cons_succ, List.getElem_toArray, List.getElem_cons_succ, List.getElem_cons_zero]
          refine wpAnyIn_take (i := 9) (v := ?_) rfl rfl (by kernel_rfl) (by kernel_rfl) (by kernel_rfl) (fun _ _ _ h => h) ⟨Or.inl ⟨by rfl, ?_⟩, fun _ => rfl⟩ ?_
          rotate_left 1
          · intro w; go_simp <;> with_reducible rfl
          try simp only [Act.put, List.setIfInBounds_toArray, List.set_cons_zero, List.set_cons_succ, List.getElem_toArray, List.getElem_cons_succ, List.getElem_cons_zero]
          refine wpAnyIn_take (i := 11) (v := .int .i64 q2) rfl rfl (by kernel_rfl) (by kernel_rfl) (by kernel_rfl) (fun _ _ _ h => h) ⟨Or.inl ⟨by rfl, ?_⟩, fun _ => rfl⟩ ?_
          · intro w; go_simp
          try simp only [Act.put, List.setIfInBounds_toArray, List.set_cons_zero, List.set_cons_succ, List.getElem_toArray, List.getElem_cons_succ, List.getElem_cons_zero]
          refine wpAnyIn_ready (rs := [12]) (by kernel_rfl) (by simp) ?_
          refine AllReadyIn.cons rfl (fun Kq hKq => ?_) AllReadyIn.nil
          go_simp
          refine ⟨fun e => (by cases e), hRd.mono ?_⟩
          rintro e W3 (⟨rfl, hJ3, hk3⟩ | ⟨rfl, hJx3⟩)
          · refine hKq _ _ ?_
            clear hKq Kq
            try simp only [Act.put, List.setIfInBounds_toArray, List.set_cons_zero, List.set_cons_succ, List.getElem_toArray, List.getElem_cons_succ, List.getElem_cons_zero]
            refine wpAnyIn_take (i := 13) (v := ?_) rfl rfl (by kernel_rfl) (by kernel_rfl) (by kernel_rfl) (fun _ _ _ h => h) ⟨Or.inl ⟨by rfl, ?_⟩, fun _ => rfl⟩ ?_
            rotate_left 1
            · intro w; go_simp <;> with_reducible rfl
            try simp only [Act.put, List.setIfInBounds_toArray, List.set_cons_zero, List.set_cons_succ, List.getElem_toArray, List.getElem_cons_succ, List.getElem_cons_zero]
            refine wpAnyIn_done (by kernel_rfl) ?_ _
            gi_wp2
            go_roundw
            case rel => exact ⟨k + 1, pre ++ [⟨k, hlt⟩], by omega, by simp, by simp [hpre, List.range_succ], hJ3, hk3.trans hnx⟩
            case measure => simp [intOf]; omega
          · refine hKq _ _ ?_
            clear hKq Kq
            try simp only [Act.put, List.setIfInBounds_toArray, List.set_cons_zero, List.set_cons_succ, List.getElem_toArray, List.getElem_cons_succ, List.getElem_cons_zero]
            refine wpAnyIn_take (i := 13) (v := ?_) rfl rfl (by kernel_rfl) (by kernel_rfl) (by kernel_rfl) (fun _ _ _ h => h) ⟨Or.inl ⟨by rfl, ?_⟩, fun _ => rfl⟩ ?_
            rotate_left 1
            · intro w; go_simp <;> with_reducible rfl
            try simp only [Act.put, List.setIfInBounds_toArray, List.set_cons_zero, List.set_cons_succ, List.getElem_toArray, List.getElem_cons_succ, List.getElem_cons_zero]
            refine wpAnyIn_done (by kernel_rfl) ?_ _
            gi_wp2
            refine bodyPost_ret (results_none rfl _ _ _) rfl ?_
            exact ⟨⟨_, rfl⟩, .inr ⟨_, trivial, hJx3⟩⟩
        · go_simp
          refine hKq _ _ ?_
          clear hKq Kq
          try simp only [Act.put, List.setIfInBounds_toArray, List.set_cons_zero, List.set_cons_succ, List.getElem_toArray, List.getElem_cons_succ, List.getElem_cons_zero]
          refine wpAnyIn_take (i := 9) (v := ?_) rfl rfl (by kernel_rfl) (by kernel_rfl) (by kernel_rfl) (fun _ _ _ h => h) ⟨Or.inl ⟨by rfl, ?_⟩, fun _ => rfl⟩ ?_
          rotate_left 1
          · intro w; go_simp <;> with_reducible rfl
          try simp only [Act.put, List.setIfInBounds_toArray, List.set_cons_zero, List.set_cons_succ, List.getElem_toArray, List.getElem_cons_succ, List.getElem_cons_zero]
          refine wpAnyIn_take (i := 11) (v := .int .i64 q2) rfl rfl (by kernel_rfl) (by kernel_rfl) (by kernel_rfl) (fun _ _ _ h => h) ⟨Or.inl ⟨by rfl, ?_⟩, fun _ => rfl⟩ ?_
          · intro w; go_simp
          try simp only [Act.put, List.setIfInBounds_toArray, List.set_cons_zero, List.set_cons_succ, List.getElem_toArray, List.getElem_cons_succ, List.getElem_cons_zero]
          refine wpAnyIn_ready (rs := [1]) (by kernel_rfl) (by simp) ?_
          refine AllReadyIn.cons rfl (fun Kq hKq => ?_) AllReadyIn.nil
          go_simp
          refine hKq _ _ ?_
          clear hKq Kq
          try simp only [Act.put, List.setIfInBounds_toArray, List.set_cons_zero, List.set_cons_succ, List.getElem_toArray, List.getElem_cons_succ, List.getElem_cons_zero]
          refine wpAnyIn_take (i := 3) (v := ?_) rfl rfl (by kernel_rfl) (by kernel_rfl) (by kernel_rfl) (fun _ _ _ h => h) ⟨Or.inl ⟨by rfl, ?_⟩, fun _ => rfl⟩ ?_
          rotate_left 1
          · intro w; go_simp <;> with_reducible rfl
          try simp only [Act.put, List.setIfInBounds_toArray, List.set_cons_zero, List.set_cons_succ, List.getElem_toArray, List.getElem_cons_succ, List.getElem_cons_zero]
          refine wpAnyIn_take (i := 5) (v := .int .i64 q1) rfl rfl (by kernel_rfl) (by kernel_rfl) (by kernel_rfl) (fun _ _ _ h => h) ⟨Or.inl ⟨by rfl, ?_⟩, fun _ => rfl⟩ ?_
          · intro w; go_simp
          try simp only [Act.put, List.setIfInBounds_toArray, List.set_cons_zero, List.set_cons_succ, List.getElem_toArray, List.getElem_cons_succ, List.getElem_cons_zero]
          refine wpAnyIn_ready (rs := [12]) (by kernel_rfl) (by simp) ?_
          refine AllReadyIn.cons rfl (fun Kq hKq => ?_) AllReadyIn.nil
          go_simp
          refine ⟨fun e => (by cases e), hRd.mono ?_⟩
          rintro e W3 (⟨rfl, hJ3, hk3⟩ | ⟨rfl, hJx3⟩)
          · refine hKq _ _ ?_
            clear hKq Kq
            try simp only [Act.put, List.setIfInBounds_toArray, List.set_cons_zero, List.set_cons_succ, List.getElem_toArray, List.getElem_cons_succ, List.getElem_cons_zero]
            refine wpAnyIn_take (i := 13) (v := ?_) rfl rfl (by kernel_rfl) (by kernel_rfl) (by kernel_rfl) (fun _ _ _ h => h) ⟨Or.inl ⟨by rfl, ?_⟩, fun _ => rfl⟩ ?_
            rotate_left 1
            · intro w; go_simp <;> with_reducible rfl
            try simp only [Act.put, List.setIfInBounds_toArray, List.set_cons_zero, List.set_cons_succ, List.getElem_toArray, List.getElem_cons_succ, List.getElem_cons_zero]
            refine wpAnyIn_done (by kernel_rfl) ?_ _
            gi_wp2
            go_roundw
            case rel => exact ⟨k + 1, pre ++ [⟨k, hlt⟩], by omega, by simp, by simp [hpre, List.range_succ], hJ3, hk3.trans hnx⟩
            case measure => simp [intOf]; omega
          · refine hKq _ _ ?_
            clear hKq Kq
            try simp only [Act.put, List.setIfInBounds_toArray, List.set_cons_zero, List.set_cons_succ, List.getElem_toArray, List.getElem_cons_succ, List.getElem_cons_zero]
            refine wpAnyIn_take (i := 13) (v := ?_) rfl rfl (by kernel_rfl) (by kernel_rfl) (by kernel_rfl) (fun _ _ _ h => h) ⟨Or.inl ⟨by rfl, ?_⟩, fun _ => rfl⟩ ?_
            rotate_left 1
            · intro w; go_simp <;> with_reducible rfl
            try simp only [Act.put, List.setIfInBounds_toArray, List.set_cons_zero, List.set_cons_succ, List.getElem_toArray, List.getElem_cons_succ, List.getElem_cons_zero]
            refine wpAnyIn_done (by kernel_rfl) ?_ _
            gi_wp2
            refine bodyPost_ret (results_none rfl _ _ _) rfl ?_
            exact ⟨⟨_, rfl⟩, .inr ⟨_, trivial, hJx3⟩⟩
      · obtain rfl : k = r := by omega
        gi_wp2
        go_end0
        exact ⟨⟨_, rfl⟩, .inl ⟨_, hpre, hJs⟩⟩

def loOf (m r i : Nat) : Nat := m * i / r

/-- The iterator's contract. -/
theorem evenly_stops (n nb m r : Nat) (w : World) (B : Blk w nb [.int .i64 (m : Nat)] 3) (hr : Runs m r) (hm : m < 100000) :
    SeqStopsK Fence.wide n Yba.prog 37 #[.pointer (some ⟨nb, 0, none⟩)] (fun x : Fin r => #[.int .i64 (loOf m r x.1 : Nat), .int .i64 (loOf m r (x.1 + 1) : Nat)]) (fun A B => B.heap[nb]? = A.heap[nb]?) (fun xs => xs.map (·.1) = List.range r) (fun _ => True) r w := by
  intro l J Jx W hW hJ hJx hY h0
  exact evenly1 n l nb m r hr hm J Jx hY (fun pre W h => hJ pre W W.drew none h ⟨rfl, rfl, rfl, Nat.le_refl _, fun _ _ _ => rfl⟩ (fun _ e => by cases e)) W ((B.below hW).cell 0) h0
end Go.Proofs.Ybulkbqza
