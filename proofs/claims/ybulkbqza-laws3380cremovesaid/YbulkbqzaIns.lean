/-
  Seat b3380a. cmp.Less, slices.insertionSortOrdered, slices.reverseRangeOrdered at uint32.
-/
import Derived.Test.YbulkbqzaFrame
import Derived.Sort.WalkB12
namespace Go.Proofs.Ybulkbqza
open Go.RowKit Go.Sort
set_option linter.unusedVariables false

theorem isNaN_calls (x : Int) (w : World) : Calls Yba.prog 49 #[.int .u32 x] w fun e w' => e = .returned (.bool false) ∧ w' = w := by
  go_enter Yba.func49, Yba.ntmps49
  go_wp2_with fail
  go_ret
  exact ⟨rfl, rfl⟩

theorem less_calls (x y : Int) (w : World) : Calls Yba.prog 32 #[.int .u32 x, .int .u32 y] w fun e w' => e = .returned (.bool (ltInt x y)) ∧ w' = w := by
  go_enter Yba.func32, Yba.ntmps32
  go_wp2_with (go_at_call 49; refine (isNaN_calls _ _).mono ?_; rintro e w' ⟨rfl, rfl⟩)
  go_ret
  exact ⟨by simp [ltInt], rfl⟩

/-- The row's contents under a name of their own, and its two families. -/
theorem St.fam {b off n : Nat} {w0 w : World} {d : Array Int} (s : St b off n w0 d w) :
    ∃ G : Nat → Int, (∀ t, G t = d[t]!) ∧ (∀ t, t < n → w.cell? ⟨b, off + t, none⟩ = some (.int .u32 (G t))) ∧ (∀ t, t < n → w.frozen? ⟨b, off + t, none⟩ = false) :=
  ⟨fun t => d[t]!, fun _ => rfl, fun t ht => s.row.c t (by rw [s.size]; exact ht), fun t ht => s.row.f t (by rw [s.size]; exact ht)⟩

set_option maxHeartbeats 1000000 in
theorem insertionSort_calls (b off n cap : Nat) (x y : Nat) (d : Array Int) (w0 w : World) (s : St b off n w0 d w) (hab : x ≤ y) (hb : y ≤ n) (hsz : n < 4611686018427387904) :
    Calls Yba.prog 26 #[.slice (some ⟨b, off, none⟩) n cap, .int .i64 x, .int .i64 y] w fun e w' => e = .returned (.tuple #[]) ∧ St b off n w0 (Sort.insertionSort ltInt d x y) w' := by
  go_enter Yba.func26, Yba.ntmps26
  go_wp2_with fail
  go_loopw [6] (fun vi wr => ∃ (i : Nat) (dk : Array Int), vi = .int .i64 i ∧ x < i ∧ i ≤ y + 1 ∧ St b off n w0 dk wr ∧ Hid (Sort.insOuter ltInt x y i dk = Sort.insOuter ltInt x y (x + 1) d)) (fun vi _ => y + 1 - (intOf vi).toNat)
  case atStart => exact ⟨x + 1, d, by go_num, by omega, by omega, s, rfl⟩
  case round =>
    obtain ⟨i, dk, rfl, hai, hib, sk, HO⟩ := hrel
    by_cases hlt : i < y
    · go_wp2_with fail
      go_loopw [7] (fun vj wr2 => ∃ (j : Nat) (dj : Array Int), vj = .int .i64 j ∧ x ≤ j ∧ j ≤ i ∧ St b off n w0 dj wr2 ∧ Hid (Sort.insInner ltInt x j dj = Sort.insInner ltInt x i dk)) (fun vj _ => (intOf vj).toNat)
      case atStart => exact ⟨i, dk, rfl, by omega, Nat.le_refl _, sk, rfl⟩
      case round =>
        obtain ⟨j, dj, rfl, haj, hji, sj, HI⟩ := hrel
        obtain ⟨G, hG, hcw, hfw⟩ := sj.fam
        have HG : Hid (∀ t, G t = dj[t]!) := hG
        have SJ : Hid (St b off n w0 dj wr) := sj
        clear hG sj sk s
        by_cases hja : x < j
        · cases hlv : ltInt (G j) (G (j - 1)) with
          | true =>
            go_wp2_with fail
            go_quiet (first | (go_at_call 32; refine Calls.quiet_of_same (less_calls _ _ _)))
            go_wp2_with fail
            go_region
            all_goals go_wp2_with fail
            have key := (SJ.out.drewN nq).swapped j (j - 1) (by omega) (by omega)
            rw [← HG.out, ← HG.out] at key
            exact ⟨⟨j - 1, _, by congr 1; omega, by omega, by omega, key.drew, show _ = _ from (insInner_go ltInt x j dj hja (by rw [← HG.out, ← HG.out]; exact hlv)).symm.trans HI.out⟩, by simp [intOf]; omega⟩
          | false =>
            go_wp2_with fail
            go_quiet (first | (go_at_call 32; refine Calls.quiet_of_same (less_calls _ _ _)))
            go_wp2_with fail
            exact ⟨⟨i + 1, dj, by go_num, by omega, by omega, SJ.out.drewN nq, show _ = _ from by rw [← HO.out, insOuter_go _ _ _ _ _ hlt, ← HI.out, insInner_stop _ _ _ _ (Or.inr (by rw [← HG.out, ← HG.out]; exact hlv))]⟩, by simp [intOf]; omega⟩
        · go_wp2_with fail
          go_quiet (first | (go_at_call 32; refine Calls.quiet_of_same (less_calls _ _ _)))
          go_wp2_with fail
          exact ⟨⟨i + 1, dj, by go_num, by omega, by omega, SJ.out.drewN nq, show _ = _ from by rw [← HO.out, insOuter_go _ _ _ _ _ hlt, ← HI.out, insInner_stop _ _ _ _ (Or.inl (by omega))]⟩, by simp [intOf]; omega⟩
    · go_wp2_with fail
      go_end0
      exact ⟨rfl, by unfold Sort.insertionSort; rw [← HO.out, insOuter_stop _ _ _ _ _ hlt]; exact sk⟩

set_option maxHeartbeats 1000000 in
theorem reverseRange_calls (b off n cap : Nat) (x y : Nat) (d : Array Int) (w0 w : World) (s : St b off n w0 d w) (hab : x ≤ y) (hb : y ≤ n) (hsz : n < 4611686018427387904) :
    Calls Yba.prog 30 #[.slice (some ⟨b, off, none⟩) n cap, .int .i64 x, .int .i64 y] w fun e w' => e = .returned (.tuple #[]) ∧ St b off n w0 (Sort.reverseRange d x y) w' := by
  go_enter Yba.func30, Yba.ntmps30
  go_wp2_with fail
  go_loopg [6, 7] (y - x) (fun k s6 s7 wr => ∃ (i jn : Nat) (jz : Int) (dk : Array Int), s6 = .int .i64 i ∧ s7 = .int .i64 jz ∧ ((i : Int) < jz → jz = jn ∧ jn < n) ∧ (¬ (i : Int) < jz → ¬ i < jn) ∧ jn - i ≤ k ∧
    St b off n w0 dk wr ∧ Hid (Sort.reverseLoop i jn dk = Sort.reverseLoop x (y - 1) d))
  case atStart => exact ⟨x, y - 1, (y : Int) - 1, d, rfl, rfl, fun h => ⟨by omega, by omega⟩, fun h => by omega, by omega, s, rfl⟩
  case round =>
    obtain ⟨i, jn, jz, dk, rfl, rfl, h1, h2, hk, sk, heq⟩ := hrel
    by_cases hlt : (i : Int) < jz
    · obtain ⟨rfl, hjn⟩ := h1 hlt
      have hij : i < jn := by omega
      obtain ⟨G, hG, hcw, hfw⟩ := sk.fam
      have HG : Hid (∀ t, G t = dk[t]!) := hG
      have SK : Hid (St b off n w0 dk wr) := sk
      clear h1 h2 hG sk s
      go_wp2_with fail
      go_region
      all_goals go_wp2_with fail
      have key := SK.out.swapped i jn (by omega) (by omega)
      rw [← HG.out, ← HG.out] at key
      go_roundg (jn - 1 - (i + 1))
      case measure => omega
      case rel =>
        have heq' := heq.out
        rw [Sort.reverseLoop, if_pos hij] at heq'
        exact ⟨i + 1, jn - 1, (jn : Int) - 1, _, by simp, rfl, fun h => ⟨by omega, by omega⟩, fun h => by omega, Nat.le_refl _, key.drew, heq'⟩
    · have hnot := h2 hlt
      clear h1 h2
      go_wp2_with fail
      go_end0
      refine ⟨rfl, ?_⟩
      have heq' := heq.out
      rw [Sort.reverseLoop, if_neg hnot] at heq'
      rw [Sort.reverseRange, ← heq']
      exact sk

end Go.Proofs.Ybulkbqza
