/-
  Seat b3380a. slices.breakPatternsOrdered at uint32.
-/
import Derived.Test.YbulkbqzaHeapB
import Derived.Test.YbulkbqzaPivot
import Derived.Test.YbulkbqzaShelf
import Derived.Sort.Walk7
namespace Go.Proofs.Ybulkbqza
open Go.RowKit
open Go.Sort (ltInt)
set_option linter.unusedVariables false

theorem drewN_below (w : World) (n : Nat) : Below w.heap.size w (w.drewN n) := ⟨rfl, rfl, rfl, Nat.le_refl _, fun _ _ => rfl⟩

set_option maxHeartbeats 4000000 in
theorem breakPatterns_go (rb ro n cap : Nat) (hsz : n < 4611686018427387904) (a L : Nat) (d : Array Int) (w0 w : World) (s : St rb ro n w0 d w) (hrb : rb < w0.heap.size) (hb : a + L ≤ n) (h8 : 8 ≤ L) :
    Calls Yba.prog 28 #[.slice (some ⟨rb, ro, none⟩) n cap, .int .i64 a, .int .i64 ((a + L : Nat) : Int)] w fun e w' => e = .returned (.tuple #[]) ∧ St rb ro n w0 (Sort.breakPatterns d a (a + L)) w' := by
  have hw0 : w0.heap.size ≤ w.heap.size := s.kept.size
  rw [breakPatterns_eq d a L h8]
  obtain ⟨M, hM⟩ : ∃ M : Nat, M = 1 <<< Sort.bitsLen L := ⟨_, rfl⟩
  have hM1 : 1 ≤ M := by rw [hM, Nat.one_shiftLeft]; exact Nat.two_pow_pos _
  have hM2 : M ≤ 2 * L := by rw [hM, Nat.one_shiftLeft]; exact Sort.two_pow_bitsLen_le (by omega)
  have hNP : ∀ w, Calls Yba.prog 45 #[.int .i64 (L : Int)] w fun e w' => e = .returned (.int .u64 (M : Int)) ∧ w' = w := by rw [hM]; exact fun w => Yba.nextPowerOfTwo L (by omega) w
  rw [← hM]
  clear hM
  have hLz : ((a : Int) + (L : Int) - (a : Int)) = (L : Int) := by omega
  have h8z : (8 : Int) ≤ (L : Int) := by omega
  have n1 : w.heap.size ≠ rb := by omega
  go_enter Yba.func28, Yba.ntmps28
  go_wp2_with (go_at_call 45; refine (hNP _).mono ?_; rintro e w' ⟨rfl, rfl⟩)
  go_loopg [9] 3 (fun g1 vi wr => ∃ (I t : Nat) (r : UInt64) (dk : Array Int), vi = .int .i64 (I : Nat) ∧ Hid (I = a + L / 4 * 2 - 1 + t) ∧ t ≤ 3 ∧ 3 - t ≤ g1 ∧ St rb ro n w0 dk wr ∧
      wr.cell? ⟨w.heap.size, 0, none⟩ = some (.int .u64 (r.toNat : Int)) ∧ wr.frozen? ⟨w.heap.size, 0, none⟩ = false ∧
      Hid (bpRest a L M (a + L / 4 * 2 - 1) (3 - t) t (r, dk) = bpRest a L M (a + L / 4 * 2 - 1) 3 0 (UInt64.ofNat L, d)))
  case atStart =>
    refine ⟨a + L / 4 * 2 - 1, 0, UInt64.ofNat L, d, by congr 1; omega, rfl, by omega, by omega, s.below ((Below.refl _ _).alloc (Nat.le_refl _) _), ?_, by simp, rfl⟩
    rw [show (UInt64.ofNat L).toNat = L from by simp; omega]
    simp
  case round =>
    obtain ⟨I, t, r, dk, rfl, HI, ht, hg1, sk, cR, fR, HR⟩ := hrel
    have hIn : t < 3 → I < n := fun h => by have := HI.out; omega
    by_cases ht3 : t < 3
    · have hle : (I : Int) ≤ (a : Int) + (L : Int) / 4 * 2 + 1 := by have := HI.out; omega
      have hI := hIn ht3
      obtain ⟨R, hRr⟩ : ∃ R : Nat, R = r.toNat := ⟨_, rfl⟩
      have lR : R < 18446744073709551616 := by rw [hRr]; exact r.toNat_lt
      obtain ⟨R', hR'⟩ : ∃ R' : Nat, R' = Sort.xorNextN R := ⟨_, rfl⟩
      have lR' : R' < 18446744073709551616 := by rw [hR']; exact Sort.xorNextN_lt R lR
      obtain ⟨O, hO⟩ : ∃ O : Nat, O = R' &&& (M - 1) := ⟨_, rfl⟩
      have lO : O ≤ M - 1 := by rw [hO]; exact Nat.and_le_right
      have eAnd : bits .and .u64 (R' : Int) ((M : Int) - 1) = (O : Int) := by
        rw [show ((M : Int) - 1) = ((M - 1 : Nat) : Int) by omega, bits_and_u64_nat _ _ lR' (by omega), hO]
      rw [← hRr] at cR
      have hNext : Calls Yba.prog 46 #[.pointer (some ⟨w.heap.size, 0, none⟩)] wr fun e w' => e = .returned (.int .u64 (R' : Int)) ∧ w' = (wr.setCell ⟨w.heap.size, 0, none⟩ (.int .u64 (R' : Int))).drewN 3 := by
        rw [hR']; exact Yba.xorshift_Next _ _ R lR wr cR fR
      have HN : Hid (R' = (Sort.xorNext r).toNat ∧ O = (Sort.xorNext r).toNat &&& (M - 1)) := by
        have e : R' = (Sort.xorNext r).toNat := by rw [hR', hRr, Sort.xorNext_toNat]
        exact ⟨e, by rw [hO, e]⟩
      clear hRr hR' hO
      have s2 : St rb ro n w0 dk ((wr.setCell ⟨w.heap.size, 0, none⟩ (.int .u64 (R' : Int))).drewN 3) := (sk.setNew n1 hw0 _).below (drewN_below _ _)
      have cR' : ((wr.setCell ⟨w.heap.size, 0, none⟩ (.int .u64 (R' : Int))).drewN 3).cell? ⟨w.heap.size, 0, none⟩ = some (.int .u64 (R' : Int)) := by
        rw [World.cell?_drewN]; exact World.cell?_setCell_same _ _ _ cR
      have fR' : ((wr.setCell ⟨w.heap.size, 0, none⟩ (.int .u64 (R' : Int))).drewN 3).frozen? ⟨w.heap.size, 0, none⟩ = false := by
        rw [World.frozen?_drewN]; simpa using fR
      generalize hw2 : (wr.setCell ⟨w.heap.size, 0, none⟩ (.int .u64 (R' : Int))).drewN 3 = w2 at hNext s2 cR' fR'
      obtain ⟨G, hG, hcw, hfw⟩ := s2.fam
      have HG : Hid (∀ t, G t = dk[t]!) := hG
      have S2 : Hid (St rb ro n w0 dk w2) := s2
      clear cR fR hw2 hG s2 sk s hIn hNP
      by_cases hLO : L ≤ O
      · obtain ⟨J, hJ⟩ : ∃ J, J = O - L := ⟨_, rfl⟩
        have hLOz : (L : Int) ≤ (O : Int) := by omega
        have eJ : (O : Int) - (L : Int) = (J : Int) := by omega
        have hJn : a + J < n := by omega
        obtain ⟨v1, hv1⟩ := cell?_setCell_some (w := w2) (p := ⟨rb, ro + I, none⟩) (x := .int .u32 (G (a + J))) (q := ⟨rb, ro + (a + J), none⟩) (hcw (a + J) hJn)
        have HJ : Hid (J = O - L) := hJ
        clear hJ
        go_wp2_with fail
        refine hNext.mono ?_
        rintro e w' ⟨rfl, rfl⟩
        go_wp2_with fail
        go_region
        all_goals go_wp2_with fail
        have key := (S2.out.swapped I (a + J) (by omega) (by omega)).drew
        rw [← HG.out, ← HG.out] at key
        go_roundg (3 - (t + 1))
        case measure => omega
        case rel => exact ⟨I + 1, t + 1, Sort.xorNext r, _, by congr 1, show _ = _ from by rw [HI.out]; omega, by omega, Nat.le_refl _, key, by rw [← HN.out.1, World.cell?_drew, World.cell?_setCell_other _ _ _ _ (by simp), World.cell?_setCell_other _ _ _ _ (by simp)]; exact cR',
          by simpa using fR',
          (show Hid _ from by rw [← HR.out, bp_step a L M _ t r dk J ht3 (by rw [← HN.out.2, if_pos (by omega), HJ.out]), HI.out]; exact rfl)⟩
      · have hLOz : ¬ (L : Int) ≤ (O : Int) := by omega
        have hJn : a + O < n := by omega
        obtain ⟨v1, hv1⟩ := cell?_setCell_some (w := w2) (p := ⟨rb, ro + I, none⟩) (x := .int .u32 (G (a + O))) (q := ⟨rb, ro + (a + O), none⟩) (hcw (a + O) hJn)
        go_wp2_with fail
        refine hNext.mono ?_
        rintro e w' ⟨rfl, rfl⟩
        go_wp2_with fail
        go_region
        all_goals go_wp2_with fail
        have key := (S2.out.swapped I (a + O) (by omega) (by omega)).drew
        rw [← HG.out, ← HG.out] at key
        go_roundg (3 - (t + 1))
        case measure => omega
        case rel => exact ⟨I + 1, t + 1, Sort.xorNext r, _, by congr 1, show _ = _ from by rw [HI.out]; omega, by omega, Nat.le_refl _, key, by rw [← HN.out.1, World.cell?_drew, World.cell?_setCell_other _ _ _ _ (by simp), World.cell?_setCell_other _ _ _ _ (by simp)]; exact cR',
          by simpa using fR',
          (show Hid _ from by rw [← HR.out, bp_step a L M _ t r dk O ht3 (by rw [← HN.out.2, if_neg (by omega)]), HI.out]; exact rfl)⟩
    · obtain rfl : t = 3 := by omega
      have hle : ¬ ((I : Int) ≤ (a : Int) + (L : Int) / 4 * 2 + 1) := by have := HI.out; omega
      go_wp2_with fail
      go_end0
      refine ⟨rfl, ?_⟩
      rw [← HR.out]
      exact sk

theorem breakPatterns_calls (rb ro n cap : Nat) (hsz : n < 4611686018427387904) (a b : Nat) (d : Array Int) (w0 w : World) (s : St rb ro n w0 d w) (hrb : rb < w0.heap.size) (hab : a ≤ b) (hb : b ≤ n) :
    Calls Yba.prog 28 #[.slice (some ⟨rb, ro, none⟩) n cap, .int .i64 a, .int .i64 b] w fun e w' => e = .returned (.tuple #[]) ∧ St rb ro n w0 (Sort.breakPatterns d a b) w' := by
  obtain ⟨L, rfl⟩ : ∃ L, b = a + L := ⟨b - a, by omega⟩
  by_cases h8 : 8 ≤ L
  · exact breakPatterns_go rb ro n cap hsz a L d w0 w s hrb hb h8
  · have hv : Sort.breakPatterns d a (a + L) = d := by unfold Sort.breakPatterns; simp only [Nat.add_sub_cancel_left]; rw [if_neg h8]
    rw [hv]
    have hLz : ((a : Int) + (L : Int) - (a : Int)) = (L : Int) := by omega
    have h8z : ¬ (8 : Int) ≤ (L : Int) := by omega
    go_enter Yba.func28, Yba.ntmps28
    go_wp2_with fail
    go_end0
    exact ⟨rfl, s⟩

end Go.Proofs.Ybulkbqza
