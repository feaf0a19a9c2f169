/-
  Seat b3380a. slices.siftDownOrdered, slices.heapSortOrdered at uint32.
-/
import Derived.Test.YbulkbqzaIns
import Derived.Sort.WalkB2
import Derived.Sort.WalkB3
namespace Go.Proofs.Ybulkbqza
open Go.RowKit Go.Sort
set_option linter.unusedVariables false

set_option maxHeartbeats 2000000 in
theorem siftDown_calls (b off n cap : Nat) (lo hi F : Nat) (d : Array Int) (w0 w : World) (s : St b off n w0 d w) (hlo : lo ≤ hi) (hb : F + hi ≤ n) (hsz : n < 4611686018427387904) :
    Calls Yba.prog 44 #[.slice (some ⟨b, off, none⟩) n cap, .int .i64 lo, .int .i64 hi, .int .i64 F] w fun e w' => e = .returned (.tuple #[]) ∧ St b off n w0 (Sort.siftDown ltInt hi F lo d) w' := by
  go_enter Yba.func44, Yba.ntmps44
  go_wp2_with fail
  go_loopg [8] (hi - lo) (fun kx s8 wr => ∃ (root : Nat) (dk : Array Int), s8 = .int .i64 root ∧ root ≤ hi ∧ hi - root ≤ kx ∧ St b off n w0 dk wr ∧ Hid (Sort.siftDown ltInt hi F root dk = Sort.siftDown ltInt hi F lo d))
  case atStart => exact ⟨lo, d, rfl, hlo, Nat.le_refl _, s, rfl⟩
  case round =>
    obtain ⟨root, dk, rfl, hr, hkx, sk, HE⟩ := hrel
    by_cases h0 : hi ≤ 2 * root + 1
    · have h0z : (hi : Int) ≤ 2 * (root : Int) + 1 := by omega
      go_wp2_with fail
      go_end0
      refine ⟨rfl, ?_⟩
      rw [← HE.out, Sort.sd_end ltInt dk h0]
      exact sk
    · have h0z : ¬ ((hi : Int) ≤ 2 * (root : Int) + 1) := by omega
      obtain ⟨G, hG, hcw, hfw⟩ := sk.fam
      have HG : Hid (∀ t, G t = dk[t]!) := hG
      have SK : Hid (St b off n w0 dk wr) := sk
      clear hG sk s
      have hFr : F + root < n := by omega
      have z1 : (F : Int) + (root : Int) < 4611686018427387904 := by omega
      by_cases h1 : 2 * root + 2 < hi
      · have h1z : 2 * (root : Int) + 1 + 1 < (hi : Int) := by omega
        cases hL : ltInt (G (F + 2 * root + 1)) (G (F + 2 * root + 2)) with
        | true =>
          cases hG : ltInt (G (F + root)) (G (F + 2 * root + 2)) with
          | true =>
            go_wp2_with fail
            go_quiet (first | (go_at_call 32; refine Calls.quiet_of_same (less_calls _ _ _)))
            have SK1 : Hid (St b off n w0 dk (wr.drewN nq)) := SK.out.drewN nq
            have hcw1 : ∀ t, t < n → (wr.drewN nq).cell? ⟨b, off + t, none⟩ = some (.int .u32 (G t)) := hcw
            have hfw1 : ∀ t, t < n → (wr.drewN nq).frozen? ⟨b, off + t, none⟩ = false := hfw
            clear hcw hfw SK
            generalize wr.drewN nq = wx1 at *
            go_wp2_with fail
            go_quiet (first | (go_at_call 32; refine Calls.quiet_of_same (less_calls _ _ _)))
            have SK2 : Hid (St b off n w0 dk (wx1.drewN nq)) := SK1.out.drewN nq
            have hcw2 : ∀ t, t < n → (wx1.drewN nq).cell? ⟨b, off + t, none⟩ = some (.int .u32 (G t)) := hcw1
            have hfw2 : ∀ t, t < n → (wx1.drewN nq).frozen? ⟨b, off + t, none⟩ = false := hfw1
            clear hcw1 hfw1 SK1
            generalize wx1.drewN nq = wx2 at *
            go_wp2_with fail
            go_region
            all_goals go_wp2_with fail
            have key := (SK2.out.swapped (F + root) (F + (2 * root + 2)) (by omega) (by omega)).drew
            simp only [← HG.out, ← Nat.add_assoc] at key
            go_roundg (hi - (2 * root + 2))
            case measure => omega
            case rel => exact ⟨2 * root + 2, _, by go_num, by omega, Nat.le_refl _, by simpa only [← Nat.add_assoc] using key, show _ = _ from (Sort.sd_right_go ltInt dk h1 (by have h := hL; rw [HG.out, HG.out] at h; simpa only [Nat.add_assoc] using h) (by have h := hG; rw [HG.out, HG.out] at h; simpa only [Nat.add_assoc] using h)).symm.trans HE.out⟩
          | false =>
            go_wp2_with fail
            go_quiet (first | (go_at_call 32; refine Calls.quiet_of_same (less_calls _ _ _)))
            have SK1 : Hid (St b off n w0 dk (wr.drewN nq)) := SK.out.drewN nq
            have hcw1 : ∀ t, t < n → (wr.drewN nq).cell? ⟨b, off + t, none⟩ = some (.int .u32 (G t)) := hcw
            have hfw1 : ∀ t, t < n → (wr.drewN nq).frozen? ⟨b, off + t, none⟩ = false := hfw
            clear hcw hfw SK
            generalize wr.drewN nq = wx1 at *
            go_wp2_with fail
            go_quiet (first | (go_at_call 32; refine Calls.quiet_of_same (less_calls _ _ _)))
            have SK2 : Hid (St b off n w0 dk (wx1.drewN nq)) := SK1.out.drewN nq
            have hcw2 : ∀ t, t < n → (wx1.drewN nq).cell? ⟨b, off + t, none⟩ = some (.int .u32 (G t)) := hcw1
            have hfw2 : ∀ t, t < n → (wx1.drewN nq).frozen? ⟨b, off + t, none⟩ = false := hfw1
            clear hcw1 hfw1 SK1
            generalize wx1.drewN nq = wx2 at *
            go_wp2_with fail
            first | go_end0 | ((try simp only [Exit.inBlock, Exit.then]); refine bodyPost_ret (results_none rfl _ _ _) rfl ?_)
            exact ⟨rfl, by rw [← HE.out, Sort.sd_right_stop ltInt dk h1 (by have h := hL; rw [HG.out, HG.out] at h; simpa only [Nat.add_assoc] using h) (by have h := hG; rw [HG.out, HG.out] at h; simpa only [Nat.add_assoc] using h)]; exact SK2.out⟩
        | false =>
          cases hG : ltInt (G (F + root)) (G (F + 2 * root + 1)) with
          | true =>
            go_wp2_with fail
            go_quiet (first | (go_at_call 32; refine Calls.quiet_of_same (less_calls _ _ _)))
            have SK1 : Hid (St b off n w0 dk (wr.drewN nq)) := SK.out.drewN nq
            have hcw1 : ∀ t, t < n → (wr.drewN nq).cell? ⟨b, off + t, none⟩ = some (.int .u32 (G t)) := hcw
            have hfw1 : ∀ t, t < n → (wr.drewN nq).frozen? ⟨b, off + t, none⟩ = false := hfw
            clear hcw hfw SK
            generalize wr.drewN nq = wx1 at *
            go_wp2_with fail
            go_quiet (first | (go_at_call 32; refine Calls.quiet_of_same (less_calls _ _ _)))
            have SK2 : Hid (St b off n w0 dk (wx1.drewN nq)) := SK1.out.drewN nq
            have hcw2 : ∀ t, t < n → (wx1.drewN nq).cell? ⟨b, off + t, none⟩ = some (.int .u32 (G t)) := hcw1
            have hfw2 : ∀ t, t < n → (wx1.drewN nq).frozen? ⟨b, off + t, none⟩ = false := hfw1
            clear hcw1 hfw1 SK1
            generalize wx1.drewN nq = wx2 at *
            go_wp2_with fail
            go_region
            all_goals go_wp2_with fail
            have key := (SK2.out.swapped (F + root) (F + (2 * root + 1)) (by omega) (by omega)).drew
            simp only [← HG.out, ← Nat.add_assoc] at key
            go_roundg (hi - (2 * root + 1))
            case measure => omega
            case rel => exact ⟨2 * root + 1, _, by go_num, by omega, Nat.le_refl _, by simpa only [← Nat.add_assoc] using key, show _ = _ from (Sort.sd_left_go ltInt dk (by omega) (fun _ => (by have h := hL; rw [HG.out, HG.out] at h; simpa only [Nat.add_assoc] using h)) (by have h := hG; rw [HG.out, HG.out] at h; simpa only [Nat.add_assoc] using h)).symm.trans HE.out⟩
          | false =>
            go_wp2_with fail
            go_quiet (first | (go_at_call 32; refine Calls.quiet_of_same (less_calls _ _ _)))
            have SK1 : Hid (St b off n w0 dk (wr.drewN nq)) := SK.out.drewN nq
            have hcw1 : ∀ t, t < n → (wr.drewN nq).cell? ⟨b, off + t, none⟩ = some (.int .u32 (G t)) := hcw
            have hfw1 : ∀ t, t < n → (wr.drewN nq).frozen? ⟨b, off + t, none⟩ = false := hfw
            clear hcw hfw SK
            generalize wr.drewN nq = wx1 at *
            go_wp2_with fail
            go_quiet (first | (go_at_call 32; refine Calls.quiet_of_same (less_calls _ _ _)))
            have SK2 : Hid (St b off n w0 dk (wx1.drewN nq)) := SK1.out.drewN nq
            have hcw2 : ∀ t, t < n → (wx1.drewN nq).cell? ⟨b, off + t, none⟩ = some (.int .u32 (G t)) := hcw1
            have hfw2 : ∀ t, t < n → (wx1.drewN nq).frozen? ⟨b, off + t, none⟩ = false := hfw1
            clear hcw1 hfw1 SK1
            generalize wx1.drewN nq = wx2 at *
            go_wp2_with fail
            first | go_end0 | ((try simp only [Exit.inBlock, Exit.then]); refine bodyPost_ret (results_none rfl _ _ _) rfl ?_)
            exact ⟨rfl, by rw [← HE.out, Sort.sd_left_stop ltInt dk (by omega) (fun _ => (by have h := hL; rw [HG.out, HG.out] at h; simpa only [Nat.add_assoc] using h)) (by have h := hG; rw [HG.out, HG.out] at h; simpa only [Nat.add_assoc] using h)]; exact SK2.out⟩
      · have h1z : decide (2 * (root : Int) + 1 + 1 < (hi : Int)) = false := decide_eq_false (by omega)
        cases hG : ltInt (G (F + root)) (G (F + 2 * root + 1)) with
        | true =>
          go_wp2_with fail
          go_quiet (first | (go_at_call 32; refine Calls.quiet_of_same (less_calls _ _ _)))
          have SK1 : Hid (St b off n w0 dk (wr.drewN nq)) := SK.out.drewN nq
          have hcw1 : ∀ t, t < n → (wr.drewN nq).cell? ⟨b, off + t, none⟩ = some (.int .u32 (G t)) := hcw
          have hfw1 : ∀ t, t < n → (wr.drewN nq).frozen? ⟨b, off + t, none⟩ = false := hfw
          clear hcw hfw SK
          generalize wr.drewN nq = wx1 at *
          go_wp2_with fail
          go_quiet (first | (go_at_call 32; refine Calls.quiet_of_same (less_calls _ _ _)))
          have SK2 : Hid (St b off n w0 dk (wx1.drewN nq)) := SK1.out.drewN nq
          have hcw2 : ∀ t, t < n → (wx1.drewN nq).cell? ⟨b, off + t, none⟩ = some (.int .u32 (G t)) := hcw1
          have hfw2 : ∀ t, t < n → (wx1.drewN nq).frozen? ⟨b, off + t, none⟩ = false := hfw1
          clear hcw1 hfw1 SK1
          generalize wx1.drewN nq = wx2 at *
          go_wp2_with fail
          go_region
          all_goals go_wp2_with fail
          have key := (SK2.out.swapped (F + root) (F + (2 * root + 1)) (by omega) (by omega)).drew
          simp only [← HG.out, ← Nat.add_assoc] at key
          go_roundg (hi - (2 * root + 1))
          case measure => omega
          case rel => exact ⟨2 * root + 1, _, by go_num, by omega, Nat.le_refl _, by simpa only [← Nat.add_assoc] using key, show _ = _ from (Sort.sd_left_go ltInt dk (by omega) (fun h => absurd h h1) (by have h := hG; rw [HG.out, HG.out] at h; simpa only [Nat.add_assoc] using h)).symm.trans HE.out⟩
        | false =>
          go_wp2_with fail
          go_quiet (first | (go_at_call 32; refine Calls.quiet_of_same (less_calls _ _ _)))
          have SK1 : Hid (St b off n w0 dk (wr.drewN nq)) := SK.out.drewN nq
          have hcw1 : ∀ t, t < n → (wr.drewN nq).cell? ⟨b, off + t, none⟩ = some (.int .u32 (G t)) := hcw
          have hfw1 : ∀ t, t < n → (wr.drewN nq).frozen? ⟨b, off + t, none⟩ = false := hfw
          clear hcw hfw SK
          generalize wr.drewN nq = wx1 at *
          go_wp2_with fail
          go_quiet (first | (go_at_call 32; refine Calls.quiet_of_same (less_calls _ _ _)))
          have SK2 : Hid (St b off n w0 dk (wx1.drewN nq)) := SK1.out.drewN nq
          have hcw2 : ∀ t, t < n → (wx1.drewN nq).cell? ⟨b, off + t, none⟩ = some (.int .u32 (G t)) := hcw1
          have hfw2 : ∀ t, t < n → (wx1.drewN nq).frozen? ⟨b, off + t, none⟩ = false := hfw1
          clear hcw1 hfw1 SK1
          generalize wx1.drewN nq = wx2 at *
          go_wp2_with fail
          first | go_end0 | ((try simp only [Exit.inBlock, Exit.then]); refine bodyPost_ret (results_none rfl _ _ _) rfl ?_)
          exact ⟨rfl, by rw [← HE.out, Sort.sd_left_stop ltInt dk (by omega) (fun h => absurd h h1) (by have h := hG; rw [HG.out, HG.out] at h; simpa only [Nat.add_assoc] using h)]; exact SK2.out⟩

end Go.Proofs.Ybulkbqza
