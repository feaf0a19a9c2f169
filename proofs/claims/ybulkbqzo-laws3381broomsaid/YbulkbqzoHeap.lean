/-
  Seat b3381a. sort.siftDown, sort.heapSort.
-/
import Derived.Test.YbulkbqzoEnv
import Derived.Sort.WalkB2
import Derived.Sort.WalkB3
namespace Go.Proofs.Ybulkbqzo
open Go.RowKit
set_option linter.unusedVariables false

set_option maxHeartbeats 2000000 in
theorem siftDown_calls {rv : Value} {bh bc n : Nat} (E : Env rv bh bc n) (lo hi F : Nat) (d : Array HC) (w0 w : World) (s : St bh bc n w0 d w) (hlo : lo ≤ hi) (hb : F + hi ≤ n) :
    Calls Yba.prog 19 #[.iface 45 rv, .int .i64 lo, .int .i64 hi, .int .i64 F] w fun e w' => e = .returned (.tuple #[]) ∧ St bh bc n w0 (Sort.siftDown ltS hi F lo d) w' := by
  have mL := E.mL
  have mS := E.mS
  have hsz := E.small
  go_enter Yba.func19, Yba.ntmps19
  go_wp2_with fail
  go_loopg [8] (hi - lo) (fun kx s8 wr => ∃ (root : Nat) (dk : Array HC), s8 = .int .i64 root ∧ root ≤ hi ∧ hi - root ≤ kx ∧ St bh bc n w0 dk wr ∧ Hid (Sort.siftDown ltS hi F root dk = Sort.siftDown ltS hi F lo d))
  case atStart => exact ⟨lo, d, rfl, hlo, Nat.le_refl _, s, rfl⟩
  case round =>
    obtain ⟨root, dk, rfl, hr, hkx, sk, HE⟩ := hrel
    by_cases h0 : hi ≤ 2 * root + 1
    · have h0z : (hi : Int) ≤ 2 * (root : Int) + 1 := by omega
      go_wp2_with fail
      go_end0
      refine ⟨rfl, ?_⟩
      rw [← HE.out, Sort.sd_end ltS dk h0]
      exact sk
    · have h0z : ¬ ((hi : Int) ≤ 2 * (root : Int) + 1) := by omega
      by_cases h1 : 2 * root + 2 < hi
      · have h1z : 2 * (root : Int) + 1 + 1 < (hi : Int) := by omega
        cases hL : ltS dk[F + (2 * root + 1)]! dk[F + (2 * root + 2)]! with
        | true =>
          cases hG : ltS dk[F + root]! dk[F + (2 * root + 2)]! with
          | true =>
            go_wp2_with fail
            refine (E.lessAt sk (F + (2 * root + 1)) (F + (2 * root + 2)) (by omega) (by omega) (by omega) (by omega) hL).mono ?_
            rintro e w1 ⟨rfl, s1, -⟩
            go_wp2_with fail
            refine (E.lessAt s1 (F + root) (F + (2 * root + 2)) (by omega) (by omega) (by omega) (by omega) hG).mono ?_
            rintro e w2 ⟨rfl, s2, -⟩
            go_wp2_with fail
            refine (E.swapAt s2 (F + root) (F + (2 * root + 2)) (by omega) (by omega) (by omega) (by omega)).mono ?_
            rintro e w3 ⟨rfl, s3, -⟩
            go_wp2_with fail
            go_roundg (hi - (2 * root + 2))
            case measure => omega
            case rel => exact ⟨2 * root + 2, _, by go_num, by omega, Nat.le_refl _, s3, show _ = _ from (Sort.sd_right_go ltS dk h1 hL hG).symm.trans HE.out⟩
          | false =>
            go_wp2_with fail
            refine (E.lessAt sk (F + (2 * root + 1)) (F + (2 * root + 2)) (by omega) (by omega) (by omega) (by omega) hL).mono ?_
            rintro e w1 ⟨rfl, s1, -⟩
            go_wp2_with fail
            refine (E.lessAt s1 (F + root) (F + (2 * root + 2)) (by omega) (by omega) (by omega) (by omega) hG).mono ?_
            rintro e w2 ⟨rfl, s2, -⟩
            go_wp2_with fail
            first | go_end0 | ((try simp only [Exit.inBlock, Exit.then]); refine bodyPost_ret (results_none rfl _ _ _) rfl ?_)
            exact ⟨rfl, by rw [← HE.out, Sort.sd_right_stop ltS dk h1 hL hG]; exact s2⟩
        | false =>
          cases hG : ltS dk[F + root]! dk[F + (2 * root + 1)]! with
          | true =>
            go_wp2_with fail
            refine (E.lessAt sk (F + (2 * root + 1)) (F + (2 * root + 2)) (by omega) (by omega) (by omega) (by omega) hL).mono ?_
            rintro e w1 ⟨rfl, s1, -⟩
            go_wp2_with fail
            refine (E.lessAt s1 (F + root) (F + (2 * root + 1)) (by omega) (by omega) (by omega) (by omega) hG).mono ?_
            rintro e w2 ⟨rfl, s2, -⟩
            go_wp2_with fail
            refine (E.swapAt s2 (F + root) (F + (2 * root + 1)) (by omega) (by omega) (by omega) (by omega)).mono ?_
            rintro e w3 ⟨rfl, s3, -⟩
            go_wp2_with fail
            go_roundg (hi - (2 * root + 1))
            case measure => omega
            case rel => exact ⟨2 * root + 1, _, by go_num, by omega, Nat.le_refl _, s3, show _ = _ from (Sort.sd_left_go ltS dk (by omega) (fun _ => hL) hG).symm.trans HE.out⟩
          | false =>
            go_wp2_with fail
            refine (E.lessAt sk (F + (2 * root + 1)) (F + (2 * root + 2)) (by omega) (by omega) (by omega) (by omega) hL).mono ?_
            rintro e w1 ⟨rfl, s1, -⟩
            go_wp2_with fail
            refine (E.lessAt s1 (F + root) (F + (2 * root + 1)) (by omega) (by omega) (by omega) (by omega) hG).mono ?_
            rintro e w2 ⟨rfl, s2, -⟩
            go_wp2_with fail
            first | go_end0 | ((try simp only [Exit.inBlock, Exit.then]); refine bodyPost_ret (results_none rfl _ _ _) rfl ?_)
            exact ⟨rfl, by rw [← HE.out, Sort.sd_left_stop ltS dk (by omega) (fun _ => hL) hG]; exact s2⟩
      · have h1z : ¬ (2 * (root : Int) + 1 + 1 < (hi : Int)) := by omega
        cases hG : ltS dk[F + root]! dk[F + (2 * root + 1)]! with
        | true =>
          go_wp2_with fail
          refine (E.lessAt sk (F + root) (F + (2 * root + 1)) (by omega) (by omega) (by omega) (by omega) hG).mono ?_
          rintro e w2 ⟨rfl, s2, -⟩
          go_wp2_with fail
          refine (E.swapAt s2 (F + root) (F + (2 * root + 1)) (by omega) (by omega) (by omega) (by omega)).mono ?_
          rintro e w3 ⟨rfl, s3, -⟩
          go_wp2_with fail
          go_roundg (hi - (2 * root + 1))
          case measure => omega
          case rel => exact ⟨2 * root + 1, _, by go_num, by omega, Nat.le_refl _, s3, show _ = _ from (Sort.sd_left_go ltS dk (by omega) (fun h => absurd h h1) hG).symm.trans HE.out⟩
        | false =>
          go_wp2_with fail
          refine (E.lessAt sk (F + root) (F + (2 * root + 1)) (by omega) (by omega) (by omega) (by omega) hG).mono ?_
          rintro e w2 ⟨rfl, s2, -⟩
          go_wp2_with fail
          first | go_end0 | ((try simp only [Exit.inBlock, Exit.then]); refine bodyPost_ret (results_none rfl _ _ _) rfl ?_)
          exact ⟨rfl, by rw [← HE.out, Sort.sd_left_stop ltS dk (by omega) (fun h => absurd h h1) hG]; exact s2⟩

end Go.Proofs.Ybulkbqzo
