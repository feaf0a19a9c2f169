/-
  Seat b3381a. sort.partialInsertionSort.
-/
import Derived.Test.YbulkbqzoEnv
import Derived.Sort.WalkA6
namespace Go.Proofs.Ybulkbqzo
open Go.RowKit
set_option linter.unusedVariables false

set_option maxHeartbeats 8000000 in
set_option maxRecDepth 100000 in
theorem partialInsertionSort_calls {rv : Value} {bh bc n : Nat} (E : Env rv bh bc n) (a b : Nat) (d : Array HC) (w0 w : World) (st : St bh bc n w0 d w) (hab : a < b) (hb : b ≤ n) :
    Calls Yba.prog 16 #[.iface 45 rv, .int .i64 a, .int .i64 b] w fun e w' => e = .returned (.bool (Sort.partialInsertionSort ltS d a b).2) ∧ St bh bc n w0 (Sort.partialInsertionSort ltS d a b).1 w' := by
  have mL := E.mL
  have mS := E.mS
  have hsz := E.small
  go_enter Yba.func16, Yba.ntmps16
  go_wp2_with fail
  go_loopg [7, 8] 5 (fun g1 vi vs wr => ∃ (i s : Nat) (dk : Array HC), vi = .int .i64 i ∧ vs = .int .i64 s ∧ s ≤ 5 ∧ 5 - s ≤ g1 ∧ a < i ∧ i ≤ b ∧ St bh bc n w0 dk wr ∧ Hid (Sort.partialIns ltS a b (5 - s) i dk = Sort.partialIns ltS a b 5 (a + 1) d))
  case atStart => exact ⟨a + 1, 0, d, by go_num, rfl, by omega, by omega, by omega, by omega, st, rfl⟩
  case round =>
    obtain ⟨i, s, dk, rfl, rfl, hs5, hg1, hai, hib, sk, HO⟩ := hrel
    by_cases hs : s < 5
    · have hsz5 : (s : Int) < 5 := by omega
      go_wp2_with fail
      go_loopg [7] (b - i) (fun g2 vi wr2 => ∃ (kx : Nat), vi = .int .i64 kx ∧ i ≤ kx ∧ kx ≤ b ∧ b - kx ≤ g2 ∧ St bh bc n w0 dk wr2 ∧ Hid (Sort.scanSorted ltS dk b kx = Sort.scanSorted ltS dk b i))
      case atStart => exact ⟨i, rfl, Nat.le_refl _, hib, Nat.le_refl _, sk, rfl⟩
      case round =>
        obtain ⟨kx, rfl, hik, hkb, hg2, sk2, HSc⟩ := hrel
        by_cases hkb' : kx < b
        · have hkz : (kx : Int) < (b : Int) := by omega
          cases hlv : ltS dk[kx]! dk[kx - 1]! with
          | false =>
            go_wp2_with fail
            refine (E.lessAt sk2 kx (kx - 1) (by omega) (by omega) rfl (by omega) hlv).mono ?_
            rintro e w1 ⟨rfl, s1, -⟩
            go_wp2_with fail
            go_roundg (b - (kx + 1))
            case measure => omega
            case rel => exact ⟨kx + 1, by go_num, by omega, by omega, Nat.le_refl _, s1, (show Hid _ from by rw [← HSc.out, scanSorted_go ltS dk b kx hkb' hlv]; exact rfl)⟩
          | true =>
            have HK : Hid (Sort.scanSorted ltS dk b i = kx) := by show _ = _; rw [← HSc.out, scanSorted_stop ltS dk b kx (Or.inr hlv)]
            have hkne : ((kx : Int) == (b : Int)) = false := beq_eq_false_iff_ne.2 (by omega)
            by_cases h50 : b - a < 50
            · have h50z : (b : Int) - (a : Int) < 50 := by omega
              go_wp2_with fail
              refine (E.lessAt sk2 kx (kx - 1) (by omega) (by omega) rfl (by omega) hlv).mono ?_
              rintro e w1 ⟨rfl, s1, -⟩
              go_wp2_with fail
              have hv : Sort.partialInsertionSort ltS d a b = (dk, false) := by
                unfold Sort.partialInsertionSort
                rw [← HO.out, pi_short ltS a b s i dk hs (by rw [HK.out]; omega) h50]
              rw [hv]
              go_ret
              exact ⟨rfl, s1⟩
            · have h50z : ¬ ((b : Int) - (a : Int) < 50) := by omega
              by_cases hka : kx - a ≥ 2
              · have hkaz : (2 : Int) ≤ (kx : Int) - (a : Int) := by omega
                go_wp2_with fail
                refine (E.lessAt sk2 kx (kx - 1) (by omega) (by omega) rfl (by omega) hlv).mono ?_
                rintro e w1 ⟨rfl, s1, -⟩
                go_wp2_with fail
                refine (E.swapAt s1 kx (kx - 1) (by omega) (by omega) rfl (by omega)).mono ?_
                rintro e w2 ⟨rfl, s2, -⟩
                go_wp2_with fail
                go_loopg [9] (kx - 1) (fun g3 vj wr3 => ∃ (j : Nat) (dj : Array HC), vj = .int .i64 j ∧ j ≤ kx - 1 ∧ j ≤ g3 ∧ St bh bc n w0 dj wr3 ∧ Hid (Sort.shiftDown ltS j dj = Sort.shiftDown ltS (kx - 1) (Sort.swp dk kx (kx - 1))))
                case atStart => exact ⟨kx - 1, _, by congr 1; omega, Nat.le_refl _, Nat.le_refl _, s2, rfl⟩
                case round =>
                  obtain ⟨j, dj, rfl, hjk, hg3, sj, HDn⟩ := hrel
                  by_cases hj1 : 1 ≤ j
                  · have hj1z : (1 : Int) ≤ (j : Int) := by omega
                    cases hlv2 : ltS dj[j]! dj[j - 1]! with
                    | true =>
                      go_wp2_with fail
                      refine (E.lessAt sj j (j - 1) (by omega) (by omega) rfl (by omega) hlv2).mono ?_
                      rintro e w3 ⟨rfl, sj3, -⟩
                      go_wp2_with fail
                      refine (E.swapAt sj3 j (j - 1) (by omega) (by omega) rfl (by omega)).mono ?_
                      rintro e w4 ⟨rfl, sj4, -⟩
                      go_wp2_with fail
                      go_roundg (j - 1)
                      case measure => omega
                      case rel => exact ⟨j - 1, _, by congr 1; omega, by omega, Nat.le_refl _, sj4, (show Hid _ from by rw [← HDn.out, shiftDown_go ltS j dj hj1 hlv2]; exact rfl)⟩
                    | false =>
                      have HD : Hid (Sort.fixDown ltS a kx (Sort.swp dk kx (kx - 1)) = dj) := by show _ = _; unfold Sort.fixDown; rw [if_pos hka, ← HDn.out, shiftDown_stop ltS j dj (Or.inr hlv2)]
                      by_cases hbk : b - kx ≥ 2
                      · have hbkz : (2 : Int) ≤ (b : Int) - (kx : Int) := by omega
                        go_wp2_with fail
                        refine (E.lessAt sj j (j - 1) (by omega) (by omega) rfl (by omega) hlv2).mono ?_
                        rintro e w3 ⟨rfl, sj3, -⟩
                        go_wp2_with fail
                        go_loopg [10] (b - (kx + 1)) (fun g4 vj wr4 => ∃ (ju : Nat) (du : Array HC), vj = .int .i64 ju ∧ kx + 1 ≤ ju ∧ ju ≤ b ∧ b - ju ≤ g4 ∧ St bh bc n w0 du wr4 ∧ Hid (Sort.shiftUp ltS b ju du = Sort.shiftUp ltS b (kx + 1) dj))
                        case atStart => exact ⟨kx + 1, dj, by go_num, Nat.le_refl _, by omega, Nat.le_refl _, sj3, rfl⟩
                        case round =>
                          obtain ⟨ju, du, rfl, hkj, hjb, hg4, su, HU⟩ := hrel
                          by_cases hjb' : ju < b
                          · have hjz : (ju : Int) < (b : Int) := by omega
                            cases hlv3 : ltS du[ju]! du[ju - 1]! with
                            | true =>
                              go_wp2_with fail
                              refine (E.lessAt su ju (ju - 1) (by omega) (by omega) rfl (by omega) hlv3).mono ?_
                              rintro e w5 ⟨rfl, su5, -⟩
                              go_wp2_with fail
                              refine (E.swapAt su5 ju (ju - 1) (by omega) (by omega) rfl (by omega)).mono ?_
                              rintro e w6 ⟨rfl, su6, -⟩
                              go_wp2_with fail
                              go_roundg (b - (ju + 1))
                              case measure => omega
                              case rel => exact ⟨ju + 1, _, by go_num, by omega, by omega, Nat.le_refl _, su6, (show Hid _ from by rw [← HU.out, shiftUp_go ltS b ju du hjb' hlv3]; exact rfl)⟩
                            | false =>
                              go_wp2_with fail
                              refine (E.lessAt su ju (ju - 1) (by omega) (by omega) rfl (by omega) hlv3).mono ?_
                              rintro e w5 ⟨rfl, su5, -⟩
                              go_wp2_with fail
                              go_roundg (5 - (s + 1))
                              case measure => omega
                              case rel => exact ⟨kx, s + 1, du, rfl, by go_num, by omega, Nat.le_refl _, by omega, by omega, su5, (show Hid _ from by rw [← HO.out, pi_go ltS a b s i kx dk hs HK.out (by omega) h50, HD.out, show Sort.fixUp ltS b kx dj = du from by unfold Sort.fixUp; rw [if_pos hbk, ← HU.out, shiftUp_stop ltS b ju du (Or.inr hlv3)]]; exact rfl)⟩
                          · have hjz : ¬ (ju : Int) < (b : Int) := by omega
                            go_wp2_with fail
                            go_roundg (5 - (s + 1))
                            case measure => omega
                            case rel => exact ⟨kx, s + 1, du, rfl, by go_num, by omega, Nat.le_refl _, by omega, by omega, su, (show Hid _ from by rw [← HO.out, pi_go ltS a b s i kx dk hs HK.out (by omega) h50, HD.out, show Sort.fixUp ltS b kx dj = du from by unfold Sort.fixUp; rw [if_pos hbk, ← HU.out, shiftUp_stop ltS b ju du (Or.inl hjb')]]; exact rfl)⟩
                      · have hbkz : ¬ (2 : Int) ≤ (b : Int) - (kx : Int) := by omega
                        go_wp2_with fail
                        refine (E.lessAt sj j (j - 1) (by omega) (by omega) rfl (by omega) hlv2).mono ?_
                        rintro e w3 ⟨rfl, sj3, -⟩
                        go_wp2_with fail
                        go_roundg (5 - (s + 1))
                        case measure => omega
                        case rel => exact ⟨kx, s + 1, dj, rfl, by go_num, by omega, Nat.le_refl _, by omega, by omega, sj3, (show Hid _ from by rw [← HO.out, pi_go ltS a b s i kx dk hs HK.out (by omega) h50, HD.out, show Sort.fixUp ltS b kx dj = dj from by unfold Sort.fixUp; rw [if_neg hbk]]; exact rfl)⟩
                  · have hj1z : ¬ (1 : Int) ≤ (j : Int) := by omega
                    have HD : Hid (Sort.fixDown ltS a kx (Sort.swp dk kx (kx - 1)) = dj) := by show _ = _; unfold Sort.fixDown; rw [if_pos hka, ← HDn.out, shiftDown_stop ltS j dj (Or.inl (by omega))]
                    by_cases hbk : b - kx ≥ 2
                    · have hbkz : (2 : Int) ≤ (b : Int) - (kx : Int) := by omega
                      go_wp2_with fail
                      go_loopg [10] (b - (kx + 1)) (fun g4 vj wr4 => ∃ (ju : Nat) (du : Array HC), vj = .int .i64 ju ∧ kx + 1 ≤ ju ∧ ju ≤ b ∧ b - ju ≤ g4 ∧ St bh bc n w0 du wr4 ∧ Hid (Sort.shiftUp ltS b ju du = Sort.shiftUp ltS b (kx + 1) dj))
                      case atStart => exact ⟨kx + 1, dj, by go_num, Nat.le_refl _, by omega, Nat.le_refl _, sj, rfl⟩
                      case round =>
                        obtain ⟨ju, du, rfl, hkj, hjb, hg4, su, HU⟩ := hrel
                        by_cases hjb' : ju < b
                        · have hjz : (ju : Int) < (b : Int) := by omega
                          cases hlv3 : ltS du[ju]! du[ju - 1]! with
                          | true =>
                            go_wp2_with fail
                            refine (E.lessAt su ju (ju - 1) (by omega) (by omega) rfl (by omega) hlv3).mono ?_
                            rintro e w5 ⟨rfl, su5, -⟩
                            go_wp2_with fail
                            refine (E.swapAt su5 ju (ju - 1) (by omega) (by omega) rfl (by omega)).mono ?_
                            rintro e w6 ⟨rfl, su6, -⟩
                            go_wp2_with fail
                            go_roundg (b - (ju + 1))
                            case measure => omega
                            case rel => exact ⟨ju + 1, _, by go_num, by omega, by omega, Nat.le_refl _, su6, (show Hid _ from by rw [← HU.out, shiftUp_go ltS b ju du hjb' hlv3]; exact rfl)⟩
                          | false =>
                            go_wp2_with fail
                            refine (E.lessAt su ju (ju - 1) (by omega) (by omega) rfl (by omega) hlv3).mono ?_
                            rintro e w5 ⟨rfl, su5, -⟩
                            go_wp2_with fail
                            go_roundg (5 - (s + 1))
                            case measure => omega
                            case rel => exact ⟨kx, s + 1, du, rfl, by go_num, by omega, Nat.le_refl _, by omega, by omega, su5, (show Hid _ from by rw [← HO.out, pi_go ltS a b s i kx dk hs HK.out (by omega) h50, HD.out, show Sort.fixUp ltS b kx dj = du from by unfold Sort.fixUp; rw [if_pos hbk, ← HU.out, shiftUp_stop ltS b ju du (Or.inr hlv3)]]; exact rfl)⟩
                        · have hjz : ¬ (ju : Int) < (b : Int) := by omega
                          go_wp2_with fail
                          go_roundg (5 - (s + 1))
                          case measure => omega
                          case rel => exact ⟨kx, s + 1, du, rfl, by go_num, by omega, Nat.le_refl _, by omega, by omega, su, (show Hid _ from by rw [← HO.out, pi_go ltS a b s i kx dk hs HK.out (by omega) h50, HD.out, show Sort.fixUp ltS b kx dj = du from by unfold Sort.fixUp; rw [if_pos hbk, ← HU.out, shiftUp_stop ltS b ju du (Or.inl hjb')]]; exact rfl)⟩
                    · have hbkz : ¬ (2 : Int) ≤ (b : Int) - (kx : Int) := by omega
                      go_wp2_with fail
                      go_roundg (5 - (s + 1))
                      case measure => omega
                      case rel => exact ⟨kx, s + 1, dj, rfl, by go_num, by omega, Nat.le_refl _, by omega, by omega, sj, (show Hid _ from by rw [← HO.out, pi_go ltS a b s i kx dk hs HK.out (by omega) h50, HD.out, show Sort.fixUp ltS b kx dj = dj from by unfold Sort.fixUp; rw [if_neg hbk]]; exact rfl)⟩
              · have hkaz : ¬ (2 : Int) ≤ (kx : Int) - (a : Int) := by omega
                have HD : Hid (Sort.fixDown ltS a kx (Sort.swp dk kx (kx - 1)) = (Sort.swp dk kx (kx - 1))) := by show _ = _; unfold Sort.fixDown; rw [if_neg hka]
                by_cases hbk : b - kx ≥ 2
                · have hbkz : (2 : Int) ≤ (b : Int) - (kx : Int) := by omega
                  go_wp2_with fail
                  refine (E.lessAt sk2 kx (kx - 1) (by omega) (by omega) rfl (by omega) hlv).mono ?_
                  rintro e w1 ⟨rfl, s1, -⟩
                  go_wp2_with fail
                  refine (E.swapAt s1 kx (kx - 1) (by omega) (by omega) rfl (by omega)).mono ?_
                  rintro e w2 ⟨rfl, s2, -⟩
                  go_wp2_with fail
                  go_loopg [10] (b - (kx + 1)) (fun g4 vj wr4 => ∃ (ju : Nat) (du : Array HC), vj = .int .i64 ju ∧ kx + 1 ≤ ju ∧ ju ≤ b ∧ b - ju ≤ g4 ∧ St bh bc n w0 du wr4 ∧ Hid (Sort.shiftUp ltS b ju du = Sort.shiftUp ltS b (kx + 1) (Sort.swp dk kx (kx - 1))))
                  case atStart => exact ⟨kx + 1, (Sort.swp dk kx (kx - 1)), by go_num, Nat.le_refl _, by omega, Nat.le_refl _, s2, rfl⟩
                  case round =>
                    obtain ⟨ju, du, rfl, hkj, hjb, hg4, su, HU⟩ := hrel
                    by_cases hjb' : ju < b
                    · have hjz : (ju : Int) < (b : Int) := by omega
                      cases hlv3 : ltS du[ju]! du[ju - 1]! with
                      | true =>
                        go_wp2_with fail
                        refine (E.lessAt su ju (ju - 1) (by omega) (by omega) rfl (by omega) hlv3).mono ?_
                        rintro e w5 ⟨rfl, su5, -⟩
                        go_wp2_with fail
                        refine (E.swapAt su5 ju (ju - 1) (by omega) (by omega) rfl (by omega)).mono ?_
                        rintro e w6 ⟨rfl, su6, -⟩
                        go_wp2_with fail
                        go_roundg (b - (ju + 1))
                        case measure => omega
                        case rel => exact ⟨ju + 1, _, by go_num, by omega, by omega, Nat.le_refl _, su6, (show Hid _ from by rw [← HU.out, shiftUp_go ltS b ju du hjb' hlv3]; exact rfl)⟩
                      | false =>
                        go_wp2_with fail
                        refine (E.lessAt su ju (ju - 1) (by omega) (by omega) rfl (by omega) hlv3).mono ?_
                        rintro e w5 ⟨rfl, su5, -⟩
                        go_wp2_with fail
                        go_roundg (5 - (s + 1))
                        case measure => omega
                        case rel => exact ⟨kx, s + 1, du, rfl, by go_num, by omega, Nat.le_refl _, by omega, by omega, su5, (show Hid _ from by rw [← HO.out, pi_go ltS a b s i kx dk hs HK.out (by omega) h50, HD.out, show Sort.fixUp ltS b kx (Sort.swp dk kx (kx - 1)) = du from by unfold Sort.fixUp; rw [if_pos hbk, ← HU.out, shiftUp_stop ltS b ju du (Or.inr hlv3)]]; exact rfl)⟩
                    · have hjz : ¬ (ju : Int) < (b : Int) := by omega
                      go_wp2_with fail
                      go_roundg (5 - (s + 1))
                      case measure => omega
                      case rel => exact ⟨kx, s + 1, du, rfl, by go_num, by omega, Nat.le_refl _, by omega, by omega, su, (show Hid _ from by rw [← HO.out, pi_go ltS a b s i kx dk hs HK.out (by omega) h50, HD.out, show Sort.fixUp ltS b kx (Sort.swp dk kx (kx - 1)) = du from by unfold Sort.fixUp; rw [if_pos hbk, ← HU.out, shiftUp_stop ltS b ju du (Or.inl hjb')]]; exact rfl)⟩
                · exfalso; omega
        · obtain rfl : kx = b := by omega
          have hkz : ¬ (kx : Int) < (kx : Int) := by omega
          go_wp2_with fail
          have hv : Sort.partialInsertionSort ltS d a kx = (dk, true) := by
            unfold Sort.partialInsertionSort
            rw [← HO.out, pi_true ltS a kx s i dk hs (by rw [← HSc.out, scanSorted_stop ltS dk kx kx (Or.inl (by omega))])]
          rw [hv]
          go_ret
          exact ⟨rfl, sk2⟩
    · obtain rfl : s = 5 := by omega
      go_wp2_with fail
      have hv : Sort.partialInsertionSort ltS d a b = (dk, false) := by
        unfold Sort.partialInsertionSort
        rw [← HO.out, pi_end]
      rw [hv]
      go_ret
      exact ⟨rfl, sk⟩

end Go.Proofs.Ybulkbqzo
