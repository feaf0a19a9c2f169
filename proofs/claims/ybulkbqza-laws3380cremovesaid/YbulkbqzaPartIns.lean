/-
  Seat b3380a. slices.partialInsertionSortOrdered at uint32.
-/
import Derived.Test.YbulkbqzaIns
import Derived.Sort.WalkA6
namespace Go.Proofs.Ybulkbqza
open Go.RowKit
open Go.Sort (ltInt)
set_option linter.unusedVariables false

set_option maxHeartbeats 8000000 in
set_option maxRecDepth 100000 in
theorem partialInsertionSort_calls (rb ro n cap : Nat) (hsz : n < 4611686018427387904) (a b : Nat) (d : Array Int) (w0 w : World) (st : St rb ro n w0 d w) (hab : a < b) (hb : b ≤ n) :
    Calls Yba.prog 31 #[.slice (some ⟨rb, ro, none⟩) n cap, .int .i64 a, .int .i64 b] w fun e w' => e = .returned (.bool (Sort.partialInsertionSort ltInt d a b).2) ∧ St rb ro n w0 (Sort.partialInsertionSort ltInt d a b).1 w' := by
  go_enter Yba.func31, Yba.ntmps31
  go_wp2_with fail
  go_loopg [7, 8] 5 (fun g1 vi vs wr => ∃ (i s : Nat) (dk : Array Int), vi = .int .i64 i ∧ vs = .int .i64 s ∧ s ≤ 5 ∧ 5 - s ≤ g1 ∧ a < i ∧ i ≤ b ∧ St rb ro n w0 dk wr ∧ Hid (Sort.partialIns ltInt a b (5 - s) i dk = Sort.partialIns ltInt a b 5 (a + 1) d))
  case atStart => exact ⟨a + 1, 0, d, by go_num, rfl, by omega, by omega, by omega, by omega, st, rfl⟩
  case round =>
    obtain ⟨i, s, dk, rfl, rfl, hs5, hg1, hai, hib, sk, HO⟩ := hrel
    by_cases hs : s < 5
    · have hsz5 : (s : Int) < 5 := by omega
      go_wp2_with fail
      go_loopg [7] (b - i) (fun g2 vi wr2 => ∃ (kx : Nat), vi = .int .i64 kx ∧ i ≤ kx ∧ kx ≤ b ∧ b - kx ≤ g2 ∧ St rb ro n w0 dk wr2 ∧ Hid (Sort.scanSorted ltInt dk b kx = Sort.scanSorted ltInt dk b i))
      case atStart => exact ⟨i, rfl, Nat.le_refl _, hib, Nat.le_refl _, sk, rfl⟩
      case round =>
        obtain ⟨kx, rfl, hik, hkb, hg2, sk2, HSc⟩ := hrel
        by_cases hkb' : kx < b
        · have hkz : (kx : Int) < (b : Int) := by omega
          obtain ⟨G, hG, hcw, hfw⟩ := sk2.fam
          have HG : Hid (∀ t, G t = dk[t]!) := hG
          have SU : Hid (St rb ro n w0 dk wr) := sk2
          clear hG
          cases hlv : ltInt (G kx) (G (kx - 1)) with
          | false =>
            have hlvd : ltInt dk[kx]! dk[kx - 1]! = false := by rw [← HG.out, ← HG.out]; exact hlv
            have HHLV : Hid _ := hlvd
            clear hlvd
            go_wp2_with fail
            go_quiet (first | (go_at_call 32; refine Calls.quiet_of_same (less_calls _ _ _)))
            have SU2 : Hid (St rb ro n w0 dk (wr.drewN nq)) := SU.out.drewN nq
            have hcw2 : ∀ t, t < n → (wr.drewN nq).cell? ⟨rb, ro + t, none⟩ = some (.int .u32 (G t)) := hcw
            have hfw2 : ∀ t, t < n → (wr.drewN nq).frozen? ⟨rb, ro + t, none⟩ = false := hfw
            clear hcw hfw SU sk2
            generalize wr.drewN nq = w1 at *
            have s1 := SU2.out
            go_wp2_with fail
            go_roundg (b - (kx + 1))
            case measure => omega
            case rel => exact ⟨kx + 1, by go_num, by omega, by omega, Nat.le_refl _, s1, (show Hid _ from by rw [← HSc.out, scanSorted_go ltInt dk b kx hkb' HHLV.out]; exact rfl)⟩
          | true =>
            have hlvd : ltInt dk[kx]! dk[kx - 1]! = true := by rw [← HG.out, ← HG.out]; exact hlv
            have HHLV : Hid _ := hlvd
            clear hlvd
            have HK : Hid (Sort.scanSorted ltInt dk b i = kx) := by show _ = _; rw [← HSc.out, scanSorted_stop ltInt dk b kx (Or.inr HHLV.out)]
            have hkne : ((kx : Int) == (b : Int)) = false := beq_eq_false_iff_ne.2 (by omega)
            by_cases h50 : b - a < 50
            · have h50z : (b : Int) - (a : Int) < 50 := by omega
              go_wp2_with fail
              go_quiet (first | (go_at_call 32; refine Calls.quiet_of_same (less_calls _ _ _)))
              have SU2 : Hid (St rb ro n w0 dk (wr.drewN nq)) := SU.out.drewN nq
              have hcw2 : ∀ t, t < n → (wr.drewN nq).cell? ⟨rb, ro + t, none⟩ = some (.int .u32 (G t)) := hcw
              have hfw2 : ∀ t, t < n → (wr.drewN nq).frozen? ⟨rb, ro + t, none⟩ = false := hfw
              clear hcw hfw SU sk2
              generalize wr.drewN nq = w1 at *
              have s1 := SU2.out
              go_wp2_with fail
              have hv : Sort.partialInsertionSort ltInt d a b = (dk, false) := by
                unfold Sort.partialInsertionSort
                rw [← HO.out, pi_short ltInt a b s i dk hs (by rw [HK.out]; omega) h50]
              rw [hv]
              go_ret
              exact ⟨rfl, s1⟩
            · have h50z : ¬ ((b : Int) - (a : Int) < 50) := by omega
              by_cases hka : kx - a ≥ 2
              · have hkaz : (2 : Int) ≤ (kx : Int) - (a : Int) := by omega
                go_wp2_with fail
                go_quiet (first | (go_at_call 32; refine Calls.quiet_of_same (less_calls _ _ _)))
                have SU2 : Hid (St rb ro n w0 dk (wr.drewN nq)) := SU.out.drewN nq
                have hcw2 : ∀ t, t < n → (wr.drewN nq).cell? ⟨rb, ro + t, none⟩ = some (.int .u32 (G t)) := hcw
                have hfw2 : ∀ t, t < n → (wr.drewN nq).frozen? ⟨rb, ro + t, none⟩ = false := hfw
                clear hcw hfw SU sk2
                generalize wr.drewN nq = w1 at *
                have s1 := SU2.out
                go_wp2_with fail
                clear s1
                go_region
                all_goals go_wp2_with fail
                have s2 := (SU2.out.swapped kx (kx - 1) (by omega) (by omega)).drew
                rw [← HG.out, ← HG.out] at s2
                clear hcw2 hfw2
                go_loopg [9] (kx - 1) (fun g3 vj wr3 => ∃ (j : Nat) (dj : Array Int), vj = .int .i64 j ∧ j ≤ kx - 1 ∧ j ≤ g3 ∧ St rb ro n w0 dj wr3 ∧ Hid (Sort.shiftDown ltInt j dj = Sort.shiftDown ltInt (kx - 1) (Sort.swp dk kx (kx - 1))))
                case atStart => exact ⟨kx - 1, _, by congr 1; omega, Nat.le_refl _, Nat.le_refl _, s2, rfl⟩
                case round =>
                  obtain ⟨j, dj, rfl, hjk, hg3, sj, HDn⟩ := hrel
                  by_cases hj1 : 1 ≤ j
                  · have hj1z : (1 : Int) ≤ (j : Int) := by omega
                    obtain ⟨G, hG, hcw, hfw⟩ := sj.fam
                    have HG : Hid (∀ t, G t = dj[t]!) := hG
                    have SU : Hid (St rb ro n w0 dj wr) := sj
                    clear hG
                    cases hlv2 : ltInt (G j) (G (j - 1)) with
                    | true =>
                      have hlv2d : ltInt dj[j]! dj[j - 1]! = true := by rw [← HG.out, ← HG.out]; exact hlv2
                      have HHLV2 : Hid _ := hlv2d
                      clear hlv2d
                      go_wp2_with fail
                      go_quiet (first | (go_at_call 32; refine Calls.quiet_of_same (less_calls _ _ _)))
                      have SU2 : Hid (St rb ro n w0 dj (wr.drewN nq)) := SU.out.drewN nq
                      have hcw2 : ∀ t, t < n → (wr.drewN nq).cell? ⟨rb, ro + t, none⟩ = some (.int .u32 (G t)) := hcw
                      have hfw2 : ∀ t, t < n → (wr.drewN nq).frozen? ⟨rb, ro + t, none⟩ = false := hfw
                      clear hcw hfw SU sj
                      generalize wr.drewN nq = w3 at *
                      have sj3 := SU2.out
                      go_wp2_with fail
                      clear sj3
                      go_region
                      all_goals go_wp2_with fail
                      have sj4 := (SU2.out.swapped j (j - 1) (by omega) (by omega)).drew
                      rw [← HG.out, ← HG.out] at sj4
                      clear hcw2 hfw2
                      go_roundg (j - 1)
                      case measure => omega
                      case rel => exact ⟨j - 1, _, by congr 1; omega, by omega, Nat.le_refl _, sj4, (show Hid _ from by rw [← HDn.out, shiftDown_go ltInt j dj hj1 HHLV2.out]; exact rfl)⟩
                    | false =>
                      have hlv2d : ltInt dj[j]! dj[j - 1]! = false := by rw [← HG.out, ← HG.out]; exact hlv2
                      have HHLV2 : Hid _ := hlv2d
                      clear hlv2d
                      have HD : Hid (Sort.fixDown ltInt a kx (Sort.swp dk kx (kx - 1)) = dj) := by show _ = _; unfold Sort.fixDown; rw [if_pos hka, ← HDn.out, shiftDown_stop ltInt j dj (Or.inr HHLV2.out)]
                      by_cases hbk : b - kx ≥ 2
                      · have hbkz : (2 : Int) ≤ (b : Int) - (kx : Int) := by omega
                        go_wp2_with fail
                        go_quiet (first | (go_at_call 32; refine Calls.quiet_of_same (less_calls _ _ _)))
                        have SU2 : Hid (St rb ro n w0 dj (wr.drewN nq)) := SU.out.drewN nq
                        have hcw2 : ∀ t, t < n → (wr.drewN nq).cell? ⟨rb, ro + t, none⟩ = some (.int .u32 (G t)) := hcw
                        have hfw2 : ∀ t, t < n → (wr.drewN nq).frozen? ⟨rb, ro + t, none⟩ = false := hfw
                        clear hcw hfw SU sj
                        generalize wr.drewN nq = w3 at *
                        have sj3 := SU2.out
                        go_wp2_with fail
                        go_loopg [10] (b - (kx + 1)) (fun g4 vj wr4 => ∃ (ju : Nat) (du : Array Int), vj = .int .i64 ju ∧ kx + 1 ≤ ju ∧ ju ≤ b ∧ b - ju ≤ g4 ∧ St rb ro n w0 du wr4 ∧ Hid (Sort.shiftUp ltInt b ju du = Sort.shiftUp ltInt b (kx + 1) dj))
                        case atStart => exact ⟨kx + 1, dj, by go_num, Nat.le_refl _, by omega, Nat.le_refl _, sj3, rfl⟩
                        case round =>
                          obtain ⟨ju, du, rfl, hkj, hjb, hg4, su, HU⟩ := hrel
                          by_cases hjb' : ju < b
                          · have hjz : (ju : Int) < (b : Int) := by omega
                            obtain ⟨G, hG, hcw, hfw⟩ := su.fam
                            have HG : Hid (∀ t, G t = du[t]!) := hG
                            have SU : Hid (St rb ro n w0 du wr) := su
                            clear hG
                            cases hlv3 : ltInt (G ju) (G (ju - 1)) with
                            | true =>
                              have hlv3d : ltInt du[ju]! du[ju - 1]! = true := by rw [← HG.out, ← HG.out]; exact hlv3
                              have HHLV3 : Hid _ := hlv3d
                              clear hlv3d
                              go_wp2_with fail
                              go_quiet (first | (go_at_call 32; refine Calls.quiet_of_same (less_calls _ _ _)))
                              have SU2 : Hid (St rb ro n w0 du (wr.drewN nq)) := SU.out.drewN nq
                              have hcw2 : ∀ t, t < n → (wr.drewN nq).cell? ⟨rb, ro + t, none⟩ = some (.int .u32 (G t)) := hcw
                              have hfw2 : ∀ t, t < n → (wr.drewN nq).frozen? ⟨rb, ro + t, none⟩ = false := hfw
                              clear hcw hfw SU su
                              generalize wr.drewN nq = w5 at *
                              have su5 := SU2.out
                              go_wp2_with fail
                              clear su5
                              go_region
                              all_goals go_wp2_with fail
                              have su6 := (SU2.out.swapped ju (ju - 1) (by omega) (by omega)).drew
                              rw [← HG.out, ← HG.out] at su6
                              clear hcw2 hfw2
                              go_roundg (b - (ju + 1))
                              case measure => omega
                              case rel => exact ⟨ju + 1, _, by go_num, by omega, by omega, Nat.le_refl _, su6, (show Hid _ from by rw [← HU.out, shiftUp_go ltInt b ju du hjb' HHLV3.out]; exact rfl)⟩
                            | false =>
                              have hlv3d : ltInt du[ju]! du[ju - 1]! = false := by rw [← HG.out, ← HG.out]; exact hlv3
                              have HHLV3 : Hid _ := hlv3d
                              clear hlv3d
                              go_wp2_with fail
                              go_quiet (first | (go_at_call 32; refine Calls.quiet_of_same (less_calls _ _ _)))
                              have SU2 : Hid (St rb ro n w0 du (wr.drewN nq)) := SU.out.drewN nq
                              have hcw2 : ∀ t, t < n → (wr.drewN nq).cell? ⟨rb, ro + t, none⟩ = some (.int .u32 (G t)) := hcw
                              have hfw2 : ∀ t, t < n → (wr.drewN nq).frozen? ⟨rb, ro + t, none⟩ = false := hfw
                              clear hcw hfw SU su
                              generalize wr.drewN nq = w5 at *
                              have su5 := SU2.out
                              go_wp2_with fail
                              go_roundg (5 - (s + 1))
                              case measure => omega
                              case rel => exact ⟨kx, s + 1, du, rfl, by go_num, by omega, Nat.le_refl _, by omega, by omega, su5, (show Hid _ from by rw [← HO.out, pi_go ltInt a b s i kx dk hs HK.out (by omega) h50, HD.out, show Sort.fixUp ltInt b kx dj = du from by unfold Sort.fixUp; rw [if_pos hbk, ← HU.out, shiftUp_stop ltInt b ju du (Or.inr HHLV3.out)]]; exact rfl)⟩
                          · have hjz : ¬ (ju : Int) < (b : Int) := by omega
                            go_wp2_with fail
                            go_roundg (5 - (s + 1))
                            case measure => omega
                            case rel => exact ⟨kx, s + 1, du, rfl, by go_num, by omega, Nat.le_refl _, by omega, by omega, su, (show Hid _ from by rw [← HO.out, pi_go ltInt a b s i kx dk hs HK.out (by omega) h50, HD.out, show Sort.fixUp ltInt b kx dj = du from by unfold Sort.fixUp; rw [if_pos hbk, ← HU.out, shiftUp_stop ltInt b ju du (Or.inl hjb')]]; exact rfl)⟩
                      · have hbkz : ¬ (2 : Int) ≤ (b : Int) - (kx : Int) := by omega
                        go_wp2_with fail
                        go_quiet (first | (go_at_call 32; refine Calls.quiet_of_same (less_calls _ _ _)))
                        have SU2 : Hid (St rb ro n w0 dj (wr.drewN nq)) := SU.out.drewN nq
                        have hcw2 : ∀ t, t < n → (wr.drewN nq).cell? ⟨rb, ro + t, none⟩ = some (.int .u32 (G t)) := hcw
                        have hfw2 : ∀ t, t < n → (wr.drewN nq).frozen? ⟨rb, ro + t, none⟩ = false := hfw
                        clear hcw hfw SU sj
                        generalize wr.drewN nq = w3 at *
                        have sj3 := SU2.out
                        go_wp2_with fail
                        go_roundg (5 - (s + 1))
                        case measure => omega
                        case rel => exact ⟨kx, s + 1, dj, rfl, by go_num, by omega, Nat.le_refl _, by omega, by omega, sj3, (show Hid _ from by rw [← HO.out, pi_go ltInt a b s i kx dk hs HK.out (by omega) h50, HD.out, show Sort.fixUp ltInt b kx dj = dj from by unfold Sort.fixUp; rw [if_neg hbk]]; exact rfl)⟩
                  · have hj1z : ¬ (1 : Int) ≤ (j : Int) := by omega
                    have HD : Hid (Sort.fixDown ltInt a kx (Sort.swp dk kx (kx - 1)) = dj) := by show _ = _; unfold Sort.fixDown; rw [if_pos hka, ← HDn.out, shiftDown_stop ltInt j dj (Or.inl (by omega))]
                    by_cases hbk : b - kx ≥ 2
                    · have hbkz : (2 : Int) ≤ (b : Int) - (kx : Int) := by omega
                      go_wp2_with fail
                      go_loopg [10] (b - (kx + 1)) (fun g4 vj wr4 => ∃ (ju : Nat) (du : Array Int), vj = .int .i64 ju ∧ kx + 1 ≤ ju ∧ ju ≤ b ∧ b - ju ≤ g4 ∧ St rb ro n w0 du wr4 ∧ Hid (Sort.shiftUp ltInt b ju du = Sort.shiftUp ltInt b (kx + 1) dj))
                      case atStart => exact ⟨kx + 1, dj, by go_num, Nat.le_refl _, by omega, Nat.le_refl _, sj, rfl⟩
                      case round =>
                        obtain ⟨ju, du, rfl, hkj, hjb, hg4, su, HU⟩ := hrel
                        by_cases hjb' : ju < b
                        · have hjz : (ju : Int) < (b : Int) := by omega
                          obtain ⟨G, hG, hcw, hfw⟩ := su.fam
                          have HG : Hid (∀ t, G t = du[t]!) := hG
                          have SU : Hid (St rb ro n w0 du wr) := su
                          clear hG
                          cases hlv3 : ltInt (G ju) (G (ju - 1)) with
                          | true =>
                            have hlv3d : ltInt du[ju]! du[ju - 1]! = true := by rw [← HG.out, ← HG.out]; exact hlv3
                            have HHLV3 : Hid _ := hlv3d
                            clear hlv3d
                            go_wp2_with fail
                            go_quiet (first | (go_at_call 32; refine Calls.quiet_of_same (less_calls _ _ _)))
                            have SU2 : Hid (St rb ro n w0 du (wr.drewN nq)) := SU.out.drewN nq
                            have hcw2 : ∀ t, t < n → (wr.drewN nq).cell? ⟨rb, ro + t, none⟩ = some (.int .u32 (G t)) := hcw
                            have hfw2 : ∀ t, t < n → (wr.drewN nq).frozen? ⟨rb, ro + t, none⟩ = false := hfw
                            clear hcw hfw SU su
                            generalize wr.drewN nq = w5 at *
                            have su5 := SU2.out
                            go_wp2_with fail
                            clear su5
                            go_region
                            all_goals go_wp2_with fail
                            have su6 := (SU2.out.swapped ju (ju - 1) (by omega) (by omega)).drew
                            rw [← HG.out, ← HG.out] at su6
                            clear hcw2 hfw2
                            go_roundg (b - (ju + 1))
                            case measure => omega
                            case rel => exact ⟨ju + 1, _, by go_num, by omega, by omega, Nat.le_refl _, su6, (show Hid _ from by rw [← HU.out, shiftUp_go ltInt b ju du hjb' HHLV3.out]; exact rfl)⟩
                          | false =>
                            have hlv3d : ltInt du[ju]! du[ju - 1]! = false := by rw [← HG.out, ← HG.out]; exact hlv3
                            have HHLV3 : Hid _ := hlv3d
                            clear hlv3d
                            go_wp2_with fail
                            go_quiet (first | (go_at_call 32; refine Calls.quiet_of_same (less_calls _ _ _)))
                            have SU2 : Hid (St rb ro n w0 du (wr.drewN nq)) := SU.out.drewN nq
                            have hcw2 : ∀ t, t < n → (wr.drewN nq).cell? ⟨rb, ro + t, none⟩ = some (.int .u32 (G t)) := hcw
                            have hfw2 : ∀ t, t < n → (wr.drewN nq).frozen? ⟨rb, ro + t, none⟩ = false := hfw
                            clear hcw hfw SU su
                            generalize wr.drewN nq = w5 at *
                            have su5 := SU2.out
                            go_wp2_with fail
                            go_roundg (5 - (s + 1))
                            case measure => omega
                            case rel => exact ⟨kx, s + 1, du, rfl, by go_num, by omega, Nat.le_refl _, by omega, by omega, su5, (show Hid _ from by rw [← HO.out, pi_go ltInt a b s i kx dk hs HK.out (by omega) h50, HD.out, show Sort.fixUp ltInt b kx dj = du from by unfold Sort.fixUp; rw [if_pos hbk, ← HU.out, shiftUp_stop ltInt b ju du (Or.inr HHLV3.out)]]; exact rfl)⟩
                        · have hjz : ¬ (ju : Int) < (b : Int) := by omega
                          go_wp2_with fail
                          go_roundg (5 - (s + 1))
                          case measure => omega
                          case rel => exact ⟨kx, s + 1, du, rfl, by go_num, by omega, Nat.le_refl _, by omega, by omega, su, (show Hid _ from by rw [← HO.out, pi_go ltInt a b s i kx dk hs HK.out (by omega) h50, HD.out, show Sort.fixUp ltInt b kx dj = du from by unfold Sort.fixUp; rw [if_pos hbk, ← HU.out, shiftUp_stop ltInt b ju du (Or.inl hjb')]]; exact rfl)⟩
                    · have hbkz : ¬ (2 : Int) ≤ (b : Int) - (kx : Int) := by omega
                      go_wp2_with fail
                      go_roundg (5 - (s + 1))
                      case measure => omega
                      case rel => exact ⟨kx, s + 1, dj, rfl, by go_num, by omega, Nat.le_refl _, by omega, by omega, sj, (show Hid _ from by rw [← HO.out, pi_go ltInt a b s i kx dk hs HK.out (by omega) h50, HD.out, show Sort.fixUp ltInt b kx dj = dj from by unfold Sort.fixUp; rw [if_neg hbk]]; exact rfl)⟩
              · have hkaz : ¬ (2 : Int) ≤ (kx : Int) - (a : Int) := by omega
                have HD : Hid (Sort.fixDown ltInt a kx (Sort.swp dk kx (kx - 1)) = (Sort.swp dk kx (kx - 1))) := by show _ = _; unfold Sort.fixDown; rw [if_neg hka]
                by_cases hbk : b - kx ≥ 2
                · have hbkz : (2 : Int) ≤ (b : Int) - (kx : Int) := by omega
                  go_wp2_with fail
                  go_quiet (first | (go_at_call 32; refine Calls.quiet_of_same (less_calls _ _ _)))
                  have SU2 : Hid (St rb ro n w0 dk (wr.drewN nq)) := SU.out.drewN nq
                  have hcw2 : ∀ t, t < n → (wr.drewN nq).cell? ⟨rb, ro + t, none⟩ = some (.int .u32 (G t)) := hcw
                  have hfw2 : ∀ t, t < n → (wr.drewN nq).frozen? ⟨rb, ro + t, none⟩ = false := hfw
                  clear hcw hfw SU sk2
                  generalize wr.drewN nq = w1 at *
                  have s1 := SU2.out
                  go_wp2_with fail
                  clear s1
                  go_region
                  all_goals go_wp2_with fail
                  have s2 := (SU2.out.swapped kx (kx - 1) (by omega) (by omega)).drew
                  rw [← HG.out, ← HG.out] at s2
                  clear hcw2 hfw2
                  go_loopg [10] (b - (kx + 1)) (fun g4 vj wr4 => ∃ (ju : Nat) (du : Array Int), vj = .int .i64 ju ∧ kx + 1 ≤ ju ∧ ju ≤ b ∧ b - ju ≤ g4 ∧ St rb ro n w0 du wr4 ∧ Hid (Sort.shiftUp ltInt b ju du = Sort.shiftUp ltInt b (kx + 1) (Sort.swp dk kx (kx - 1))))
                  case atStart => exact ⟨kx + 1, (Sort.swp dk kx (kx - 1)), by go_num, Nat.le_refl _, by omega, Nat.le_refl _, s2, rfl⟩
                  case round =>
                    obtain ⟨ju, du, rfl, hkj, hjb, hg4, su, HU⟩ := hrel
                    by_cases hjb' : ju < b
                    · have hjz : (ju : Int) < (b : Int) := by omega
                      obtain ⟨G, hG, hcw, hfw⟩ := su.fam
                      have HG : Hid (∀ t, G t = du[t]!) := hG
                      have SU : Hid (St rb ro n w0 du wr) := su
                      clear hG
                      cases hlv3 : ltInt (G ju) (G (ju - 1)) with
                      | true =>
                        have hlv3d : ltInt du[ju]! du[ju - 1]! = true := by rw [← HG.out, ← HG.out]; exact hlv3
                        have HHLV3 : Hid _ := hlv3d
                        clear hlv3d
                        go_wp2_with fail
                        go_quiet (first | (go_at_call 32; refine Calls.quiet_of_same (less_calls _ _ _)))
                        have SU2 : Hid (St rb ro n w0 du (wr.drewN nq)) := SU.out.drewN nq
                        have hcw2 : ∀ t, t < n → (wr.drewN nq).cell? ⟨rb, ro + t, none⟩ = some (.int .u32 (G t)) := hcw
                        have hfw2 : ∀ t, t < n → (wr.drewN nq).frozen? ⟨rb, ro + t, none⟩ = false := hfw
                        clear hcw hfw SU su
                        generalize wr.drewN nq = w5 at *
                        have su5 := SU2.out
                        go_wp2_with fail
                        clear su5
                        go_region
                        all_goals go_wp2_with fail
                        have su6 := (SU2.out.swapped ju (ju - 1) (by omega) (by omega)).drew
                        rw [← HG.out, ← HG.out] at su6
                        clear hcw2 hfw2
                        go_roundg (b - (ju + 1))
                        case measure => omega
                        case rel => exact ⟨ju + 1, _, by go_num, by omega, by omega, Nat.le_refl _, su6, (show Hid _ from by rw [← HU.out, shiftUp_go ltInt b ju du hjb' HHLV3.out]; exact rfl)⟩
                      | false =>
                        have hlv3d : ltInt du[ju]! du[ju - 1]! = false := by rw [← HG.out, ← HG.out]; exact hlv3
                        have HHLV3 : Hid _ := hlv3d
                        clear hlv3d
                        go_wp2_with fail
                        go_quiet (first | (go_at_call 32; refine Calls.quiet_of_same (less_calls _ _ _)))
                        have SU2 : Hid (St rb ro n w0 du (wr.drewN nq)) := SU.out.drewN nq
                        have hcw2 : ∀ t, t < n → (wr.drewN nq).cell? ⟨rb, ro + t, none⟩ = some (.int .u32 (G t)) := hcw
                        have hfw2 : ∀ t, t < n → (wr.drewN nq).frozen? ⟨rb, ro + t, none⟩ = false := hfw
                        clear hcw hfw SU su
                        generalize wr.drewN nq = w5 at *
                        have su5 := SU2.out
                        go_wp2_with fail
                        go_roundg (5 - (s + 1))
                        case measure => omega
                        case rel => exact ⟨kx, s + 1, du, rfl, by go_num, by omega, Nat.le_refl _, by omega, by omega, su5, (show Hid _ from by rw [← HO.out, pi_go ltInt a b s i kx dk hs HK.out (by omega) h50, HD.out, show Sort.fixUp ltInt b kx (Sort.swp dk kx (kx - 1)) = du from by unfold Sort.fixUp; rw [if_pos hbk, ← HU.out, shiftUp_stop ltInt b ju du (Or.inr HHLV3.out)]]; exact rfl)⟩
                    · have hjz : ¬ (ju : Int) < (b : Int) := by omega
                      go_wp2_with fail
                      go_roundg (5 - (s + 1))
                      case measure => omega
                      case rel => exact ⟨kx, s + 1, du, rfl, by go_num, by omega, Nat.le_refl _, by omega, by omega, su, (show Hid _ from by rw [← HO.out, pi_go ltInt a b s i kx dk hs HK.out (by omega) h50, HD.out, show Sort.fixUp ltInt b kx (Sort.swp dk kx (kx - 1)) = du from by unfold Sort.fixUp; rw [if_pos hbk, ← HU.out, shiftUp_stop ltInt b ju du (Or.inl hjb')]]; exact rfl)⟩
                · exfalso; omega
        · obtain rfl : kx = b := by omega
          have hkz : decide ((kx : Int) < (kx : Int)) = false := decide_eq_false (by omega)
          go_wp2_with fail
          go_quiet (first | (go_at_call 32; refine Calls.quiet_of_same (less_calls _ _ _)))
          go_wp2_with fail
          have hv : Sort.partialInsertionSort ltInt d a kx = (dk, true) := by
            unfold Sort.partialInsertionSort
            rw [← HO.out, pi_true ltInt a kx s i dk hs (by rw [← HSc.out, scanSorted_stop ltInt dk kx kx (Or.inl (by omega))])]
          rw [hv]
          go_ret
          exact ⟨rfl, sk2.drewN nq⟩
    · obtain rfl : s = 5 := by omega
      go_wp2_with fail
      have hv : Sort.partialInsertionSort ltInt d a b = (dk, false) := by
        unfold Sort.partialInsertionSort
        rw [← HO.out, pi_end]
      rw [hv]
      go_ret
      exact ⟨rfl, sk⟩

end Go.Proofs.Ybulkbqza
