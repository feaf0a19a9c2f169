/-
  Seat b3380a. slices.partitionEqualOrdered at uint32.
-/
import Derived.Test.YbulkbqzaHeapB
import Derived.Sort.WalkC
import Derived.Sort.WalkC4
namespace Go.Proofs.Ybulkbqza
open Go.RowKit
open Go.Sort (ltInt)
set_option linter.unusedVariables false
set_option linter.unusedSimpArgs false

set_option maxHeartbeats 8000000 in
set_option maxRecDepth 100000 in
theorem partitionEqual_calls (rb ro n cap : Nat) (hsz : n < 4611686018427387904) (a b pivot : Nat) (d : Array Int) (w0 w : World) (st : St rb ro n w0 d w) (hap : a ≤ pivot) (hpb : pivot < b) (hb : b ≤ n) :
    Calls Yba.prog 33 #[.slice (some ⟨rb, ro, none⟩) n cap, .int .i64 a, .int .i64 b, .int .i64 pivot] w fun e w' => e = .returned (.int .i64 (Sort.partitionEqual ltInt d a b pivot).1) ∧ St rb ro n w0 (Sort.partitionEqual ltInt d a b pivot).2 w' := by
  obtain ⟨G0, hG0, hcw0, hfw0⟩ := st.fam
  have HG0 : Hid (∀ t, G0 t = d[t]!) := hG0
  have S0 : Hid (St rb ro n w0 d w) := st
  clear hG0 st
  obtain ⟨v1, hv1⟩ := cell?_setCell_some (w := w) (p := ⟨rb, ro + a, none⟩) (x := .int .u32 (G0 pivot)) (q := ⟨rb, ro + pivot, none⟩) (hcw0 pivot (by omega))
  go_enter Yba.func33, Yba.ntmps33
  go_wp2_with fail
  go_region
  all_goals go_wp2_with fail
  have s1 := (S0.out.swapped a pivot (by omega) (by omega)).drew
  rw [← HG0.out, ← HG0.out] at s1
  clear hcw0 hfw0 hv1
  go_loopw [9, 10] (fun vi vj wr => ∃ (i j : Nat) (dk : Array Int), vi = .int .i64 i ∧ vj = .int .i64 j ∧ a < i ∧ i ≤ j + 1 ∧ j < b ∧ St rb ro n w0 dk wr ∧ Hid (Sort.partEqLoop ltInt a i j dk = Sort.partEqLoop ltInt a (a + 1) (b - 1) (Sort.swp d a pivot))) (fun vi vj _ => (intOf vj).toNat + 1 - (intOf vi).toNat)
  case atStart => exact ⟨a + 1, b - 1, _, by go_num, by go_num, by omega, by omega, by omega, s1, rfl⟩
  case round =>
    clear s1
    obtain ⟨i, j, dk, rfl, rfl, hai, hij, hjb, sk, AE⟩ := hrel
    go_wp2_with fail
    go_loopw [9] (fun vi w1 => ∃ (i' : Nat), vi = .int .i64 i' ∧ i ≤ i' ∧ i' ≤ j + 1 ∧ St rb ro n w0 dk w1 ∧ Hid (Sort.scanUp (fun x => !ltInt dk[a]! x) dk j i' = Sort.scanUp (fun x => !ltInt dk[a]! x) dk j i)) (fun vi _ => j + 1 - (intOf vi).toNat)
    case atStart => exact ⟨i, rfl, Nat.le_refl _, hij, sk, rfl⟩
    case round =>
      clear sk
      obtain ⟨i', rfl, hii, hij', su, hsc⟩ := hrel
      obtain ⟨G, hG, hcw, hfw⟩ := su.fam
      have HG : Hid (∀ t, G t = dk[t]!) := hG
      have SU : Hid (St rb ro n w0 dk wr) := su
      clear hG su
      by_cases hle : i' ≤ j
      · cases hlv : ltInt (G a) (G i') with
        | false =>
          have hlvd : ltInt dk[a]! dk[i']! = false := by rw [← HG.out, ← HG.out]; exact hlv
          have HL : Hid _ := hlvd
          clear hlvd
          go_wp2_with fail
          go_quiet (first | (go_at_call 32; refine Calls.quiet_of_same (less_calls _ _ _)))
          have SU2 : Hid (St rb ro n w0 dk (wr.drewN nq)) := SU.out.drewN nq
          have hcw2 : ∀ t, t < n → (wr.drewN nq).cell? ⟨rb, ro + t, none⟩ = some (.int .u32 (G t)) := hcw
          have hfw2 : ∀ t, t < n → (wr.drewN nq).frozen? ⟨rb, ro + t, none⟩ = false := hfw
          clear hcw hfw SU
          generalize wr.drewN nq = w2 at *
          go_wp2_with fail
          exact ⟨⟨i' + 1, by go_num, by omega, by omega, SU2.out, show _ = _ from (scanUp_go (fun x => !ltInt dk[a]! x) dk j i' hle (by simp [HL.out])).symm.trans hsc.out⟩, by simp [intOf]; omega⟩
        | true =>
          have hlvd : ltInt dk[a]! dk[i']! = true := by rw [← HG.out, ← HG.out]; exact hlv
          have hi2 : Hid (i' = Sort.scanUp (fun x => !ltInt dk[a]! x) dk j i) := (scanUp_end (fun x => !ltInt dk[a]! x) dk j i' (Or.inr (by simp [hlvd]))).symm.trans hsc.out
          clear hlvd
          go_wp2_with fail
          go_quiet (first | (go_at_call 32; refine Calls.quiet_of_same (less_calls _ _ _)))
          have SU2 : Hid (St rb ro n w0 dk (wr.drewN nq)) := SU.out.drewN nq
          have hcw2 : ∀ t, t < n → (wr.drewN nq).cell? ⟨rb, ro + t, none⟩ = some (.int .u32 (G t)) := hcw
          have hfw2 : ∀ t, t < n → (wr.drewN nq).frozen? ⟨rb, ro + t, none⟩ = false := hfw
          clear hcw hfw SU
          generalize wr.drewN nq = w2 at *
          go_wp2_with fail
          go_loopw [10] (fun vj w2 => ∃ (j' : Nat), vj = .int .i64 j' ∧ j' ≤ j ∧ i' ≤ j' + 1 ∧ St rb ro n w0 dk w2 ∧ Hid (Sort.scanDown (fun x => ltInt dk[a]! x) dk i' j' = Sort.scanDown (fun x => ltInt dk[a]! x) dk i' j)) (fun vj _ => (intOf vj).toNat)
          case atStart => exact ⟨j, rfl, Nat.le_refl _, hij', SU2.out, rfl⟩
          case round =>
            clear hcw2 hfw2 SU2 HG hlv
            obtain ⟨j', rfl, hjj, hij2, sd, hsd⟩ := hrel
            obtain ⟨G, hG, hcw, hfw⟩ := sd.fam
            have HG : Hid (∀ t, G t = dk[t]!) := hG
            have SU : Hid (St rb ro n w0 dk wr) := sd
            clear hG sd
            by_cases hle2 : i' ≤ j'
            · cases hlv2 : ltInt (G a) (G j') with
              | true =>
                have hlvd : ltInt dk[a]! dk[j']! = true := by rw [← HG.out, ← HG.out]; exact hlv2
                have HL : Hid _ := hlvd
                clear hlvd
                go_wp2_with fail
                go_quiet (first | (go_at_call 32; refine Calls.quiet_of_same (less_calls _ _ _)))
                have SU2 : Hid (St rb ro n w0 dk (wr.drewN nq)) := SU.out.drewN nq
                have hcw2 : ∀ t, t < n → (wr.drewN nq).cell? ⟨rb, ro + t, none⟩ = some (.int .u32 (G t)) := hcw
                have hfw2 : ∀ t, t < n → (wr.drewN nq).frozen? ⟨rb, ro + t, none⟩ = false := hfw
                clear hcw hfw SU
                generalize wr.drewN nq = w3 at *
                go_wp2_with fail
                exact ⟨⟨j' - 1, by go_num, by omega, by omega, SU2.out, show _ = _ from (scanDown_go (fun x => ltInt dk[a]! x) dk i' j' hle2 (by omega) (by simp [HL.out])).symm.trans hsd.out⟩, by simp [intOf]; omega⟩
              | false =>
                have hlvd : ltInt dk[a]! dk[j']! = false := by rw [← HG.out, ← HG.out]; exact hlv2
                have hj2 : Hid (j' = Sort.scanDown (fun x => ltInt dk[a]! x) dk i' j) := (scanDown_end (fun x => ltInt dk[a]! x) dk i' j' (Or.inr (by simp [hlvd]))).symm.trans hsd.out
                have hlt3 := scans_lt ltInt a i j dk (by omega) hi2.out hj2.out hle2
                clear hlvd
                go_wp2_with fail
                go_quiet (first | (go_at_call 32; refine Calls.quiet_of_same (less_calls _ _ _)))
                have SU2 : Hid (St rb ro n w0 dk (wr.drewN nq)) := SU.out.drewN nq
                have hcw2 : ∀ t, t < n → (wr.drewN nq).cell? ⟨rb, ro + t, none⟩ = some (.int .u32 (G t)) := hcw
                have hfw2 : ∀ t, t < n → (wr.drewN nq).frozen? ⟨rb, ro + t, none⟩ = false := hfw
                clear hcw hfw SU
                generalize wr.drewN nq = w3 at *
                go_wp2_with fail
                go_region
                all_goals go_wp2_with fail
                have key := (SU2.out.swapped i' j' (by omega) (by omega)).drew
                rw [← HG.out, ← HG.out] at key
                exact ⟨⟨i' + 1, j' - 1, _, by go_num, by go_num, by omega, by omega, by omega, key, show _ = _ from (partEq_go ltInt a i j dk hi2.out hj2.out (by omega)).symm.trans AE.out⟩, by simp [intOf]; omega⟩
            · have hj2 : Hid (j' = Sort.scanDown (fun x => ltInt dk[a]! x) dk i' j) := (scanDown_end (fun x => ltInt dk[a]! x) dk i' j' (Or.inl hle2)).symm.trans hsd.out
              have hz2 : decide ((i' : Int) ≤ (j' : Int)) = false := decide_eq_false (by omega)
              go_wp2_with fail
              go_quiet (first | (go_at_call 32; refine Calls.quiet_of_same (less_calls _ _ _)))
              have SU2 : Hid (St rb ro n w0 dk (wr.drewN nq)) := SU.out.drewN nq
              have hcw2 : ∀ t, t < n → (wr.drewN nq).cell? ⟨rb, ro + t, none⟩ = some (.int .u32 (G t)) := hcw
              have hfw2 : ∀ t, t < n → (wr.drewN nq).frozen? ⟨rb, ro + t, none⟩ = false := hfw
              clear hcw hfw SU
              generalize wr.drewN nq = w3 at *
              go_wp2_with fail
              go_ret
              have e := partEq_break ltInt a i j dk hi2.out hj2.out (by omega)
              unfold Sort.partitionEqual
              rw [← AE.out, e]
              exact ⟨rfl, SU2.out⟩
      · have hi2 : Hid (i' = Sort.scanUp (fun x => !ltInt dk[a]! x) dk j i) := (scanUp_end (fun x => !ltInt dk[a]! x) dk j i' (Or.inl hle)).symm.trans hsc.out
        have hz1 : decide ((i' : Int) ≤ (j : Int)) = false := decide_eq_false (by omega)
        go_wp2_with fail
        go_quiet (first | (go_at_call 32; refine Calls.quiet_of_same (less_calls _ _ _)))
        have SU2 : Hid (St rb ro n w0 dk (wr.drewN nq)) := SU.out.drewN nq
        have hcw2 : ∀ t, t < n → (wr.drewN nq).cell? ⟨rb, ro + t, none⟩ = some (.int .u32 (G t)) := hcw
        have hfw2 : ∀ t, t < n → (wr.drewN nq).frozen? ⟨rb, ro + t, none⟩ = false := hfw
        clear hcw hfw SU
        generalize wr.drewN nq = w2 at *
        go_wp2_with fail
        go_loopw [10] (fun vj w2 => ∃ (j' : Nat), vj = .int .i64 j' ∧ j' ≤ j ∧ i' ≤ j' + 1 ∧ St rb ro n w0 dk w2 ∧ Hid (Sort.scanDown (fun x => ltInt dk[a]! x) dk i' j' = Sort.scanDown (fun x => ltInt dk[a]! x) dk i' j)) (fun vj _ => (intOf vj).toNat)
        case atStart => exact ⟨j, rfl, Nat.le_refl _, hij', SU2.out, rfl⟩
        case round =>
          clear hcw2 hfw2 SU2 HG
          obtain ⟨j', rfl, hjj, hij2, sd, hsd⟩ := hrel
          obtain ⟨G, hG, hcw, hfw⟩ := sd.fam
          have HG : Hid (∀ t, G t = dk[t]!) := hG
          have SU : Hid (St rb ro n w0 dk wr) := sd
          clear hG sd
          by_cases hle2 : i' ≤ j'
          · exfalso; omega
          · have hj2 : Hid (j' = Sort.scanDown (fun x => ltInt dk[a]! x) dk i' j) := (scanDown_end (fun x => ltInt dk[a]! x) dk i' j' (Or.inl hle2)).symm.trans hsd.out
            have hz2 : decide ((i' : Int) ≤ (j' : Int)) = false := decide_eq_false (by omega)
            go_wp2_with fail
            go_quiet (first | (go_at_call 32; refine Calls.quiet_of_same (less_calls _ _ _)))
            have SU2 : Hid (St rb ro n w0 dk (wr.drewN nq)) := SU.out.drewN nq
            have hcw2 : ∀ t, t < n → (wr.drewN nq).cell? ⟨rb, ro + t, none⟩ = some (.int .u32 (G t)) := hcw
            have hfw2 : ∀ t, t < n → (wr.drewN nq).frozen? ⟨rb, ro + t, none⟩ = false := hfw
            clear hcw hfw SU
            generalize wr.drewN nq = w3 at *
            go_wp2_with fail
            go_ret
            have e := partEq_break ltInt a i j dk hi2.out hj2.out (by omega)
            unfold Sort.partitionEqual
            rw [← AE.out, e]
            exact ⟨rfl, SU2.out⟩

end Go.Proofs.Ybulkbqza
