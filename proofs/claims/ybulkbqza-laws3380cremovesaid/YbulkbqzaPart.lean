/-
  Seat b3380a. slices.partitionOrdered at uint32.
-/
import Derived.Test.YbulkbqzaHeapB
import Derived.Sort.WalkC
import Derived.Sort.WalkC4
namespace Go.Proofs.Ybulkbqza
open Go.RowKit
open Go.Sort (ltInt)
set_option linter.unusedVariables false
set_option linter.unusedSimpArgs false

set_option maxHeartbeats 8000000 in
set_option maxRecDepth 100000 in
theorem partition_calls (rb ro n cap : Nat) (hsz : n < 4611686018427387904) (a b pivot : Nat) (d : Array Int) (w0 w : World) (st : St rb ro n w0 d w) (hap : a ≤ pivot) (hpb : pivot < b) (hb : b ≤ n) :
    Calls Yba.prog 34 #[.slice (some ⟨rb, ro, none⟩) n cap, .int .i64 a, .int .i64 b, .int .i64 pivot] w fun e w' => e = .returned (.tuple #[.int .i64 (Sort.partition ltInt d a b pivot).1, .bool (Sort.partition ltInt d a b pivot).2.1]) ∧ St rb ro n w0 (Sort.partition ltInt d a b pivot).2.2 w' := by
  obtain ⟨i, Hi⟩ : ∃ i : Nat, Hid (i = a + 1) := ⟨_, rfl⟩
  obtain ⟨j, Hj⟩ : ∃ j : Nat, Hid (j = b - 1) := ⟨_, rfl⟩
  obtain ⟨dk, Hdk⟩ : ∃ dk : Array Int, Hid (dk = Sort.swp d a pivot) := ⟨_, rfl⟩
  have hai : a < i := by have := Hi.out; omega
  have hij : i ≤ j + 1 := by have := Hi.out; have := Hj.out; omega
  have hjb : j < b := by have := Hj.out; omega
  obtain ⟨G0, hG0, hcw0, hfw0⟩ := st.fam
  have HG0 : Hid (∀ t, G0 t = d[t]!) := hG0
  have S0 : Hid (St rb ro n w0 d w) := st
  clear hG0 st
  obtain ⟨v1, hv1⟩ := cell?_setCell_some (w := w) (p := ⟨rb, ro + a, none⟩) (x := .int .u32 (G0 pivot)) (q := ⟨rb, ro + pivot, none⟩) (hcw0 pivot (by omega))
  go_enter Yba.func34, Yba.ntmps34
  go_wp2_with fail
  go_region
  all_goals go_wp2_with fail
  have s1 := (S0.out.swapped a pivot (by omega) (by omega)).drew
  rw [← HG0.out, ← HG0.out] at s1
  clear hcw0 hfw0 hv1
  rw [show ((a : Int) + 1) = (i : Int) by have := Hi.out; omega, show ((b : Int) - 1) = (j : Int) by have := Hj.out; omega]
  rw [← Hdk.out] at s1
  go_loopw [10] (fun vi w1 => ∃ (i' : Nat), vi = .int .i64 i' ∧ i ≤ i' ∧ i' ≤ j + 1 ∧ St rb ro n w0 dk w1 ∧ Hid (Sort.scanUp (fun x => ltInt x dk[a]!) dk j i' = Sort.scanUp (fun x => ltInt x dk[a]!) dk j i)) (fun vi _ => j + 1 - (intOf vi).toNat)
  case atStart => exact ⟨i, rfl, Nat.le_refl _, hij, s1, rfl⟩
  case round =>
    clear s1
    obtain ⟨i', rfl, hii, hij', su, hsc⟩ := hrel
    obtain ⟨G, hG, hcw, hfw⟩ := su.fam
    have HG : Hid (∀ t, G t = dk[t]!) := hG
    have SU : Hid (St rb ro n w0 dk wr) := su
    clear hG su
    by_cases hle : i' ≤ j
    · cases hlv : ltInt (G i') (G a) with
      | true =>
        have hlvd : ltInt dk[i']! dk[a]! = true := by rw [← HG.out, ← HG.out]; exact hlv
        have HL : Hid _ := hlvd
        clear hlvd
        go_wp2_with fail
        go_quiet (first | (go_at_call 32; refine Calls.quiet_of_same (less_calls _ _ _)))
        have SU2 : Hid (St rb ro n w0 dk (wr.drewN nq)) := SU.out.drewN nq
        have hcw2 : ∀ t, t < n → (wr.drewN nq).cell? ⟨rb, ro + t, none⟩ = some (.int .u32 (G t)) := hcw
        have hfw2 : ∀ t, t < n → (wr.drewN nq).frozen? ⟨rb, ro + t, none⟩ = false := hfw
        clear hcw hfw SU
        generalize wr.drewN nq = w2 at *
        go_wp2_with fail
        exact ⟨⟨i' + 1, by go_num, by omega, by omega, SU2.out, show _ = _ from (scanUp_go (fun x => ltInt x dk[a]!) dk j i' hle (by simp [HL.out])).symm.trans hsc.out⟩, by simp [intOf]; omega⟩
      | false =>
        have hlvd : ltInt dk[i']! dk[a]! = false := by rw [← HG.out, ← HG.out]; exact hlv
        have hi2 : Hid (i' = Sort.scanUp (fun x => ltInt x dk[a]!) dk j i) := (scanUp_end (fun x => ltInt x dk[a]!) dk j i' (Or.inr (by simp [hlvd]))).symm.trans hsc.out
        clear hlvd
        go_wp2_with fail
        go_quiet (first | (go_at_call 32; refine Calls.quiet_of_same (less_calls _ _ _)))
        have SU2 : Hid (St rb ro n w0 dk (wr.drewN nq)) := SU.out.drewN nq
        have hcw2 : ∀ t, t < n → (wr.drewN nq).cell? ⟨rb, ro + t, none⟩ = some (.int .u32 (G t)) := hcw
        have hfw2 : ∀ t, t < n → (wr.drewN nq).frozen? ⟨rb, ro + t, none⟩ = false := hfw
        clear hcw hfw SU
        generalize wr.drewN nq = w2 at *
        clear hlv
        go_wp2_with fail
        go_loopw [11] (fun vj w2 => ∃ (j' : Nat), vj = .int .i64 j' ∧ j' ≤ j ∧ i' ≤ j' + 1 ∧ St rb ro n w0 dk w2 ∧ Hid (Sort.scanDown (fun x => !ltInt x dk[a]!) dk i' j' = Sort.scanDown (fun x => !ltInt x dk[a]!) dk i' j)) (fun vj _ => (intOf vj).toNat)
        case atStart => exact ⟨j, rfl, Nat.le_refl _, hij', SU2.out, rfl⟩
        case round =>
          clear hcw2 hfw2 SU2 HG
          obtain ⟨j', rfl, hjj, hij2, sd, hsd⟩ := hrel
          obtain ⟨G, hG, hcw, hfw⟩ := sd.fam
          have HG : Hid (∀ t, G t = dk[t]!) := hG
          have SU : Hid (St rb ro n w0 dk wr) := sd
          clear hG sd
          by_cases hle2 : i' ≤ j'
          · cases hlv2 : ltInt (G j') (G a) with
            | false =>
              have hlvd : ltInt dk[j']! dk[a]! = false := by rw [← HG.out, ← HG.out]; exact hlv2
              have HL : Hid _ := hlvd
              clear hlvd
              go_wp2_with fail
              go_quiet (first | (go_at_call 32; refine Calls.quiet_of_same (less_calls _ _ _)))
              have SU2 : Hid (St rb ro n w0 dk (wr.drewN nq)) := SU.out.drewN nq
              have hcw2 : ∀ t, t < n → (wr.drewN nq).cell? ⟨rb, ro + t, none⟩ = some (.int .u32 (G t)) := hcw
              have hfw2 : ∀ t, t < n → (wr.drewN nq).frozen? ⟨rb, ro + t, none⟩ = false := hfw
              clear hcw hfw SU
              generalize wr.drewN nq = w3 at *
              go_wp2_with fail
              exact ⟨⟨j' - 1, by go_num, by omega, by omega, SU2.out, show _ = _ from (scanDown_go (fun x => !ltInt x dk[a]!) dk i' j' hle2 (by omega) (by simp [HL.out])).symm.trans hsd.out⟩, by simp [intOf]; omega⟩
            | true =>
              have hlvd : ltInt dk[j']! dk[a]! = true := by rw [← HG.out, ← HG.out]; exact hlv2
              have hj2 : Hid (j' = Sort.scanDown (fun x => !ltInt x dk[a]!) dk i' j) := (scanDown_end (fun x => !ltInt x dk[a]!) dk i' j' (Or.inr (by simp [hlvd]))).symm.trans hsd.out
              have hlt3 := part_scans_lt ltInt a i j dk (by omega) hi2.out hj2.out hle2
              clear hlvd
              go_wp2_with fail
              go_quiet (first | (go_at_call 32; refine Calls.quiet_of_same (less_calls _ _ _)))
              have SU2 : Hid (St rb ro n w0 dk (wr.drewN nq)) := SU.out.drewN nq
              have hcw2 : ∀ t, t < n → (wr.drewN nq).cell? ⟨rb, ro + t, none⟩ = some (.int .u32 (G t)) := hcw
              have hfw2 : ∀ t, t < n → (wr.drewN nq).frozen? ⟨rb, ro + t, none⟩ = false := hfw
              clear hcw hfw SU
              generalize wr.drewN nq = w3 at *
              go_wp2_with fail
              go_region
              all_goals go_wp2_with fail
              have key := (SU2.out.swapped i' j' (by omega) (by omega)).drew
              rw [← HG.out, ← HG.out] at key
              (try rw [decide_eq_false (show ¬ j' < i' by omega)])
              have PF : Hid (Sort.partition ltInt d a b pivot = ((Sort.partLoop ltInt a (i' + 1) (j' - 1) (Sort.swp dk i' j')).1, false, Sort.swp (Sort.partLoop ltInt a (i' + 1) (j' - 1) (Sort.swp dk i' j')).2 (Sort.partLoop ltInt a (i' + 1) (j' - 1) (Sort.swp dk i' j')).1 a)) :=
                part_first_go ltInt d a b pivot Hi.out Hj.out Hdk.out hi2.out hj2.out (by omega)
              obtain ⟨PL, PL0⟩ : ∃ PL, Hid (Sort.partLoop ltInt a (i' + 1) (j' - 1) (Sort.swp dk i' j') = PL) := ⟨_, rfl⟩
              rw [PL0.out] at PF
              go_loopw [10, 11] (fun vi vj wr => ∃ (i j : Nat) (dk : Array Int), vi = .int .i64 i ∧ vj = .int .i64 j ∧ a < i ∧ i ≤ j + 1 ∧ j < b ∧ St rb ro n w0 dk wr ∧ Hid (Sort.partLoop ltInt a i j dk = PL)) (fun vi vj _ => (intOf vj).toNat + 1 - (intOf vi).toNat)
              case atStart => exact ⟨i' + 1, j' - 1, _, by go_num, by go_num, by omega, by omega, by omega, key, PL0⟩
              case round =>
                clear hj2 hi2 hlt3 Hi Hj Hdk hlv2 hsd hsc key SU2 hcw2 hfw2 HG
                obtain ⟨i, j, dk, rfl, rfl, hai, hij, hjb, sk, AE⟩ := hrel
                go_wp2_with fail
                go_loopw [10] (fun vi w1 => ∃ (i' : Nat), vi = .int .i64 i' ∧ i ≤ i' ∧ i' ≤ j + 1 ∧ St rb ro n w0 dk w1 ∧ Hid (Sort.scanUp (fun x => ltInt x dk[a]!) dk j i' = Sort.scanUp (fun x => ltInt x dk[a]!) dk j i)) (fun vi _ => j + 1 - (intOf vi).toNat)
                case atStart => exact ⟨i, rfl, Nat.le_refl _, hij, sk, rfl⟩
                case round =>
                  clear sk
                  obtain ⟨i', rfl, hii, hij', su, hsc⟩ := hrel
                  obtain ⟨G, hG, hcw, hfw⟩ := su.fam
                  have HG : Hid (∀ t, G t = dk[t]!) := hG
                  have SU : Hid (St rb ro n w0 dk wr) := su
                  clear hG su
                  by_cases hle : i' ≤ j
                  · cases hlv : ltInt (G i') (G a) with
                    | true =>
                      have hlvd : ltInt dk[i']! dk[a]! = true := by rw [← HG.out, ← HG.out]; exact hlv
                      have HL : Hid _ := hlvd
                      clear hlvd
                      go_wp2_with fail
                      go_quiet (first | (go_at_call 32; refine Calls.quiet_of_same (less_calls _ _ _)))
                      have SU2 : Hid (St rb ro n w0 dk (wr.drewN nq)) := SU.out.drewN nq
                      have hcw2 : ∀ t, t < n → (wr.drewN nq).cell? ⟨rb, ro + t, none⟩ = some (.int .u32 (G t)) := hcw
                      have hfw2 : ∀ t, t < n → (wr.drewN nq).frozen? ⟨rb, ro + t, none⟩ = false := hfw
                      clear hcw hfw SU
                      generalize wr.drewN nq = w2 at *
                      go_wp2_with fail
                      exact ⟨⟨i' + 1, by go_num, by omega, by omega, SU2.out, show _ = _ from (scanUp_go (fun x => ltInt x dk[a]!) dk j i' hle (by simp [HL.out])).symm.trans hsc.out⟩, by simp [intOf]; omega⟩
                    | false =>
                      have hlvd : ltInt dk[i']! dk[a]! = false := by rw [← HG.out, ← HG.out]; exact hlv
                      have hi2 : Hid (i' = Sort.scanUp (fun x => ltInt x dk[a]!) dk j i) := (scanUp_end (fun x => ltInt x dk[a]!) dk j i' (Or.inr (by simp [hlvd]))).symm.trans hsc.out
                      clear hlvd
                      go_wp2_with fail
                      go_quiet (first | (go_at_call 32; refine Calls.quiet_of_same (less_calls _ _ _)))
                      have SU2 : Hid (St rb ro n w0 dk (wr.drewN nq)) := SU.out.drewN nq
                      have hcw2 : ∀ t, t < n → (wr.drewN nq).cell? ⟨rb, ro + t, none⟩ = some (.int .u32 (G t)) := hcw
                      have hfw2 : ∀ t, t < n → (wr.drewN nq).frozen? ⟨rb, ro + t, none⟩ = false := hfw
                      clear hcw hfw SU
                      generalize wr.drewN nq = w2 at *
                      clear hlv
                      go_wp2_with fail
                      go_loopw [11] (fun vj w2 => ∃ (j' : Nat), vj = .int .i64 j' ∧ j' ≤ j ∧ i' ≤ j' + 1 ∧ St rb ro n w0 dk w2 ∧ Hid (Sort.scanDown (fun x => !ltInt x dk[a]!) dk i' j' = Sort.scanDown (fun x => !ltInt x dk[a]!) dk i' j)) (fun vj _ => (intOf vj).toNat)
                      case atStart => exact ⟨j, rfl, Nat.le_refl _, hij', SU2.out, rfl⟩
                      case round =>
                        clear hcw2 hfw2 SU2 HG
                        obtain ⟨j', rfl, hjj, hij2, sd, hsd⟩ := hrel
                        obtain ⟨G, hG, hcw, hfw⟩ := sd.fam
                        have HG : Hid (∀ t, G t = dk[t]!) := hG
                        have SU : Hid (St rb ro n w0 dk wr) := sd
                        clear hG sd
                        by_cases hle2 : i' ≤ j'
                        · cases hlv2 : ltInt (G j') (G a) with
                          | false =>
                            have hlvd : ltInt dk[j']! dk[a]! = false := by rw [← HG.out, ← HG.out]; exact hlv2
                            have HL : Hid _ := hlvd
                            clear hlvd
                            go_wp2_with fail
                            go_quiet (first | (go_at_call 32; refine Calls.quiet_of_same (less_calls _ _ _)))
                            have SU2 : Hid (St rb ro n w0 dk (wr.drewN nq)) := SU.out.drewN nq
                            have hcw2 : ∀ t, t < n → (wr.drewN nq).cell? ⟨rb, ro + t, none⟩ = some (.int .u32 (G t)) := hcw
                            have hfw2 : ∀ t, t < n → (wr.drewN nq).frozen? ⟨rb, ro + t, none⟩ = false := hfw
                            clear hcw hfw SU
                            generalize wr.drewN nq = w3 at *
                            go_wp2_with fail
                            exact ⟨⟨j' - 1, by go_num, by omega, by omega, SU2.out, show _ = _ from (scanDown_go (fun x => !ltInt x dk[a]!) dk i' j' hle2 (by omega) (by simp [HL.out])).symm.trans hsd.out⟩, by simp [intOf]; omega⟩
                          | true =>
                            have hlvd : ltInt dk[j']! dk[a]! = true := by rw [← HG.out, ← HG.out]; exact hlv2
                            have hj2 : Hid (j' = Sort.scanDown (fun x => !ltInt x dk[a]!) dk i' j) := (scanDown_end (fun x => !ltInt x dk[a]!) dk i' j' (Or.inr (by simp [hlvd]))).symm.trans hsd.out
                            have hlt3 := part_scans_lt ltInt a i j dk (by omega) hi2.out hj2.out hle2
                            clear hlvd
                            go_wp2_with fail
                            go_quiet (first | (go_at_call 32; refine Calls.quiet_of_same (less_calls _ _ _)))
                            have SU2 : Hid (St rb ro n w0 dk (wr.drewN nq)) := SU.out.drewN nq
                            have hcw2 : ∀ t, t < n → (wr.drewN nq).cell? ⟨rb, ro + t, none⟩ = some (.int .u32 (G t)) := hcw
                            have hfw2 : ∀ t, t < n → (wr.drewN nq).frozen? ⟨rb, ro + t, none⟩ = false := hfw
                            clear hcw hfw SU
                            generalize wr.drewN nq = w3 at *
                            go_wp2_with fail
                            go_region
                            all_goals go_wp2_with fail
                            have key := (SU2.out.swapped i' j' (by omega) (by omega)).drew
                            rw [← HG.out, ← HG.out] at key
                            exact ⟨⟨i' + 1, j' - 1, _, by go_num, by go_num, by omega, by omega, by omega, key, show _ = _ from (part_go ltInt a i j dk hi2.out hj2.out (by omega)).symm.trans AE.out⟩, by simp [intOf]; omega⟩
                        · have hj2 : Hid (j' = Sort.scanDown (fun x => !ltInt x dk[a]!) dk i' j) := (scanDown_end (fun x => !ltInt x dk[a]!) dk i' j' (Or.inl hle2)).symm.trans hsd.out
                          have hz2 : decide ((i' : Int) ≤ (j' : Int)) = false := decide_eq_false (by omega)
                          go_wp2_with fail
                          go_quiet (first | (go_at_call 32; refine Calls.quiet_of_same (less_calls _ _ _)))
                          have SU2 : Hid (St rb ro n w0 dk (wr.drewN nq)) := SU.out.drewN nq
                          have hcw2 : ∀ t, t < n → (wr.drewN nq).cell? ⟨rb, ro + t, none⟩ = some (.int .u32 (G t)) := hcw
                          have hfw2 : ∀ t, t < n → (wr.drewN nq).frozen? ⟨rb, ro + t, none⟩ = false := hfw
                          clear hcw hfw SU
                          generalize wr.drewN nq = w3 at *
                          go_wp2_with fail
                          obtain ⟨v1, hv1⟩ := cell?_setCell_some (w := w3) (p := ⟨rb, ro + j', none⟩) (x := .int .u32 (G a)) (q := ⟨rb, ro + a, none⟩) (hcw2 a (by omega))
                          go_region
                          all_goals go_wp2_with fail
                          have key := (SU2.out.swapped j' a (by omega) (by omega)).drew
                          rw [← HG.out, ← HG.out] at key
                          go_ret2
                          have e := part_break ltInt a i j dk hi2.out hj2.out (by omega)
                          rw [PF.out, ← AE.out, e]
                          exact ⟨rfl, key⟩
                  · have hi2 : Hid (i' = Sort.scanUp (fun x => ltInt x dk[a]!) dk j i) := (scanUp_end (fun x => ltInt x dk[a]!) dk j i' (Or.inl hle)).symm.trans hsc.out
                    have hz1 : decide ((i' : Int) ≤ (j : Int)) = false := decide_eq_false (by omega)
                    go_wp2_with fail
                    go_quiet (first | (go_at_call 32; refine Calls.quiet_of_same (less_calls _ _ _)))
                    have SU2 : Hid (St rb ro n w0 dk (wr.drewN nq)) := SU.out.drewN nq
                    have hcw2 : ∀ t, t < n → (wr.drewN nq).cell? ⟨rb, ro + t, none⟩ = some (.int .u32 (G t)) := hcw
                    have hfw2 : ∀ t, t < n → (wr.drewN nq).frozen? ⟨rb, ro + t, none⟩ = false := hfw
                    clear hcw hfw SU
                    generalize wr.drewN nq = w2 at *
                    clear hz1
                    go_wp2_with fail
                    go_loopw [11] (fun vj w2 => ∃ (j' : Nat), vj = .int .i64 j' ∧ j' ≤ j ∧ i' ≤ j' + 1 ∧ St rb ro n w0 dk w2 ∧ Hid (Sort.scanDown (fun x => !ltInt x dk[a]!) dk i' j' = Sort.scanDown (fun x => !ltInt x dk[a]!) dk i' j)) (fun vj _ => (intOf vj).toNat)
                    case atStart => exact ⟨j, rfl, Nat.le_refl _, hij', SU2.out, rfl⟩
                    case round =>
                      clear hcw2 hfw2 SU2 HG
                      obtain ⟨j', rfl, hjj, hij2, sd, hsd⟩ := hrel
                      obtain ⟨G, hG, hcw, hfw⟩ := sd.fam
                      have HG : Hid (∀ t, G t = dk[t]!) := hG
                      have SU : Hid (St rb ro n w0 dk wr) := sd
                      clear hG sd
                      by_cases hle2 : i' ≤ j'
                      · exfalso; omega
                      · have hj2 : Hid (j' = Sort.scanDown (fun x => !ltInt x dk[a]!) dk i' j) := (scanDown_end (fun x => !ltInt x dk[a]!) dk i' j' (Or.inl hle2)).symm.trans hsd.out
                        have hz2 : decide ((i' : Int) ≤ (j' : Int)) = false := decide_eq_false (by omega)
                        go_wp2_with fail
                        go_quiet (first | (go_at_call 32; refine Calls.quiet_of_same (less_calls _ _ _)))
                        have SU2 : Hid (St rb ro n w0 dk (wr.drewN nq)) := SU.out.drewN nq
                        have hcw2 : ∀ t, t < n → (wr.drewN nq).cell? ⟨rb, ro + t, none⟩ = some (.int .u32 (G t)) := hcw
                        have hfw2 : ∀ t, t < n → (wr.drewN nq).frozen? ⟨rb, ro + t, none⟩ = false := hfw
                        clear hcw hfw SU
                        generalize wr.drewN nq = w3 at *
                        go_wp2_with fail
                        obtain ⟨v1, hv1⟩ := cell?_setCell_some (w := w3) (p := ⟨rb, ro + j', none⟩) (x := .int .u32 (G a)) (q := ⟨rb, ro + a, none⟩) (hcw2 a (by omega))
                        go_region
                        all_goals go_wp2_with fail
                        have key := (SU2.out.swapped j' a (by omega) (by omega)).drew
                        rw [← HG.out, ← HG.out] at key
                        go_ret2
                        have e := part_break ltInt a i j dk hi2.out hj2.out (by omega)
                        rw [PF.out, ← AE.out, e]
                        exact ⟨rfl, key⟩
          · have hj2 : Hid (j' = Sort.scanDown (fun x => !ltInt x dk[a]!) dk i' j) := (scanDown_end (fun x => !ltInt x dk[a]!) dk i' j' (Or.inl hle2)).symm.trans hsd.out
            have hz2 : decide ((i' : Int) ≤ (j' : Int)) = false := decide_eq_false (by omega)
            go_wp2_with fail
            go_quiet (first | (go_at_call 32; refine Calls.quiet_of_same (less_calls _ _ _)))
            have SU2 : Hid (St rb ro n w0 dk (wr.drewN nq)) := SU.out.drewN nq
            have hcw2 : ∀ t, t < n → (wr.drewN nq).cell? ⟨rb, ro + t, none⟩ = some (.int .u32 (G t)) := hcw
            have hfw2 : ∀ t, t < n → (wr.drewN nq).frozen? ⟨rb, ro + t, none⟩ = false := hfw
            clear hcw hfw SU
            generalize wr.drewN nq = w3 at *
            go_wp2_with fail
            obtain ⟨v1, hv1⟩ := cell?_setCell_some (w := w3) (p := ⟨rb, ro + j', none⟩) (x := .int .u32 (G a)) (q := ⟨rb, ro + a, none⟩) (hcw2 a (by omega))
            go_region
            all_goals go_wp2_with fail
            have key := (SU2.out.swapped j' a (by omega) (by omega)).drew
            rw [← HG.out, ← HG.out] at key
            go_ret2
            have e := part_first_break ltInt d a b pivot Hi.out Hj.out Hdk.out hi2.out hj2.out (by omega)
            rw [e]
            exact ⟨rfl, key⟩
    · have hi2 : Hid (i' = Sort.scanUp (fun x => ltInt x dk[a]!) dk j i) := (scanUp_end (fun x => ltInt x dk[a]!) dk j i' (Or.inl hle)).symm.trans hsc.out
      have hz1 : decide ((i' : Int) ≤ (j : Int)) = false := decide_eq_false (by omega)
      go_wp2_with fail
      go_quiet (first | (go_at_call 32; refine Calls.quiet_of_same (less_calls _ _ _)))
      have SU2 : Hid (St rb ro n w0 dk (wr.drewN nq)) := SU.out.drewN nq
      have hcw2 : ∀ t, t < n → (wr.drewN nq).cell? ⟨rb, ro + t, none⟩ = some (.int .u32 (G t)) := hcw
      have hfw2 : ∀ t, t < n → (wr.drewN nq).frozen? ⟨rb, ro + t, none⟩ = false := hfw
      clear hcw hfw SU
      generalize wr.drewN nq = w2 at *
      clear hz1
      go_wp2_with fail
      go_loopw [11] (fun vj w2 => ∃ (j' : Nat), vj = .int .i64 j' ∧ j' ≤ j ∧ i' ≤ j' + 1 ∧ St rb ro n w0 dk w2 ∧ Hid (Sort.scanDown (fun x => !ltInt x dk[a]!) dk i' j' = Sort.scanDown (fun x => !ltInt x dk[a]!) dk i' j)) (fun vj _ => (intOf vj).toNat)
      case atStart => exact ⟨j, rfl, Nat.le_refl _, hij', SU2.out, rfl⟩
      case round =>
        clear hcw2 hfw2 SU2 HG
        obtain ⟨j', rfl, hjj, hij2, sd, hsd⟩ := hrel
        obtain ⟨G, hG, hcw, hfw⟩ := sd.fam
        have HG : Hid (∀ t, G t = dk[t]!) := hG
        have SU : Hid (St rb ro n w0 dk wr) := sd
        clear hG sd
        by_cases hle2 : i' ≤ j'
        · exfalso; omega
        · have hj2 : Hid (j' = Sort.scanDown (fun x => !ltInt x dk[a]!) dk i' j) := (scanDown_end (fun x => !ltInt x dk[a]!) dk i' j' (Or.inl hle2)).symm.trans hsd.out
          have hz2 : decide ((i' : Int) ≤ (j' : Int)) = false := decide_eq_false (by omega)
          go_wp2_with fail
          go_quiet (first | (go_at_call 32; refine Calls.quiet_of_same (less_calls _ _ _)))
          have SU2 : Hid (St rb ro n w0 dk (wr.drewN nq)) := SU.out.drewN nq
          have hcw2 : ∀ t, t < n → (wr.drewN nq).cell? ⟨rb, ro + t, none⟩ = some (.int .u32 (G t)) := hcw
          have hfw2 : ∀ t, t < n → (wr.drewN nq).frozen? ⟨rb, ro + t, none⟩ = false := hfw
          clear hcw hfw SU
          generalize wr.drewN nq = w3 at *
          go_wp2_with fail
          obtain ⟨v1, hv1⟩ := cell?_setCell_some (w := w3) (p := ⟨rb, ro + j', none⟩) (x := .int .u32 (G a)) (q := ⟨rb, ro + a, none⟩) (hcw2 a (by omega))
          go_region
          all_goals go_wp2_with fail
          have key := (SU2.out.swapped j' a (by omega) (by omega)).drew
          rw [← HG.out, ← HG.out] at key
          go_ret2
          have e := part_first_break ltInt d a b pivot Hi.out Hj.out Hdk.out hi2.out hj2.out (by omega)
          rw [e]
          exact ⟨rfl, key⟩

end Go.Proofs.Ybulkbqza
