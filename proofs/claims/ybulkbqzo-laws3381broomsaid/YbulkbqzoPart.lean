/-
  Seat b3381a. sort.partition.
-/
import Derived.Test.YbulkbqzoEnv
import Derived.Sort.WalkC
import Derived.Sort.WalkC4
namespace Go.Proofs.Ybulkbqzo
open Go.RowKit
set_option linter.unusedVariables false
set_option linter.unusedSimpArgs false

set_option maxHeartbeats 8000000 in
set_option maxRecDepth 100000 in
theorem partition_calls {rv : Value} {bh bc n : Nat} (E : Env rv bh bc n) (a b pivot : Nat) (d : Array HC) (w0 w : World) (st : St bh bc n w0 d w) (hap : a ≤ pivot) (hpb : pivot < b) (hb : b ≤ n) :
    Calls Yba.prog 18 #[.iface 45 rv, .int .i64 a, .int .i64 b, .int .i64 pivot] w fun e w' => e = .returned (.tuple #[.int .i64 (Sort.partition ltS d a b pivot).1, .bool (Sort.partition ltS d a b pivot).2.1]) ∧ St bh bc n w0 (Sort.partition ltS d a b pivot).2.2 w' := by
  have mL := E.mL
  have mS := E.mS
  have hsz := E.small
  obtain ⟨i, Hi⟩ : ∃ i : Nat, Hid (i = a + 1) := ⟨_, rfl⟩
  obtain ⟨j, Hj⟩ : ∃ j : Nat, Hid (j = b - 1) := ⟨_, rfl⟩
  obtain ⟨dk, Hdk⟩ : ∃ dk : Array HC, Hid (dk = Sort.swp d a pivot) := ⟨_, rfl⟩
  have hai : a < i := by have := Hi.out; omega
  have hij : i ≤ j + 1 := by have := Hi.out; have := Hj.out; omega
  have hjb : j < b := by have := Hj.out; omega
  go_enter Yba.func18, Yba.ntmps18
  go_wp2_with fail
  refine (E.swapAt st a pivot (by omega) (by omega) rfl rfl).mono ?_
  rintro e w1 ⟨rfl, s1, -⟩
  go_wp2_with fail
  rw [show ((a : Int) + 1) = (i : Int) by have := Hi.out; omega, show ((b : Int) - 1) = (j : Int) by have := Hj.out; omega]
  rw [← Hdk.out] at s1
  go_loopw [10] (fun vi w1 => ∃ (i' : Nat), vi = .int .i64 i' ∧ i ≤ i' ∧ i' ≤ j + 1 ∧ St bh bc n w0 dk w1 ∧ Hid (Sort.scanUp (fun x => ltS x dk[a]!) dk j i' = Sort.scanUp (fun x => ltS x dk[a]!) dk j i)) (fun vi _ => j + 1 - (intOf vi).toNat)
  case atStart => exact ⟨i, rfl, Nat.le_refl _, hij, s1, rfl⟩
  case round =>
    obtain ⟨i', rfl, hii, hij', su, hsc⟩ := hrel
    by_cases hle : i' ≤ j
    · cases hlv : ltS dk[i']! dk[a]! with
      | true =>
        go_wp2_with fail
        refine (E.lessAt su i' a (by omega) (by omega) rfl rfl hlv).mono ?_
        rintro e w2 ⟨rfl, su2, -⟩
        go_wp2_with fail
        exact ⟨⟨i' + 1, by go_num, by omega, by omega, su2, show _ = _ from (scanUp_go (fun x => ltS x dk[a]!) dk j i' hle (by simp [hlv])).symm.trans hsc.out⟩, by simp [intOf]; omega⟩
      | false =>
        have hi2 : Hid (i' = Sort.scanUp (fun x => ltS x dk[a]!) dk j i) := (scanUp_end (fun x => ltS x dk[a]!) dk j i' (Or.inr (by simp [hlv]))).symm.trans hsc.out
        go_wp2_with fail
        refine (E.lessAt su i' a (by omega) (by omega) rfl rfl hlv).mono ?_
        rintro e w2 ⟨rfl, su2, -⟩
        go_wp2_with fail
        go_loopw [11] (fun vj w2 => ∃ (j' : Nat), vj = .int .i64 j' ∧ j' ≤ j ∧ i' ≤ j' + 1 ∧ St bh bc n w0 dk w2 ∧ Hid (Sort.scanDown (fun x => !ltS x dk[a]!) dk i' j' = Sort.scanDown (fun x => !ltS x dk[a]!) dk i' j)) (fun vj _ => (intOf vj).toNat)
        case atStart => exact ⟨j, rfl, Nat.le_refl _, hij', su2, rfl⟩
        case round =>
          obtain ⟨j', rfl, hjj, hij2, sd, hsd⟩ := hrel
          by_cases hle2 : i' ≤ j'
          · cases hlv2 : ltS dk[j']! dk[a]! with
            | false =>
              go_wp2_with fail
              refine (E.lessAt sd j' a (by omega) (by omega) rfl rfl hlv2).mono ?_
              rintro e w3 ⟨rfl, sd3, -⟩
              go_wp2_with fail
              exact ⟨⟨j' - 1, by go_num, by omega, by omega, sd3, show _ = _ from (scanDown_go (fun x => !ltS x dk[a]!) dk i' j' hle2 (by omega) (by simp [hlv2])).symm.trans hsd.out⟩, by simp [intOf]; omega⟩
            | true =>
              have hj2 : Hid (j' = Sort.scanDown (fun x => !ltS x dk[a]!) dk i' j) := (scanDown_end (fun x => !ltS x dk[a]!) dk i' j' (Or.inr (by simp [hlv2]))).symm.trans hsd.out
              have hlt3 := part_scans_lt ltS a i j dk (by omega) hi2.out hj2.out hle2
              go_wp2_with fail
              refine (E.lessAt sd j' a (by omega) (by omega) rfl rfl hlv2).mono ?_
              rintro e w3 ⟨rfl, sd3, -⟩
              go_wp2_with fail
              refine (E.swapAt sd3 i' j' (by omega) (by omega) rfl rfl).mono ?_
              rintro e w4 ⟨rfl, sd4, -⟩
              go_wp2_with fail
              (try rw [decide_eq_false (show ¬ j' < i' by omega)])
              have PF : Hid (Sort.partition ltS d a b pivot = ((Sort.partLoop ltS a (i' + 1) (j' - 1) (Sort.swp dk i' j')).1, false, Sort.swp (Sort.partLoop ltS a (i' + 1) (j' - 1) (Sort.swp dk i' j')).2 (Sort.partLoop ltS a (i' + 1) (j' - 1) (Sort.swp dk i' j')).1 a)) :=
                part_first_go ltS d a b pivot Hi.out Hj.out Hdk.out hi2.out hj2.out (by omega)
              obtain ⟨PL, PL0⟩ : ∃ PL, Hid (Sort.partLoop ltS a (i' + 1) (j' - 1) (Sort.swp dk i' j') = PL) := ⟨_, rfl⟩
              rw [PL0.out] at PF
              go_loopw [10, 11] (fun vi vj wr => ∃ (i j : Nat) (dk : Array HC), vi = .int .i64 i ∧ vj = .int .i64 j ∧ a < i ∧ i ≤ j + 1 ∧ j < b ∧ St bh bc n w0 dk wr ∧ Hid (Sort.partLoop ltS a i j dk = PL)) (fun vi vj _ => (intOf vj).toNat + 1 - (intOf vi).toNat)
              case atStart => exact ⟨i' + 1, j' - 1, _, by go_num, by go_num, by omega, by omega, by omega, sd4, PL0⟩
              case round =>
                clear hj2 hi2 hlt3 Hi Hj Hdk hlv hlv2 hsd hsc sd4 sd3 su sd
                obtain ⟨i, j, dk, rfl, rfl, hai, hij, hjb, sk, AE⟩ := hrel
                go_wp2_with fail
                go_loopw [10] (fun vi w1 => ∃ (i' : Nat), vi = .int .i64 i' ∧ i ≤ i' ∧ i' ≤ j + 1 ∧ St bh bc n w0 dk w1 ∧ Hid (Sort.scanUp (fun x => ltS x dk[a]!) dk j i' = Sort.scanUp (fun x => ltS x dk[a]!) dk j i)) (fun vi _ => j + 1 - (intOf vi).toNat)
                case atStart => exact ⟨i, rfl, Nat.le_refl _, hij, sk, rfl⟩
                case round =>
                  obtain ⟨i', rfl, hii, hij', su, hsc⟩ := hrel
                  by_cases hle : i' ≤ j
                  · cases hlv : ltS dk[i']! dk[a]! with
                    | true =>
                      go_wp2_with fail
                      refine (E.lessAt su i' a (by omega) (by omega) rfl rfl hlv).mono ?_
                      rintro e w2 ⟨rfl, su2, -⟩
                      go_wp2_with fail
                      exact ⟨⟨i' + 1, by go_num, by omega, by omega, su2, show _ = _ from (scanUp_go (fun x => ltS x dk[a]!) dk j i' hle (by simp [hlv])).symm.trans hsc.out⟩, by simp [intOf]; omega⟩
                    | false =>
                      have hi2 : Hid (i' = Sort.scanUp (fun x => ltS x dk[a]!) dk j i) := (scanUp_end (fun x => ltS x dk[a]!) dk j i' (Or.inr (by simp [hlv]))).symm.trans hsc.out
                      go_wp2_with fail
                      refine (E.lessAt su i' a (by omega) (by omega) rfl rfl hlv).mono ?_
                      rintro e w2 ⟨rfl, su2, -⟩
                      go_wp2_with fail
                      go_loopw [11] (fun vj w2 => ∃ (j' : Nat), vj = .int .i64 j' ∧ j' ≤ j ∧ i' ≤ j' + 1 ∧ St bh bc n w0 dk w2 ∧ Hid (Sort.scanDown (fun x => !ltS x dk[a]!) dk i' j' = Sort.scanDown (fun x => !ltS x dk[a]!) dk i' j)) (fun vj _ => (intOf vj).toNat)
                      case atStart => exact ⟨j, rfl, Nat.le_refl _, hij', su2, rfl⟩
                      case round =>
                        obtain ⟨j', rfl, hjj, hij2, sd, hsd⟩ := hrel
                        by_cases hle2 : i' ≤ j'
                        · cases hlv2 : ltS dk[j']! dk[a]! with
                          | false =>
                            go_wp2_with fail
                            refine (E.lessAt sd j' a (by omega) (by omega) rfl rfl hlv2).mono ?_
                            rintro e w3 ⟨rfl, sd3, -⟩
                            go_wp2_with fail
                            exact ⟨⟨j' - 1, by go_num, by omega, by omega, sd3, show _ = _ from (scanDown_go (fun x => !ltS x dk[a]!) dk i' j' hle2 (by omega) (by simp [hlv2])).symm.trans hsd.out⟩, by simp [intOf]; omega⟩
                          | true =>
                            have hj2 : Hid (j' = Sort.scanDown (fun x => !ltS x dk[a]!) dk i' j) := (scanDown_end (fun x => !ltS x dk[a]!) dk i' j' (Or.inr (by simp [hlv2]))).symm.trans hsd.out
                            have hlt3 := part_scans_lt ltS a i j dk (by omega) hi2.out hj2.out hle2
                            go_wp2_with fail
                            refine (E.lessAt sd j' a (by omega) (by omega) rfl rfl hlv2).mono ?_
                            rintro e w3 ⟨rfl, sd3, -⟩
                            go_wp2_with fail
                            refine (E.swapAt sd3 i' j' (by omega) (by omega) rfl rfl).mono ?_
                            rintro e w4 ⟨rfl, sd4, -⟩
                            go_wp2_with fail
                            exact ⟨⟨i' + 1, j' - 1, _, by go_num, by go_num, by omega, by omega, by omega, sd4, show _ = _ from (part_go ltS a i j dk hi2.out hj2.out (by omega)).symm.trans AE.out⟩, by simp [intOf]; omega⟩
                        · have hj2 : Hid (j' = Sort.scanDown (fun x => !ltS x dk[a]!) dk i' j) := (scanDown_end (fun x => !ltS x dk[a]!) dk i' j' (Or.inl hle2)).symm.trans hsd.out
                          go_wp2_with fail
                          refine (E.swapAt sd j' a (by omega) (by omega) rfl rfl).mono ?_
                          rintro e w4 ⟨rfl, sd4, -⟩
                          go_wp2_with fail
                          go_ret2
                          have e := part_break ltS a i j dk hi2.out hj2.out (by omega)
                          rw [PF.out, ← AE.out, e]
                          exact ⟨rfl, sd4⟩
                  · have hi2 : Hid (i' = Sort.scanUp (fun x => ltS x dk[a]!) dk j i) := (scanUp_end (fun x => ltS x dk[a]!) dk j i' (Or.inl hle)).symm.trans hsc.out
                    go_wp2_with fail
                    go_loopw [11] (fun vj w2 => ∃ (j' : Nat), vj = .int .i64 j' ∧ j' ≤ j ∧ i' ≤ j' + 1 ∧ St bh bc n w0 dk w2 ∧ Hid (Sort.scanDown (fun x => !ltS x dk[a]!) dk i' j' = Sort.scanDown (fun x => !ltS x dk[a]!) dk i' j)) (fun vj _ => (intOf vj).toNat)
                    case atStart => exact ⟨j, rfl, Nat.le_refl _, hij', su, rfl⟩
                    case round =>
                      obtain ⟨j', rfl, hjj, hij2, sd, hsd⟩ := hrel
                      by_cases hle2 : i' ≤ j'
                      · exfalso; omega
                      · have hj2 : Hid (j' = Sort.scanDown (fun x => !ltS x dk[a]!) dk i' j) := (scanDown_end (fun x => !ltS x dk[a]!) dk i' j' (Or.inl hle2)).symm.trans hsd.out
                        go_wp2_with fail
                        refine (E.swapAt sd j' a (by omega) (by omega) rfl rfl).mono ?_
                        rintro e w4 ⟨rfl, sd4, -⟩
                        go_wp2_with fail
                        go_ret2
                        have e := part_break ltS a i j dk hi2.out hj2.out (by omega)
                        rw [PF.out, ← AE.out, e]
                        exact ⟨rfl, sd4⟩
          · have hj2 : Hid (j' = Sort.scanDown (fun x => !ltS x dk[a]!) dk i' j) := (scanDown_end (fun x => !ltS x dk[a]!) dk i' j' (Or.inl hle2)).symm.trans hsd.out
            go_wp2_with fail
            refine (E.swapAt sd j' a (by omega) (by omega) rfl rfl).mono ?_
            rintro e w4 ⟨rfl, sd4, -⟩
            go_wp2_with fail
            go_ret2
            have e := part_first_break ltS d a b pivot Hi.out Hj.out Hdk.out hi2.out hj2.out (by omega)
            rw [e]
            exact ⟨rfl, sd4⟩
    · have hi2 : Hid (i' = Sort.scanUp (fun x => ltS x dk[a]!) dk j i) := (scanUp_end (fun x => ltS x dk[a]!) dk j i' (Or.inl hle)).symm.trans hsc.out
      go_wp2_with fail
      go_loopw [11] (fun vj w2 => ∃ (j' : Nat), vj = .int .i64 j' ∧ j' ≤ j ∧ i' ≤ j' + 1 ∧ St bh bc n w0 dk w2 ∧ Hid (Sort.scanDown (fun x => !ltS x dk[a]!) dk i' j' = Sort.scanDown (fun x => !ltS x dk[a]!) dk i' j)) (fun vj _ => (intOf vj).toNat)
      case atStart => exact ⟨j, rfl, Nat.le_refl _, hij', su, rfl⟩
      case round =>
        obtain ⟨j', rfl, hjj, hij2, sd, hsd⟩ := hrel
        by_cases hle2 : i' ≤ j'
        · exfalso; omega
        · have hj2 : Hid (j' = Sort.scanDown (fun x => !ltS x dk[a]!) dk i' j) := (scanDown_end (fun x => !ltS x dk[a]!) dk i' j' (Or.inl hle2)).symm.trans hsd.out
          go_wp2_with fail
          refine (E.swapAt sd j' a (by omega) (by omega) rfl rfl).mono ?_
          rintro e w4 ⟨rfl, sd4, -⟩
          go_wp2_with fail
          go_ret2
          have e := part_first_break ltS d a b pivot Hi.out Hj.out Hdk.out hi2.out hj2.out (by omega)
          rw [e]
          exact ⟨rfl, sd4⟩

end Go.Proofs.Ybulkbqzo
