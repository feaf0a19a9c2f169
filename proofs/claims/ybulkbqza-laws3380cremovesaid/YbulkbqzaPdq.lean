/-
  Seat b3380a. slices.pdqsortOrdered at uint32.
-/
import Derived.Test.YbulkbqzaHeapB
import Derived.Test.YbulkbqzaBreak
import Derived.Test.YbulkbqzaPartIns
import Derived.Test.YbulkbqzaPartEq
import Derived.Test.YbulkbqzaPart
import Derived.Shelf.GgSortFunc.Pdq
import Derived.Deep.CutRange
namespace Go.Proofs.Ybulkbqza
open Go.RowKit (Hid intOf)
open Go.Sort
set_option linter.unusedVariables false

set_option maxHeartbeats 12800000 in
set_option maxRecDepth 1000000 in
theorem pdqsort_calls (rb ro n cap : Nat) (hsz : n < 4611686018427387904) (hO : SWO ltInt) (w0 : World) (hrb : rb < w0.heap.size) :
    ∀ (N a b limit : Nat) (d : Array Int) (w : World), b - a < N → St rb ro n w0 d w → a ≤ b → b ≤ n → limit < 4611686018427387904 → Sort.Below ltInt a b d →
    Calls Yba.prog 19 #[.slice (some ⟨rb, ro, none⟩) n cap, .int .i64 a, .int .i64 b, .int .i64 limit] w fun e w' => e = .returned (.tuple #[]) ∧ St rb ro n w0 (pdq ltInt d a b limit true true) w' := by
  intro N
  induction N with
  | zero => intro _ _ _ _ _ h; exact absurd h (Nat.not_lt_zero _)
  | succ N ih =>
    intro a b limit d w hN st hab hb hlimit hBel0
    have IH : Hid _ := ih
    clear ih
    go_enter Yba.func19, Yba.ntmps19
    go_wp2_with fail
    go_loopg [1, 2, 3, 8, 9] (b - a) (fun k s1 s2 s3 s8 s9 wr => ∃ (a' b' lim : Nat) (wb wp : Bool) (dk : Array Int), s1 = .int .i64 a' ∧ s2 = .int .i64 b' ∧ s3 = .int .i64 lim ∧ s8 = .bool wb ∧ s9 = .bool wp ∧
      a' ≤ b' ∧ b' ≤ n ∧ b' - a' ≤ k ∧ k ≤ b - a ∧ lim ≤ limit ∧ Sort.Below ltInt a' b' dk ∧ St rb ro n w0 dk wr ∧ Hid (pdq ltInt dk a' b' lim wb wp = pdq ltInt d a b limit true true))
    case atStart => exact ⟨a, b, limit, true, true, d, rfl, rfl, rfl, rfl, rfl, hab, hb, Nat.le_refl _, Nat.le_refl _, Nat.le_refl _, hBel0, st, rfl⟩
    case round =>
      obtain ⟨a', b', lim, wb, wp, dk, rfl, rfl, rfl, rfl, rfl, hab', hb', hk, hkN, hlim, hBel, sk, A⟩ := hrel
      have hds := sk.size
      have HB : Hid (Sort.Below ltInt a' b' dk) := hBel
      clear hBel hBel0 st
      by_cases h12 : b' - a' ≤ 12
      · have h12z : (b' : Int) - (a' : Int) ≤ 12 := by omega
        go_wp2_with fail
        refine (insertionSort_calls rb ro n cap a' b' dk w0 _ sk hab' hb' hsz).mono ?_
        rintro e w1 ⟨rfl, sw1⟩
        go_wp2_with fail
        first | go_end0 | ((try simp only [Exit.inBlock, Exit.then]); refine bodyPost_ret (results_none rfl _ _ _) rfl ?_)
        exact ⟨rfl, by rw [← A.out, pdq_small h12]; exact sw1⟩
      · have h12z : ¬ ((b' : Int) - (a' : Int) ≤ 12) := by omega
        by_cases hl0 : lim = 0
        · subst hl0
          go_wp2_with fail
          refine (heapSort_calls rb ro n cap a' b' dk w0 _ sk hab' hb' hsz).mono ?_
          rintro e w1 ⟨rfl, sw1⟩
          go_wp2_with fail
          first | go_end0 | ((try simp only [Exit.inBlock, Exit.then]); refine bodyPost_ret (results_none rfl _ _ _) rfl ?_)
          exact ⟨rfl, by rw [← A.out, pdq_heap h12 rfl]; exact sw1⟩
        · have hl0z : ¬ ((lim : Int) = 0) := by omega
          obtain ⟨s1, B1, hc1, s2, B2, hpv, s3, B3⟩ := rd_facts (lt := ltInt) (limit := lim) (wb := wb) (wp := wp) hO partialInsertionSort_holds reverseRange_holds (show a' < b' by omega) (show b' ≤ dk.size by omega) HB.out
          have HB3 : Hid _ := B3
          clear B1 B2 B3
          go_upto_if 35 with fail
          go_cut [3] from 19 to 133 (fun s3 wc => s3 = .int .i64 (rd ltInt dk a' b' lim wb wp).lim ∧ St rb ro n w0 (rd ltInt dk a' b' lim wb wp).d1 wc)
          case first =>
            cases wb
            · go_wp2_with fail
              refine (breakPatterns_calls rb ro n cap hsz a' b' dk w0 _ sk hrb hab' hb').mono ?_
              rintro e w1 ⟨rfl, sw1⟩
              go_wp2_with fail
              go_meet
              case rel =>
                refine ⟨?_, sw1⟩
                show Value.int .i64 ((lim : Int) - 1) = Value.int .i64 ((lim - 1 : Nat) : Int)
                congr 1
                omega
            · go_wp2_with fail
              go_meet
              case rel => exact ⟨rfl, sk⟩
          case rest =>
            obtain ⟨rfl, sc1⟩ := hcut
            have hc17 : Calls Yba.prog 29 #[.slice (some ⟨rb, ro, none⟩) n cap, .int .i64 a', .int .i64 b'] wc fun e w' => e = .returned (.tuple #[.int .i64 (rd ltInt dk a' b' lim wb wp).c.1, .int .i64 (hintCode (rd ltInt dk a' b' lim wb wp).c.2)]) ∧ St rb ro n w0 (rd ltInt dk a' b' lim wb wp).d1 w' :=
              choosePivot_calls rb ro n cap hsz a' b' (rd ltInt dk a' b' lim wb wp).d1 w0 wc sc1 hrb (by omega) hb'
            go_upto_if 50 with (go_at_call 29; refine hc17.mono ?_; rintro e w2 ⟨rfl, sc2⟩)
            go_cut [11, 12] from 19 to 133 (fun s11 s12 wc => s11 = .int .i64 (rd ltInt dk a' b' lim wb wp).pivot ∧ s12 = .int .i64 (hintCode (rd ltInt dk a' b' lim wb wp).hint) ∧ St rb ro n w0 (rd ltInt dk a' b' lim wb wp).d2 wc)
            case first =>
              by_cases hh : (rd ltInt dk a' b' lim wb wp).c.2 = .decreasing
              · have hcode : hintCode (rd ltInt dk a' b' lim wb wp).c.2 = 2 := by rw [hh]; rfl
                obtain ⟨e2, epv, eht⟩ := rd_dec hh
                go_wp2_with (go_at_call 30; refine (reverseRange_calls rb ro n cap a' b' (rd ltInt dk a' b' lim wb wp).d1 w0 _ sc2 hab' hb' hsz).mono ?_; rintro e w3 ⟨rfl, sc3⟩)
                go_meet
                case rel =>
                  refine ⟨?_, by rw [eht]; rfl, by rw [e2]; exact sc3⟩
                  rw [epv]
                  congr 1
                  omega
              · have hcode : ¬ (hintCode (rd ltInt dk a' b' lim wb wp).c.2 = 2) := fun h => hh (hintCode_two h)
                obtain ⟨e2, epv, eht⟩ := rd_not hh
                go_wp2_with fail
                go_meet
                case rel => exact ⟨by rw [epv], by rw [eht], by rw [e2]; exact sc2⟩
            case rest =>
              obtain ⟨rfl, rfl, sc3⟩ := hcut
              go_upto_region 15 with fail
              go_cut [12, 68] from 19 to 133 (fun s12 s68 wx => s12 = .int .i64 (hintCode (rd ltInt dk a' b' lim wb wp).hint) ∧ s68 = .bool (wb && wp && decide ((rd ltInt dk a' b' lim wb wp).hint = .increasing)) ∧ wx = wc)
              case first =>
                cases wb <;> cases wp <;> cases hh3 : (rd ltInt dk a' b' lim _ _).hint <;>
                  (have hcode3 := congrArg hintCode hh3
                   simp only [hintCode] at hcode3
                   go_wp2_with fail
                   go_meet
                   exact ⟨by simp [hh3, hintCode], by simp [hh3, hintCode], rfl⟩)
              case rest =>
                obtain ⟨rfl, rfl, rfl⟩ := hcut
                go_upto_if 68 with fail
                go_cut [] from 19 to 133 (fun wx => (rd ltInt dk a' b' lim wb wp).pi.2 = false ∧ St rb ro n w0 (rd ltInt dk a' b' lim wb wp).pi.1 wx)
                case first =>
                  cases h68 : (wb && wp && decide ((rd ltInt dk a' b' lim wb wp).hint = .increasing))
                  · have epi := rd_pi_no h68
                    go_wp2_with fail
                    go_meet
                    case rel => exact ⟨by rw [epi], by rw [epi]; exact sc3⟩
                  · have epi := rd_pi_yes h68
                    have hc19 := partialInsertionSort_calls rb ro n cap hsz a' b' (rd ltInt dk a' b' lim wb wp).d2 w0 wc sc3 (by omega) hb'
                    rw [← epi] at hc19
                    go_wp2_with (go_at_call 31; refine hc19.mono ?_; rintro e w4 ⟨rfl, sc4⟩)
                    all_goals first
                      | (have hp2 : (rd ltInt dk a' b' lim wb wp).pi.2 = false := by rw [epi]; assumption
                         go_meet
                         exact ⟨hp2, sc4⟩)
                      | (have hp2 : (rd ltInt dk a' b' lim wb wp).pi.2 = true := by rw [epi]; assumption
                         (try simp only [Exit.inBlock, Exit.then]); refine bodyPost_ret (results_none rfl _ _ _) rfl ?_
                         refine ⟨rfl, ?_⟩
                         rw [← A.out, pdq_done h12 hl0 hp2]
                         exact sc4)
                case rest =>
                  obtain ⟨hp2, sc5⟩ := hcut
                  go_upto_region 17 with fail
                  go_cut [87] from 19 to 133 (fun s87 wx => s87 = .bool (decide (a' > 0) && !ltInt (rd ltInt dk a' b' lim wb wp).pi.1[a' - 1]! (rd ltInt dk a' b' lim wb wp).pi.1[(rd ltInt dk a' b' lim wb wp).pivot]!) ∧ St rb ro n w0 (rd ltInt dk a' b' lim wb wp).pi.1 wx)
                  case first =>
                    rcases Nat.eq_zero_or_pos a' with ha0 | ha0
                    · have ha0z : decide ((a' : Int) > 0) = false := decide_eq_false (by omega)
                      go_wp2_with fail
                      go_quiet (first | (go_at_call 32; refine Calls.quiet_of_same (less_calls _ _ _)))
                      go_wp2_with fail
                      go_meet
                      case rel => exact ⟨by simp [ha0], sc5.drewN nq⟩
                    · have ha0z : (a' : Int) > 0 := by omega
                      obtain ⟨G, hG, hcw, hfw⟩ := sc5.fam
                      have HG : Hid (∀ t, G t = (rd ltInt dk a' b' lim wb wp).pi.1[t]!) := hG
                      have SU : Hid (St rb ro n w0 (rd ltInt dk a' b' lim wb wp).pi.1 wc) := sc5
                      clear hG
                      cases hlv : ltInt (G (a' - 1)) (G (rd ltInt dk a' b' lim wb wp).pivot) <;>
                        (go_wp2_with fail
                         go_quiet (first | (go_at_call 32; refine Calls.quiet_of_same (less_calls _ _ _)))
                         go_wp2_with fail
                         go_meet
                         rw [HG.out, HG.out] at hlv
                         exact ⟨by simp [ha0, hlv], SU.out.drewN nq⟩)
                  case rest =>
                    obtain ⟨rfl, sc6⟩ := hcut
                    cases h87 : (decide (a' > 0) && !ltInt (rd ltInt dk a' b' lim wb wp).pi.1[a' - 1]! (rd ltInt dk a' b' lim wb wp).pi.1[(rd ltInt dk a' b' lim wb wp).pivot]!)
                    · obtain ⟨mid, ap, d4, hx⟩ : ∃ mid ap d4, partition ltInt (rd ltInt dk a' b' lim wb wp).pi.1 a' b' (rd ltInt dk a' b' lim wb wp).pivot = (mid, ap, d4) := ⟨(partition ltInt (rd ltInt dk a' b' lim wb wp).pi.1 a' b' (rd ltInt dk a' b' lim wb wp).pivot).1, (partition ltInt (rd ltInt dk a' b' lim wb wp).pi.1 a' b' (rd ltInt dk a' b' lim wb wp).pivot).2.1, (partition ltInt (rd ltInt dk a' b' lim wb wp).pi.1 a' b' (rd ltInt dk a' b' lim wb wp).pivot).2.2, rfl⟩
                      obtain ⟨r1, r2, r3, r4, r5, r6, r7⟩ := round_part hO (partition_holds ltInt) hpv.1 hpv.2 (show b' ≤ (rd ltInt dk a' b' lim wb wp).pi.1.size by omega) HB3.out hx
                      have hc22 := partition_calls rb ro n cap hsz a' b' (rd ltInt dk a' b' lim wb wp).pivot (rd ltInt dk a' b' lim wb wp).pi.1 w0 wc sc6 hpv.1 hpv.2 hb'
                      rw [hx] at hc22
                      have X : Hid (partition ltInt (rd ltInt dk a' b' lim wb wp).pi.1 a' b' (rd ltInt dk a' b' lim wb wp).pivot = (mid, ap, d4)) := hx
                      have R4 : Hid _ := r4
                      have R5 : Hid _ := r5
                      have R6 : Hid _ := r6
                      have R7 : Hid _ := r7
                      clear hx r4 r5 r6 r7
                      go_upto_if 113 with (go_at_call 34; refine hc22.mono ?_; rintro e w7 ⟨rfl, sc7⟩)
                      have hx := X.out
                      have hs4 := sc7.size
                      by_cases h4 : mid - a' < b' - mid
                      · have h4z : (mid : Int) - (a' : Int) < (b' : Int) - (mid : Int) := by omega
                        have hih := IH.out a' mid (rd ltInt dk a' b' lim wb wp).lim d4 w7 (by omega) sc7 (by omega) (by omega) (Nat.lt_of_le_of_lt (Nat.le_trans rd_lim_le hlim) hlimit) R4.out
                        obtain ⟨pL, sL⟩ := pdq_sorts ltInt hO d4 a' mid (rd ltInt dk a' b' lim wb wp).lim true true (by omega) (by omega) R4.out
                        have PL : Hid _ := pL
                        have SL : Hid _ := sL
                        clear pL sL hx
                        go_wp2_with (go_at_call 19; refine hih.mono ?_; rintro e w8 ⟨rfl, sc8⟩)
                        go_roundg (b' - (mid + 1))
                        case measure => omega
                        case rel =>
                          have hx := X.out
                          refine ⟨mid + 1, b', (rd ltInt dk a' b' lim wb wp).lim, decide (mid - a' ≥ (b' - a') / 8), ap, pdq ltInt d4 a' mid (rd ltInt dk a' b' lim wb wp).lim true true, by simp, rfl, rfl, ?_, rfl, by omega, by omega, Nat.le_refl _, by omega, Nat.le_trans rd_lim_le hlim, (R6.out _ PL.out SL.out).1, sc8, ?_⟩
                          · exact congrArg Value.bool (eighth (by omega) (by omega))
                          · show _ = _
                            rw [← A.out, pdq_left h12 hl0 hp2 h87 (by rw [hx]; exact ⟨r1, r2⟩) (by rw [hx]; exact h4), hx]
                      · have h4z : ¬ ((mid : Int) - (a' : Int) < (b' : Int) - (mid : Int)) := by omega
                        have hih := IH.out (mid + 1) b' (rd ltInt dk a' b' lim wb wp).lim d4 w7 (by omega) sc7 (by omega) (by omega) (Nat.lt_of_le_of_lt (Nat.le_trans rd_lim_le hlim) hlimit) R5.out
                        rw [show ((mid + 1 : Nat) : Int) = (mid : Int) + 1 by omega] at hih
                        obtain ⟨pL, sL⟩ := pdq_sorts ltInt hO d4 (mid + 1) b' (rd ltInt dk a' b' lim wb wp).lim true true (by omega) (by omega) R5.out
                        have PL : Hid _ := pL
                        have SL : Hid _ := sL
                        clear pL sL hx
                        go_wp2_with (go_at_call 19; refine hih.mono ?_; rintro e w8 ⟨rfl, sc8⟩)
                        go_roundg (mid - a')
                        case measure => omega
                        case rel =>
                          have hx := X.out
                          refine ⟨a', mid, (rd ltInt dk a' b' lim wb wp).lim, decide (b' - mid ≥ (b' - a') / 8), ap, pdq ltInt d4 (mid + 1) b' (rd ltInt dk a' b' lim wb wp).lim true true, rfl, rfl, rfl, ?_, rfl, by omega, by omega, Nat.le_refl _, by omega, Nat.le_trans rd_lim_le hlim, (R7.out _ PL.out SL.out).1, sc8, ?_⟩
                          · exact congrArg Value.bool (eighth (by omega) (by omega))
                          · show _ = _
                            rw [← A.out, pdq_right h12 hl0 hp2 h87 (by rw [hx]; exact ⟨r1, r2⟩) (by rw [hx]; exact h4), hx]
                    · have h87' := h87
                      simp only [Bool.and_eq_true, decide_eq_true_eq, Bool.not_eq_true'] at h87'
                      obtain ⟨mid, d4, hx⟩ : ∃ mid d4, partitionEqual ltInt (rd ltInt dk a' b' lim wb wp).pi.1 a' b' (rd ltInt dk a' b' lim wb wp).pivot = (mid, d4) := ⟨(partitionEqual ltInt (rd ltInt dk a' b' lim wb wp).pi.1 a' b' (rd ltInt dk a' b' lim wb wp).pivot).1, (partitionEqual ltInt (rd ltInt dk a' b' lim wb wp).pi.1 a' b' (rd ltInt dk a' b' lim wb wp).pivot).2, rfl⟩
                      obtain ⟨r1, r2, r3, r4, _⟩ := round_eq hO (partitionEqual_holds ltInt) h87'.1 hpv.1 hpv.2 (show b' ≤ (rd ltInt dk a' b' lim wb wp).pi.1.size by omega) HB3.out h87'.2 hx
                      have hc21 := partitionEqual_calls rb ro n cap hsz a' b' (rd ltInt dk a' b' lim wb wp).pivot (rd ltInt dk a' b' lim wb wp).pi.1 w0 wc sc6 hpv.1 hpv.2 hb'
                      rw [hx] at hc21
                      have X : Hid (partitionEqual ltInt (rd ltInt dk a' b' lim wb wp).pi.1 a' b' (rd ltInt dk a' b' lim wb wp).pivot = (mid, d4)) := hx
                      have R4 : Hid _ := r4
                      clear hx h87' r4
                      go_wp2_with (go_at_call 33; refine hc21.mono ?_; rintro e w7 ⟨rfl, sc7⟩)
                      go_roundg (b' - mid)
                      case measure => omega
                      case rel =>
                        have hx := X.out
                        exact ⟨mid, b', (rd ltInt dk a' b' lim wb wp).lim, wb, wp, d4, rfl, rfl, rfl, rfl, rfl, r2, hb', Nat.le_refl _, by omega, Nat.le_trans rd_lim_le hlim, R4.out, sc7, show _ = _ from by rw [← A.out, pdq_eq h12 hl0 hp2 h87 (by rw [hx]; exact ⟨r1, r2⟩), hx]⟩

end Go.Proofs.Ybulkbqza
