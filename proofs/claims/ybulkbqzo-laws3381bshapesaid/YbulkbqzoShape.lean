/-
  Seat b3381a. LawS3381BShape: the walk.
-/
import Derived.Test.YbulkbqzoNewA
import Derived.Test.YbulkbqzoEvents
import Derived.Deep.CutRange
namespace Go.Proofs.Ybulkbqzo
open Go.RowKit Go.Maps
set_option linter.unusedVariables false

set_option maxRecDepth 100000 in
theorem shape_long (ao : Option Addr) (N cap : Nat) (w : World) (h : 1024 < N) :
    Calls Yba.prog 3 #[.slice ao N cap] w fun e w' => e = .returned (.bool true) ∧ Below w.heap.size w w' := by
  have hz : (1024 : Int) < (N : Int) := by omega
  go_enter Yba.func3, Yba.ntmps3
  go_wp2_with fail
  go_ret
  exact ⟨rfl, Below.refl _ _⟩

set_option maxHeartbeats 4000000 in
set_option maxRecDepth 100000 in
theorem shape_short (ao : Option Addr) (N cap : Nat) (hs : Nat → ByteArray) (w : World) (hN : N ≤ 1024) (arg : Arg ao N hs w) :
    Calls Yba.prog 3 #[.slice ao N cap] w fun e w' => e = .returned (.bool true) ∧ Below w.heap.size w w' := by
  have hz : ¬ (1024 : Int) < (N : Int) := by omega
  have mk23 := make23 N hN
  go_enter Yba.func3, Yba.ntmps3
  go_wp2_with fail
  go_loopw [4] (fun vi wr => ∃ i : Nat, vi = .int .i64 i ∧ i ≤ N ∧ Le w hs N i wr) (fun vi _ => N - (intOf vi).toNat)
  case atStart => exact ⟨0, rfl, by omega, le_start w hs N⟩
  case round =>
    obtain ⟨i, rfl, hi, le⟩ := hrel
    have LE : Hid _ := le
    by_cases hlt : i < N
    · obtain ⟨b, off, rfl, hbl, hcell⟩ := arg.at_ (by omega)
      have ci : wr.cell? ⟨b, off + i, none⟩ = some (.string (hs i)) := (le.below.cell (p := ⟨b, off + i, none⟩) hbl).trans (hcell i hlt)
      have c0 := le.row.cell (i := i * 4) (by omega)
      have c1 := le.row.cell (i := i * 4 + 1) (by omega)
      have c2 := le.row.cell (i := i * 4 + 2) (by omega)
      have c3 := le.row.cell (i := i * 4 + 3) (by omega)
      have f0 := le.row.frozen (i * 4)
      have f1 := le.row.frozen (i * 4 + 1)
      have f2 := le.row.frozen (i * 4 + 2)
      have f3 := le.row.frozen (i * 4 + 3)
      generalize evTo hs i (i * 4) = x0 at c0
      generalize evTo hs i (i * 4 + 1) = x1 at c1
      generalize evTo hs i (i * 4 + 2) = x2 at c2
      generalize evTo hs i (i * 4 + 3) = x3 at c3
      clear le hcell
      go_wp2_with fail

      exact ⟨⟨i + 1, by go_num, by omega, LE.out.step hlt⟩, by simp [intOf]; omega⟩
    · obtain rfl : i = N := by omega
      have hEB : w.heap.size < wr.heap.size := by rw [le.size]; omega
      have arg2 : Arg ao i hs wr := arg.below le.below
      have hc := newHosts_calls w.heap.size i i hs wr hN (Nat.le_refl _) hEB le.done arg.sizes
      clear le mk23
      go_wp2_with fail
      refine hc.mono ?_
      rintro e w2 ⟨P, f, ho, co, hb, cb, ch, cc, VB, OB, AB, UB, rfl, inv, asc, idx, lb⟩
      have INV : Hid (Inv hs i P) := inv
      have ASC : Hid (Asc P) := asc
      have IDX : Hid (Idx (P.map (·.1)) f) := idx
      have LB : Hid (Lb wr wr.heap.size f P ho co hb cb ch cc VB OB AB UB i (rooms P AB 4 P.length) (rooms P UB 1 P.length) w2) := lb
      have cR0 : w2.cell? ⟨wr.heap.size + 1, 0, none⟩ = some (.slice ho P.length ch) := lb.ls.run.cell (by omega)
      have cR1 : w2.cell? ⟨wr.heap.size + 1, 1, none⟩ = some (.slice (some ⟨VB, 0, none⟩) P.length P.length) := lb.ls.run.cell (by omega)
      have cR2 : w2.cell? ⟨wr.heap.size + 1, 2, none⟩ = some (.map (some wr.heap.size)) := lb.ls.run.cell (by omega)
      have cR3 : w2.cell? ⟨wr.heap.size + 1, 3, none⟩ = some (.pointer none) := lb.ls.run.cell (by omega)
      have hml := lb.ls.map.len 3
      have hPi : P.length ≤ i := inv.le
      have arg3 : Arg ao i hs w2 := arg2.below lb.ls.below
      have er : w2.rowIs w.heap.size 28 (i * 4) (evCell hs) := LE.out.done.of_block (lb.ls.below.block _ hEB)
      have ER : Hid (w2.rowIs w.heap.size 28 (i * 4) (evCell hs)) := er
      have BW : Hid (Below w.heap.size w w2) := LE.out.below.trans (lb.ls.below.mono (by omega))
      have ARG : Hid (Arg ao i hs w2) := arg3
      clear inv asc idx lb hc arg2 arg3 arg er
      go_wp2_with fail
      go_loopw [8, 9] (fun s8 s9 wq => ∃ q : Nat, s9 = .int .i64 q ∧ q ≤ P.length ∧ s8 = .int .i64 (offTo P q : Nat) ∧ w2 = wq) (fun _ s9 _ => P.length - (intOf s9).toNat)
      case atStart => exact ⟨0, rfl, by omega, rfl, rfl⟩
      case round =>
        obtain ⟨q, rfl, hq, rfl, rfl⟩ := hrel
        have hoff : offTo P q ≤ i := by
          have h1 := offTo_le P q P.length hq (Nat.le_refl _)
          rw [offTo_all, INV.out.sum] at h1
          exact h1
        by_cases hlt2 : q < P.length
        · obtain rfl := LB.out.ls.hoIs (by omega)
          have hcap1 := LB.out.ls.hcap
          have cH := LB.out.ls.hcell q hlt2
          have hpos := INV.out.pos q hlt2
          have hcnt := INV.out.cnt q hlt2
          have hle := INV.out.bound q hlt2
          have hos := offTo_succ P q hlt2
          have cV : w2.cell? ⟨VB, q, none⟩ = some (.slice (some ⟨AB, offTo P q * 4, none⟩) 0 P[q].2) := by rw [LB.out.evs.cell hlt2]; unfold rooms; rw [if_pos hlt2]; simp [hlt2]
          have cO : w2.cell? ⟨OB, q, none⟩ = some (.slice (some ⟨UB, offTo P q * 1, none⟩) 0 P[q].2) := by rw [LB.out.own.cell hlt2]; unfold rooms; rw [if_pos hlt2]; simp [hlt2]
          have hidx : f P[q].1.data.toList = some q := by have := IDX.out.yes q (by simpa using hlt2); rw [List.getElem_map] at this; exact this
          have hsS : P[q].1.size ≤ maxLen := by
            obtain ⟨j, hj, e⟩ := cntTo_mem hs P[q].1 i (by omega)
            rw [← e]; exact ARG.out.sizes j hj
          have hlook := LB.out.ls.map.look P[q].1 hsS
          rw [hidx] at hlook
          simp only [Option.isSome_some, Option.getD_some] at hlook
          have hprev : 0 < q → ∃ T, w2.cell? ⟨hb, q - 1, none⟩ = some (.string T) ∧ Op.bytesLess T.toList P[q].1.toList = true := fun h0 =>
            ⟨P[q - 1].1, LB.out.ls.hcell (q - 1) (by omega), by
              have h1 := ASC.out
              unfold Asc at h1
              rw [List.pairwise_iff_getElem] at h1
              exact h1 (q - 1) q (by omega) hlt2 (by omega)⟩
          generalize P[q].1 = S at *
          generalize P[q].2 = c at *
          generalize hoo : offTo P q = o at *
          have HCN : Hid (c = cntTo hs i S) := hcnt
          have HOS : Hid (offTo P (q + 1) = o + c) := hos
          have hbo : o + c ≤ i := by
            have h1 := offTo_le P (q + 1) P.length (by omega) (Nat.le_refl _)
            rw [offTo_all, INV.out.sum, HOS.out] at h1
            exact h1
          have HPV : Hid _ := hprev
          clear hcnt hos hoo hidx hprev
          go_upto_region 19 with fail
          go_cut [98] from 72 to 98 (fun s98 wc => s98 = .bool false ∧ w2 = wc)
          case first =>
            by_cases hq0 : q = 0
            · have hz0 : decide ((q : Int) > 0) = false := decide_eq_false (by omega)
              go_wp2_with fail
              go_meet
              case rel => exact ⟨rfl, rfl⟩
            · obtain ⟨T, cT, hlT⟩ := HPV.out (by omega)
              obtain ⟨p, rfl⟩ : ∃ p, q = p + 1 := ⟨q - 1, by omega⟩
              simp only [Nat.add_sub_cancel] at cT
              go_wp2_with fail
              go_meet
              case rel => exact ⟨rfl, rfl⟩
          case rest =>
            obtain ⟨rfl, rfl⟩ := hcut
            go_wp2_with fail
            go_loopw [11, 12] (fun s11 s12 wq => ∃ j : Nat, s12 = .int .i64 j ∧ j ≤ i ∧ s11 = .int .i64 (cntTo hs j S : Nat) ∧ w2 = wq) (fun _ s12 _ => i - (intOf s12).toNat)
            case atStart => exact ⟨0, rfl, by omega, rfl, rfl⟩
            case round =>
              obtain ⟨j, rfl, hj, rfl, rfl⟩ := hrel
              have hcl := cntTo_le hs S j
              by_cases hj2 : j < i
              · obtain ⟨b, off, rfl, hbl, hcell⟩ := ARG.out.at_ (by omega)
                have cj := hcell j hj2
                have hstep : cntTo hs (j + 1) S = cntTo hs j S + if hs j = S then 1 else 0 := rfl
                generalize cntTo hs j S = t at *
                have HST : Hid (cntTo hs (j + 1) S = t + if hs j = S then 1 else 0) := hstep
                clear hcell hstep
                by_cases he : hs j = S
                · have hb1 : ((hs j).toList == S.toList) = true := by rw [he]; simp
                  have HE : Hid (hs j = S) := he
                  clear he
                  go_wp2_with fail
                  refine ⟨⟨j + 1, by go_num, by omega, ?_, by first | rfl | trivial⟩, by simp [intOf]; omega⟩
                  rw [HST.out, if_pos HE.out]
                  go_num
                · have hb1 : ((hs j).toList == S.toList) = false := by
                    rw [ByteArray.toList_eq, ByteArray.toList_eq, beq_eq_false_iff_ne]
                    exact fun e => he (data_inj e)
                  have HE : Hid (hs j ≠ S) := he
                  clear he
                  go_wp2_with fail
                  refine ⟨⟨j + 1, by go_num, by omega, ?_, by first | rfl | trivial⟩, by simp [intOf]; omega⟩
                  rw [HST.out, if_neg HE.out]
                  rfl
              · obtain rfl : j = i := by omega
                rw [← HCN.out] at *
                have hc0 : ((c : Int) == 0) = false := by rw [beq_eq_false_iff_ne]; omega
                go_wp2_with fail
                refine ⟨⟨q + 1, by go_num, by omega, ?_, by first | rfl | trivial⟩, by simp [intOf]; omega⟩
                rw [HOS.out]
                go_num
        · obtain rfl : q = P.length := by omega
          have htot : offTo P P.length = i := by rw [offTo_all, INV.out.sum]
          rw [htot]
          clear htot hoff
          go_wp2_with fail
          go_loopw [15] (fun s15 wq => ∃ j n : Nat, s15 = .int .i64 j ∧ j ≤ i ∧ w2.drewN n = wq) (fun s15 _ => i - (intOf s15).toNat)
          case atStart => exact ⟨0, 0, rfl, by omega, rfl⟩
          case round =>
            obtain ⟨j, n, rfl, hj, rfl⟩ := hrel
            by_cases hj2 : j < i
            · obtain ⟨b, off, rfl, hbl, hcell⟩ := ARG.out.at_ (by omega)
              have cj : (w2.drewN n).cell? ⟨b, off + j, none⟩ = some (.string (hs j)) := hcell j hj2
              have e0 : (w2.drewN n).cell? ⟨w.heap.size, j * 4, none⟩ = some (.string (hs j)) := by
                have := ER.out.cell (i := j * 4) (by omega); rw [evCell0] at this; exact this
              have e3 : (w2.drewN n).cell? ⟨w.heap.size, j * 4 + 3, none⟩ = some (.int .i64 ((j : Int) + 1)) := by
                have := ER.out.cell (i := j * 4 + 3) (by omega); rw [evCell3] at this; exact this
              have hne1 : ((hs j).toList != (hs j).toList) = false := by simp
              have hne2 : (((j : Int) + 1) != ((j : Int) + 1)) = false := by simp
              clear hcell
              generalize hW : w2.drewN n = W at *
              have HW : Hid _ := hW
              clear hW
              go_wp2_with fail
              go_quiet (fail)
              go_wp2_with fail
              exact ⟨⟨j + 1, n + nq, by go_num, by omega, by rw [← HW.out, World.drewN_drewN]⟩, by simp [intOf]; omega⟩
            · have cR3' : (w2.drewN n).cell? ⟨wr.heap.size + 1, 3, none⟩ = some (.pointer none) := cR3
              have B2 : Hid (Below w.heap.size w (w2.drewN n)) := BW.out.trans ((drewN_below _ _).mono BW.out.size)
              generalize w2.drewN n = W at *
              go_wp2_with fail
              go_ret
              exact ⟨rfl, B2.out⟩

end Go.Proofs.Ybulkbqzo
