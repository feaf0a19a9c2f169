/-
  Seat b3381a. newHosts, its first loop.
-/
import Derived.Test.YbulkbqzoLb
import Derived.Deep.CutRange
import Derived.Deep.LoopGhost
import Derived.RegionTactic
import Derived.BigRegion
import Derived.Deep.QuietTactic
import Derived.BigQuiet
namespace Go.Proofs.Ybulkbqzo
open Go.RowKit Go.Maps
set_option linter.unusedVariables false

theorem Yba.info9 : (Yba.prog.info? 9).map (fun i => (i.zero, i.size, i.bytes)) = some (some (.string ByteArray.empty), 1, 16) := by kernel_rfl
theorem Yba.info3 : (Yba.prog.info? 3).map (fun i => (i.zero, i.size, i.bytes)) = some (some (.int .i64 0), 1, 8) := by kernel_rfl

theorem look_all {w : World} {b : Nat} {f : List UInt8 → Option Nat} {n : Nat} (h : MapIs w b f n) (s : ByteArray) (hs : s.size ≤ maxLen) (q : Nat) :
    (Instr.lookup 34 (.map (some b)) (.string s) true).run Yba.prog (w.drewN q) = .ok (.tuple #[.int .i64 ((f s.data.toList).getD 0 : Nat), .bool (f s.data.toList).isSome]) (w.drewN q) :=
  (h.of_block (w' := w.drewN q) rfl).look s hs

set_option maxHeartbeats 4000000 in
set_option maxRecDepth 100000 in
theorem newHosts_calls (EB N ecap : Nat) (hs : Nat → ByteArray) (w : World) (hN : N ≤ 1024) (hcap : N ≤ ecap) (hEB : EB < w.heap.size) (hev : w.rowIs EB 28 (N * 4) (evCell hs)) (hsz : ∀ i, i < N → (hs i).size ≤ maxLen) :
    Calls Yba.prog 5 #[.slice (some ⟨EB, 0, none⟩) N ecap] w fun e w' => ∃ P f ho co hb cb ch cc VB OB AB UB,
      e = .returned (.tuple #[.pointer (some ⟨w.heap.size + 1, 0, none⟩), .slice (some ⟨OB, 0, none⟩) P.length P.length]) ∧ Inv hs N P ∧ Asc P ∧ Idx (P.map (·.1)) f ∧
      Lb w w.heap.size f P ho co hb cb ch cc VB OB AB UB N (rooms P AB 4 P.length) (rooms P UB 1 P.length) w' := by
  have hmm := @run_makeMap Yba.prog
  obtain ⟨i9, hi9, hz9, hs9, hb9⟩ := info_parts Yba.info9
  obtain ⟨i3, hi3, hz3, hs3, hb3⟩ := info_parts Yba.info3
  go_enter Yba.func5, Yba.ntmps5
  go_wp2_with fail
  go_loopw [4, 18] (fun vc vi wr => ∃ (k : Nat) (P : List (ByteArray × Nat)) (f : List UInt8 → Option Nat) (vh : Value), vi = .int .i64 k ∧ k ≤ N ∧ Inv hs k P ∧ Idx (P.map (·.1)) f ∧
      Lw w w.heap.size f P.length (P.map (·.1)) (P.map (·.2)) vh vc wr) (fun _ vi _ => N - (intOf vi).toNat)
  case atStart => exact ⟨0, [], fun _ => none, .slice none 0 0, rfl, by omega, Inv.zero hs, Idx.nil, lw_start w⟩
  case round =>
    obtain ⟨k, P, f, vh, rfl, hk, inv, idx, lw⟩ := hrel
    have INV : Hid (Inv hs k P) := inv
    have IDX : Hid (Idx (P.map (·.1)) f) := idx
    have LW : Hid (Lw w w.heap.size f P.length (P.map (·.1)) (P.map (·.2)) vh u4 wr) := lw
    have hPk : P.length ≤ k := inv.le
    by_cases hlt : k < N
    · have er : wr.rowIs EB 28 (N * 4) (evCell hs) := hev.of_block (lw.below.block EB hEB)
      have c0 := er.cell (i := k * 4) (by omega)
      have c1 := er.cell (i := k * 4 + 1) (by omega)
      have c2 := er.cell (i := k * 4 + 2) (by omega)
      have c3 := er.cell (i := k * 4 + 3) (by omega)
      rw [evCell0] at c0; rw [evCell1] at c1; rw [evCell2] at c2; rw [evCell3] at c3
      have hsk := hsz k hlt
      generalize hS : hs k = S at c0 hsk
      have HS : Hid (hs k = S) := hS
      clear hS inv idx lw er hev hsz
      go_wp2_with fail
      obtain ⟨W, hW⟩ : ∃ W, W = wr.alloc (Obj.cells #[Value.string S, Value.slice none 0 0, Value.string ByteArray.empty, Value.int IntKind.i64 (k + 1)] 28) := ⟨_, rfl⟩
      have LW1 : Hid (Lw w w.heap.size f P.length (P.map (·.1)) (P.map (·.2)) vh u4 W) := by rw [hW]; exact LW.out.of_below ((Below.refl _ _).alloc (Nat.le_refl _) _)
      have cE : W.cell? ⟨wr.heap.size, 0, none⟩ = some (.string S) := by rw [hW]; simp
      have cR : W.cell? ⟨w.heap.size + 1, 2, none⟩ = some (.map (some w.heap.size)) := LW1.out.run.cell (by omega)
      have hlook := look_all LW1.out.map S hsk
      have hlook0 := hlook 0
      change Sem.run _ _ W = Result.ok _ W at hlook0
      rw [← hW]
      clear hW
      rcases IDX.out.isSome S with ⟨hmem, j, hj, hjS, hfj⟩ | ⟨hmem, hfn⟩
      · rw [hfj] at hlook hlook0
        simp only [Option.isSome_some, Option.getD_some] at hlook hlook0
        go_quiet (fail)
        have LW2 : Lw w w.heap.size f P.length (P.map (·.1)) (P.map (·.2)) vh u4 (W.drewN nq) := LW1.out.of_below (drewN_below _ _)
        have hj' : j < P.length := by simpa using hj
        obtain ⟨g, cap, hv, hg, hgl, hc1, hc2, hcell, hfr⟩ := ownsRow_form1 LW2.own2 (by simp; omega)
        simp only [List.length_map] at hv hc1
        subst hv
        have cj : (W.drewN nq).cell? ⟨g, j, none⟩ = some (.int .i64 (P[j].2 : Int)) := hcell j _ (by simp [hj'])
        have fj := hfr j
        have hb1 := INV.out.bound j hj'
        generalize hc : P[j].2 = c at cj hb1
        have HC : Hid (P[j].2 = c) := hc
        have HJ : Hid (P[j].1 = S) := by show P[j].1 = S; simpa using hjS
        have L2 : Hid _ := LW2
        generalize W.drewN nq = W2 at *
        clear LW2 hcell hfr hc hjS hlook hlook0 cR cE
        go_wp2_with fail
        obtain ⟨P', f1, f2, f3⟩ := lw_hit INV.out IDX.out L2.out hg j hj' (HJ.out.trans HS.out.symm) (x := (c : Int) + 1) (by rw [HC.out])
        exact ⟨⟨k + 1, P', f, vh, by go_num, by omega, f1, f2, f3⟩, by simp [intOf]; omega⟩
      · rw [hfn] at hlook hlook0
        simp only [Option.isSome_none, Option.getD_none] at hlook hlook0
        go_quiet (fail)
        have LW2 : Lw w w.heap.size f P.length (P.map (·.1)) (P.map (·.2)) vh u4 (W.drewN nq) := LW1.out.of_below (drewN_below _ _)
        have cE2 : (W.drewN nq).cell? ⟨wr.heap.size, 0, none⟩ = some (.string S) := cE
        have HM : Hid (S ∉ P.map (·.1)) := hmem
        have HFN : Hid (f S.data.toList = none) := hfn
        obtain ⟨ao, cap, hvh⟩ : ∃ ao cap, vh = .slice ao P.length cap := by
          rcases Nat.eq_zero_or_pos P.length with h0 | h0
          · rcases LW2.own1.2 with ⟨h1, h2⟩ | ⟨g, cap, cur, h1, _⟩
            · exact ⟨none, 0, by rw [h1, h0]⟩
            · exact ⟨_, cap, by simpa using h1⟩
          · obtain ⟨g, cap, hv, _⟩ := ownsRow_form1 LW2.own1 (by simp; omega)
            exact ⟨_, cap, by simpa using hv⟩
        subst hvh
        generalize W.drewN nq = W2 at *
        have cR0 : W2.cell? ⟨w.heap.size + 1, 0, none⟩ = some (.slice ao P.length cap) := LW2.run.cell (by omega)
        have cR2 : W2.cell? ⟨w.heap.size + 1, 2, none⟩ = some (.map (some w.heap.size)) := LW2.run.cell (by omega)
        obtain ⟨W3, hrun3, hsz3, hblk3, LW3⟩ := (LW2.of_below (w' := W2.drew) (Below.refl _ _).drew).store (by unfold maxLen; omega) S hsk P.length (by omega)
        rw [HFN.out] at LW3
        simp only [Option.isSome_none, if_neg Bool.false_ne_true] at LW3
        have L3 : Hid _ := LW3
        have cE3 : W3.cell? ⟨wr.heap.size, 0, none⟩ = some (.string S) := (World.cell?_of_block (w := W2.drew) (a := ⟨wr.heap.size, 0, none⟩) (hblk3 _ (by show wr.heap.size ≠ w.heap.size; have := LW.out.lt; omega))).trans cE2
        clear LW2 LW3 hlook hlook0 cR cE hmem hfn hblk3 hsz3
        go_wp2_with fail
        go_region
        go_wp2_with fail
        have cR3 : W3.cell? ⟨w.heap.size + 1, 0, none⟩ = some (.slice ao P.length cap) := L3.out.run.cell (by omega)
        have hRlt : w.heap.size + 1 < W3.heap.size := L3.out.run.lt
        have hO : ∀ w', Below W3.heap.size W3 w' → Lw w w.heap.size (fun l => if l = S.data.toList then some P.length else f l) (P.length + 1) (P.map (·.1)) (P.map (·.2)) (.slice ao P.length cap) u4 w' := fun w' hb => L3.out.of_below hb
        have HO : Hid _ := hO
        clear hO hrun3 cR0 cR2 cE2
        go_region_law (
          have hb4 := HO.out ((W3.alloc (Obj.cells #[Value.string S] 9)).drew) (((Below.refl _ _).alloc (Nat.le_refl _) _).drew)
          refine step_append_own rfl (.tmp 54) (.tmp 57) 22 rfl (w.heap.size + 2) 9 i9 (.string ByteArray.empty) 1 16 Yba.underlying22 hi9 hz9 hs9 hb9 rfl (by decide) (.slice ao P.length cap) P.length ((P.map (·.1)).map Value.string) (by simp [Act.eval]) (by simpa using hb4.own1) ⟨W3.heap.size, 0, none⟩ 1 1 [.string S] (by simp [Act.eval]) rfl (fun j u hj => by match j, hj with | 0, hj => simp at hj; subst hj; simp [Addr.add]) (fun u hu => by simp at hu; subst hu; rfl) (by unfold maxLen; omega) (by omega) (by have := hb4.lt; omega) ?_
          intro v' w' hown' hgrow'
          obtain ⟨g', cap', rfl, hg', hgl', hcc1, hcc2, -, -⟩ := ownsRow_form1 hown' (by omega)
          have rr := hb4.run_after hgrow'
          have cr' := rr.cell (i := 0) (by omega)
          have fr' := rr.frozen 0
          have LW4 : Hid _ := hb4.host hgrow' S (vh' := .slice (some ⟨g', 0, none⟩) (P.length + 1) cap') (by simpa using hown')
          clear rr hown' hgrow' hb4)
        all_goals (
          clear HO hRlt cr' fr'
          generalize w'.setCell { block := w.heap.size + 1, off := 0 } (Value.slice (some { block := g', off := 0 }) (P.length + 1) cap') = W5 at *
          go_wp2_with (at_builtin; refine wpList_append_own _ rfl (.tmp 61) (.tmp 62) 42 rfl (w.heap.size + 2) 3 i3 (.int .i64 0) 1 8 Yba.underlying42 hi3 hz3 hs3 hb3 rfl (by decide) u4 (P.map (·.2)).length _ rfl (LW4.out.of_below ((Below.refl _ _).alloc (Nat.le_refl _) _)).own2 ⟨W5.heap.size, 0, none⟩ 1 1 [.int .i64 1] rfl rfl (fun j u hj => by match j, hj with | 0, hj => simp at hj; subst hj; simp [Addr.add]) (fun u hu => by simp at hu; subst hu; rfl) (by simp; unfold maxLen; omega) (by simp; omega) (by have := LW4.out.lt; simp; omega) ?_; intro v' w6 hown6 hgrow6 _)
          have LW6 := (LW4.out.of_below ((Below.refl _ _).alloc (Nat.le_refl _) (Obj.cells #[Value.int IntKind.i64 1] 3))).count hgrow6 1 (vc' := v') hown6
          have L6 : Hid _ := LW6
          clear hown6 hgrow6 LW6
          go_wp2_with fail
          obtain ⟨P', f', x1, x2, x3⟩ := lw_miss INV.out IDX.out (by rw [HS.out]; exact HM.out) (by rw [HS.out]; exact L6.out)
          exact ⟨⟨k + 1, P', f', _, by go_num, by omega, x1, x2, x3⟩, by simp [intOf]; omega⟩)
    · obtain rfl : k = N := by omega
      obtain ⟨ho, co, hb, cb, ch, cc, rfl, rfl, ls⟩ := ls_of_lw LW.out
      have cR0 : wr.cell? ⟨w.heap.size + 1, 0, none⟩ = some (.slice ho P.length ch) := ls.run.cell (by omega)
      clear ls inv idx lw
      go_wp2_with fail
      refine (sort_lw INV.out.nodup LW.out (by omega)).mono ?_
      rintro e w2 ⟨rfl, P', ho', co', hb', cb', ch', cc', hperm, hasc, e1, e2, ls⟩
      simp only [Value.slice.injEq] at e1 e2
      obtain ⟨rfl, hPl, rfl⟩ := e1
      obtain ⟨rfl, -, rfl⟩ := e2
      have INV2 : Hid (Inv hs k P') := INV.out.perm hperm
      have HF : Hid (Half P' 0 f) := Half.start IDX.out hperm
      have ASC : Hid (Asc P') := hasc
      have LS : Hid (Ls w w.heap.size f P'.length P' ho co hb' cb' ch cc (.slice none 0 0) w2) := by rw [hPl] at ls; exact ls
      rw [hPl] at hPk ⊢
      clear ls hperm hasc INV IDX LW cR0 hPl
      have cR0 : w2.cell? ⟨w.heap.size + 1, 0, none⟩ = some (.slice ho P'.length ch) := LS.out.run.cell (by omega)
      have cR1 : w2.cell? ⟨w.heap.size + 1, 1, none⟩ = some (.slice none 0 0) := LS.out.run.cell (by omega)
      have fR1 := LS.out.run.frozen 1
      have hRlt : w.heap.size + 1 < w2.heap.size := LS.out.run.lt
      have hRlt0 : w.heap.size < w2.heap.size := by omega
      have mk33 := make33 P'.length (by omega)
      have mk30 := make30 P'.length (by omega)
      go_wp2_with fail
      go_cut [3] from 73 to 87 (fun s3 wc => ∃ VB OB, s3 = .slice (some ⟨OB, 0, none⟩) P'.length P'.length ∧ Hid (La w w.heap.size f P' ho co hb' cb' ch cc VB OB wc))
      case first =>
        go_region
        · go_wp2_with fail
          go_meet
          case rel => exact ⟨_, _, rfl, la_a LS.out⟩
        · go_wp2_with fail
          go_meet
          case rel => exact ⟨_, _, rfl, la_b LS.out⟩
      case rest =>
        obtain ⟨VB, OB, rfl, LA⟩ := hcut
        clear cR0 cR1 fR1 mk33 mk30 LS hRlt hRlt0
        have mk23 := make23 k hN
        have mk38 := make38 k hN
        go_wp2_with fail
        go_cut [9, 10] from 88 to 93 (fun s9 s10 wd => ∃ AB UB, s9 = .slice (some ⟨AB, 0, none⟩) k k ∧ s10 = .slice (some ⟨UB, 0, none⟩) k k ∧ Hid (Lb w w.heap.size f P' ho co hb' cb' ch cc VB OB AB UB k (rooms P' AB 4 0) (rooms P' UB 1 0) wd))
        case first =>
          go_region
          · go_wp2_with fail
            go_meet
            case rel => exact ⟨_, _, rfl, rfl, lb_a LA.out⟩
          · go_wp2_with fail
            go_meet
            case rel => exact ⟨_, _, rfl, rfl, lb_b LA.out⟩
        case rest =>
          obtain ⟨AB, UB, rfl, rfl, LB⟩ := hcut
          clear LA mk23 mk38
          have cR0 : wc.cell? ⟨w.heap.size + 1, 0, none⟩ = some (.slice ho P'.length ch) := LB.out.ls.run.cell (by omega)
          go_wp2_with fail
          have hinv := INV2.out
          have hoffk : Hid (∀ h (hh : h < P'.length), offTo P' h + P'[h].2 ≤ k ∧ 1 ≤ P'[h].2) := fun h hh => by
            have h1 := offTo_succ P' h hh
            have h2 := offTo_le P' (h + 1) P'.length (by omega) (Nat.le_refl _)
            rw [offTo_all, hinv.sum] at h2
            exact ⟨by omega, hinv.pos h hh⟩
          clear hinv
          go_loopw [9, 10, 99] (fun s9 s10 vi wr => ∃ (q ao uo : Nat) (f : List UInt8 → Option Nat), vi = .int .i64 q ∧ q ≤ P'.length ∧ s9 = .slice (some ⟨AB, ao, none⟩) (k - offTo P' q) (k - offTo P' q) ∧ (q < P'.length → ao = offTo P' q * 4) ∧
              s10 = .slice (some ⟨UB, uo, none⟩) (k - offTo P' q) (k - offTo P' q) ∧ (q < P'.length → uo = offTo P' q * 1) ∧ Half P' q f ∧
              Lb w w.heap.size f P' ho co hb' cb' ch cc VB OB AB UB k (rooms P' AB 4 q) (rooms P' UB 1 q) wr) (fun _ _ vi _ => P'.length - (intOf vi).toNat)
          case atStart => exact ⟨0, 0, 0, f, rfl, by omega, by rw [offTo_zero, Nat.sub_zero], fun _ => by rw [offTo_zero], by rw [offTo_zero, Nat.sub_zero], fun _ => by rw [offTo_zero], HF.out, LB.out⟩
          case round =>
            clear HF LB cR0
            obtain ⟨q, ao, uo, f, rfl, hh, rfl, hao, rfl, huo, half, lb⟩ := hrel
            by_cases hlt2 : q < P'.length
            · obtain rfl := hao hlt2
              obtain rfl := huo hlt2
              obtain rfl := lb.ls.hoIs (by omega)
              obtain rfl := lb.ls.coIs (by omega)
              have hcap1 := lb.ls.hcap
              have hcap2 := lb.ls.ccap
              have ⟨ho1, ho2⟩ := hoffk.out q hlt2
              have hb1 := INV2.out.bound q hlt2
              have cH := lb.ls.hcell q hlt2
              have cR2 : wr.cell? ⟨w.heap.size + 1, 2, none⟩ = some (.map (some w.heap.size)) := lb.ls.run.cell (by omega)
              have hsS : P'[q].1.size ≤ maxLen := by
                obtain ⟨i, hi, e⟩ := cntTo_mem hs P'[q].1 k (by rw [← INV2.out.cnt q hlt2]; exact ho2)
                rw [← e]; exact hsz i hi
              have hnext : Hid (q + 1 < P'.length → offTo P' q + P'[q].2 < k) := fun hn => by
                have h1 := hoffk.out (q + 1) hn
                have h2 := offTo_succ P' q hlt2
                omega
              obtain ⟨W3, hrun3, lb3⟩ := lb.store (by unfold maxLen; omega) P'[q].1 hsS q (by omega) (half.some_ q hlt2)
              have half3 := half.step INV2.out.nodup hlt2
              generalize hf3 : (fun l => if l = P'[q].1.data.toList then some q else f l) = f3 at lb3 half3
              have cC := lb3.ls.ccell q hlt2
              have cR1 : W3.cell? ⟨w.heap.size + 1, 1, none⟩ = some (.slice (some ⟨VB, 0, none⟩) P'.length P'.length) := lb3.ls.run.cell (by omega)
              have cV : W3.cell? ⟨VB, q, none⟩ = some (.slice none 0 0) := by rw [lb3.evs.cell hlt2]; unfold rooms; rw [if_neg (by omega)]
              have fV := lb3.evs.frozen q
              clear hsz hev
              generalize hS : P'[q].1 = S at *
              generalize hc : P'[q].2 = c at *
              generalize hoo : offTo P' q = o at *
              have LB3 : Hid _ := lb3
              have HH : Hid _ := half3
              have HS : Hid (P'[q].1 = S) := hS
              have HC : Hid (P'[q].2 = c) := hc
              have HO : Hid (offTo P' q = o) := hoo
              clear lb lb3 half half3 hS hc hoo hf3 hoffk
              have hOs : Hid (offTo P' (q + 1) = offTo P' q + P'[q].2) := offTo_succ P' q hlt2
              clear hao huo
              go_wp2_with fail
              go_region
              generalize hV9 : (Value.slice (if k - o = c then some { block := AB, off := o * 4 } else some { block := AB, off := o * 4 + c * 4 }) (k - o - c) (k - o - c)) = V9
              have HV9 : Hid _ := hV9
              clear hV9
              have lb4 : Lb w w.heap.size f3 P' (some ⟨hb', 0, none⟩) (some ⟨cb', 0, none⟩) hb' cb' ch cc VB OB AB UB k (rooms P' AB 4 (q + 1)) (rooms P' UB 1 q) (W3.setCell { block := VB, off := q } (Value.slice (some { block := AB, off := o * 4 }) 0 c)).drew :=
                ((LB3.out.setV q _).congr (fun i _ => rooms_succ P' AB 4 q hlt2 (by rw [HO.out, HC.out]) i) (fun _ _ => rfl)).of_below (Below.refl _ _).drew
              generalize (W3.setCell { block := VB, off := q } (Value.slice (some { block := AB, off := o * 4 }) 0 c)).drew = W4 at *
              have cC4 : W4.cell? ⟨cb', q, none⟩ = some (.int .i64 (c : Int)) := by rw [lb4.ls.ccell q hlt2, HC.out]
              have cO : W4.cell? ⟨OB, q, none⟩ = some (.slice none 0 0) := by rw [lb4.own.cell hlt2]; unfold rooms; rw [if_neg (by omega)]
              have fO := lb4.own.frozen q
              have LB4 : Hid _ := lb4
              clear lb4 LB3 cV fV cR1 cC hrun3 cH cR2
              go_wp2_with fail
              go_region
              generalize hV10 : (Value.slice (if k - o = c then some { block := UB, off := o } else some { block := UB, off := o + c }) (k - o - c) (k - o - c)) = V10
              have HV10 : Hid _ := hV10
              clear hV10
              have lb5 : Lb w w.heap.size f3 P' (some ⟨hb', 0, none⟩) (some ⟨cb', 0, none⟩) hb' cb' ch cc VB OB AB UB k (rooms P' AB 4 (q + 1)) (rooms P' UB 1 (q + 1)) (W4.setCell { block := OB, off := q } (Value.slice (some { block := UB, off := o }) 0 c)).drew :=
                ((LB4.out.setO q _).congr (fun _ _ => rfl) (fun i _ => rooms_succ P' UB 1 q hlt2 (by rw [HO.out, HC.out, Nat.mul_one]) i)).of_below (Below.refl _ _).drew
              have LB5 : Hid _ := lb5
              generalize (W4.setCell { block := OB, off := q } (Value.slice (some { block := UB, off := o }) 0 c)).drew = W5 at *
              clear lb5 LB4 cO fO cC4
              go_wp2_with fail
              have eo : offTo P' (q + 1) = o + c := by rw [hOs.out, HO.out, HC.out]
              have en : q + 1 < P'.length → o + c < k := hnext.out
              refine ⟨⟨q + 1, if k - o = c then o * 4 else o * 4 + c * 4, if k - o = c then o else o + c, f3, by go_num, by omega, ?_, fun hn => ?_, ?_, fun hn => ?_, HH.out, LB5.out⟩, by simp [intOf]; omega⟩
              · rw [← HV9.out, eo, Nat.sub_add_eq]; split <;> rfl
              · rw [if_neg (by have := en hn; omega), eo, Nat.add_mul]
              · rw [← HV10.out, eo, Nat.sub_add_eq]; split <;> rfl
              · rw [if_neg (by have := en hn; omega), eo, Nat.mul_one]
            · obtain rfl : q = P'.length := by omega
              have half2 := half.done
              have LB6 : Hid _ := lb
              have HI : Hid _ := half2
              clear half half2 lb hao huo hoffk
              go_wp2_with fail
              go_ret2
              exact ⟨P', f, ho, co, hb', cb', ch, cc, VB, OB, AB, UB, rfl, INV2.out, ASC.out, HI.out, LB6.out⟩

end Go.Proofs.Ybulkbqzo
