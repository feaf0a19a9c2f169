/-
  Seat b3381a. LawS3381BRoom: the walk.
-/
import Derived.Test.YbulkbqzoNewA
import Derived.Test.YbulkbqzoLr
import Derived.Deep.CutRange
import Derived.Deep.DrawnRows
namespace Go
/-- append where there is room, outside a region that draws. -/
theorem wpList_append_roomy {P : Program} (w : World) {ops : Array Oper} {rest : List Oper} {o : Oper} {a : Act} {Q : Exit → Act → World → Prop}
    (hg : o.guard = none) (s x : Operand) (t : TypeId) (hop : o.op = Op.call { callee := Callee.builtin Builtin.append, args := #[s, x], argTypes := #[t, t] })
    (e : TypeId) (i : TypeInfo) (size : Nat) (h1 : P.underlying t = some (.slice e)) (h2 : P.info? e = some i) (h4 : i.size = size)
    (b off n cap : Nat) (hs : a.eval s = .slice (some ⟨b, off, none⟩) n cap)
    (ad : Addr) (m c : Nat) (news : List Value) (hx : a.eval x = .slice (some ad) m c) (hn : news.length = m * size) (hc : ∀ j u, news[j]? = some u → w.cell? (ad.add j) = some u) (h1c : ∀ u ∈ news, u.oneCell' = true)
    (hroom : n + m ≤ cap) (hspare : ∀ j, j < news.length → (w.cell? ⟨b, off + n * size + j, none⟩).isSome = true ∧ w.frozen? ⟨b, off + n * size + j, none⟩ = false)
    (hK : wpList P ops Q rest (a.put o.dst (.slice (some ⟨b, off, none⟩) (n + m) cap)) (w.setCells b (off + n * size) news)) : wpList P ops Q (o :: rest) a w := by
  refine wpList_plain hg fun K' hK' => ?_
  subst h4
  have hrun := run_append_room_cells (P := P) w t o.type e i h1 h2 b off n cap ad m c news hn hc h1c hroom (fun j hj => (hspare j hj).1) (fun j hj => (hspare j hj).2)
  unfold Oper.wp
  simp [execOp, hop, resolve, invoke, builtin, hs, hx, hrun, Result.andThen]
  exact hK' _ _ hK
end Go
namespace Go.Proofs.Ybulkbqzo
open Go.RowKit Go.Maps
set_option linter.unusedVariables false
attribute [local go_sem ↓] Go.wp_at_zero Go.wp_at_succ

set_option maxRecDepth 100000 in
theorem room_long (ao : Option Addr) (N cap : Nat) (w : World) (h : 1024 < N) :
    Calls Yba.prog 4 #[.slice ao N cap] w fun e w' => e = .returned (.bool true) ∧ Below w.heap.size w w' := by
  have hz : (1024 : Int) < (N : Int) := by omega
  go_enter Yba.func4, Yba.ntmps4
  go_wp2_with fail
  go_ret
  exact ⟨rfl, Below.refl _ _⟩

/-- What the append of one event leaves: four cells. -/
theorem Lr.event {w0 : World} {m0 : Nat} {f : List UInt8 → Option Nat} {P : List (ByteArray × Nat)} {ho co : Option Addr} {hb cb ch cc VB OB AB UB N : Nat} {ev ow A U : Nat → Value} {w : World}
    (h : Lr w0 m0 f P ho co hb cb ch cc VB OB AB UB N ev ow A U w) (hs : Nat → ByteArray) (x k : Nat) :
    ∃ A', Lr w0 m0 f P ho co hb cb ch cc VB OB AB UB N ev ow A' U (w.setCells AB (x * 4) [.string (hs k), .slice none 0 0, .string ByteArray.empty, .int .i64 ((k : Int) + 1)]) ∧
      (∀ r, r < 4 → A' (x * 4 + r) = evCell hs (k * 4 + r)) ∧ (∀ i, i / 4 ≠ x → A' i = A i) := by
  refine ⟨_, (((h.setA (x * 4) (.string (hs k))).setA (x * 4 + 1) (.slice none 0 0)).setA (x * 4 + 2) (.string ByteArray.empty)).setA (x * 4 + 3) (.int .i64 ((k : Int) + 1)), fun r hr => ?_, fun i hi => ?_⟩
  · have : r = 0 ∨ r = 1 ∨ r = 2 ∨ r = 3 := by omega
    rcases this with rfl | rfl | rfl | rfl
    · simp [evCell0]
    · simp [evCell1]
    · simp [evCell2]
    · simp [evCell3]
  · rw [if_neg (by omega), if_neg (by omega), if_neg (by omega), if_neg (by omega)]

/-- One place of a room that is full. -/
theorem Lr.room {w0 : World} {m0 : Nat} {f : List UInt8 → Option Nat} {P : List (ByteArray × Nat)} {ho co : Option Addr} {hb cb ch cc VB OB AB UB N : Nat} {ev ow A U : Nat → Value} {w : World}
    (h : Lr w0 m0 f P ho co hb cb ch cc VB OB AB UB N ev ow A U w) {hs : Nat → ByteArray} (inv : Inv hs N P) (evs : Evs hs P N A) (ows : Ows hs P N U) {q : Nat} (hq : q < P.length) {t : Nat} (ht : t < P[q].2) :
    ∃ x : Nat, x < N ∧ hs x = P[q].1 ∧ (0 < t → ∃ y : Nat, y < x ∧ w.cell? ⟨UB, offTo P q + (t - 1), none⟩ = some (.int .u64 (y : Nat))) ∧ w.cell? ⟨UB, offTo P q + t, none⟩ = some (.int .u64 (x : Nat)) ∧
      w.cell? ⟨AB, offTo P q * 4 + t * 4, none⟩ = some (.string P[q].1) ∧ w.cell? ⟨AB, offTo P q * 4 + t * 4 + 3, none⟩ = some (.int .i64 ((x : Int) + 1)) := by
  have hl : (occs hs N P[q].1).length = P[q].2 := by rw [occs_length, inv.cnt q hq]
  have hbo : offTo P q + P[q].2 ≤ N := by
    have h1 := offTo_le P (q + 1) P.length (by omega) (Nat.le_refl _)
    rw [offTo_all, inv.sum, offTo_succ P q hq] at h1
    exact h1
  have hx : (occs hs N P[q].1)[t]? = some ((occs hs N P[q].1)[t]'(by omega)) := List.getElem?_eq_getElem _
  have hm := occs_mem hs P[q].1 N _ (List.getElem_mem (l := occs hs N P[q].1) (n := t) (by omega))
  refine ⟨_, hm.1, hm.2, fun h0 => ⟨(occs hs N P[q].1)[t - 1]'(by omega), ?_, ?_⟩, ?_, ?_, ?_⟩
  · have ha := occs_asc hs P[q].1 N
    rw [List.pairwise_iff_getElem] at ha
    exact ha (t - 1) t (by omega) (by omega) (by omega)
  · rw [h.owns.cell (i := offTo P q + (t - 1)) (by omega), ows q hq (t - 1) _ (List.getElem?_eq_getElem _)]
  · rw [h.owns.cell (i := offTo P q + t) (by omega), ows q hq t _ hx]
  · rw [h.all.cell (i := offTo P q * 4 + t * 4) (by omega)]
    have e := evs q hq t _ hx 0 (by omega)
    rw [Nat.add_mul, Nat.add_zero, Nat.add_zero, evCell0, hm.2] at e
    rw [e]
  · rw [h.all.cell (i := offTo P q * 4 + t * 4 + 3) (by omega)]
    have e := evs q hq t _ hx 3 (by omega)
    rw [Nat.add_mul, evCell3] at e
    rw [e]

set_option maxHeartbeats 4000000 in
set_option maxRecDepth 100000 in
theorem room_short (ao : Option Addr) (N cap : Nat) (hs : Nat → ByteArray) (w : World) (hN : N ≤ 1024) (arg : Arg ao N hs w) :
    Calls Yba.prog 4 #[.slice ao N cap] w fun e w' => e = .returned (.bool true) ∧ Below w.heap.size w w' := by
  have hz : ¬ (1024 : Int) < (N : Int) := by omega
  have mk23 := make23 N hN
  go_enter Yba.func4, Yba.ntmps4
  go_wp2_with fail
  go_loopw [4] (fun vi wr => ∃ i : Nat, vi = .int .i64 i ∧ i ≤ N ∧ Le w hs N i wr) (fun vi _ => N - (intOf vi).toNat)
  case atStart => exact ⟨0, rfl, by omega, le_start w hs N⟩
  case round =>
    obtain ⟨i, rfl, hi, le⟩ := hrel
    have LE : Hid _ := le
    by_cases hlt : i < N
    · obtain ⟨b, off, rfl, hbl, hcell⟩ := arg.at_ (by omega)
      have ci : wr.cell? ⟨b, off + i, none⟩ = some (.string (hs i)) := (le.below.cell (p := ⟨b, off + i, none⟩) hbl).trans (hcell i hlt)
      have c0 := le.row.cell (i := i * 4) (by omega)
      have c1 := le.row.cell (i := i * 4 + 1) (by omega)
      have c2 := le.row.cell (i := i * 4 + 2) (by omega)
      have c3 := le.row.cell (i := i * 4 + 3) (by omega)
      have f0 := le.row.frozen (i * 4)
      have f1 := le.row.frozen (i * 4 + 1)
      have f2 := le.row.frozen (i * 4 + 2)
      have f3 := le.row.frozen (i * 4 + 3)
      generalize evTo hs i (i * 4) = x0 at c0
      generalize evTo hs i (i * 4 + 1) = x1 at c1
      generalize evTo hs i (i * 4 + 2) = x2 at c2
      generalize evTo hs i (i * 4 + 3) = x3 at c3
      clear le hcell
      go_wp2_with fail
      exact ⟨⟨i + 1, by go_num, by omega, LE.out.step hlt⟩, by simp [intOf]; omega⟩
    · obtain rfl : i = N := by omega
      obtain ⟨wA, rfl⟩ : ∃ x, x = wr := ⟨_, rfl⟩
      have hEB : w.heap.size < wA.heap.size := by rw [le.size]; omega
      have arg2 : Arg ao i hs wA := arg.below le.below
      have hc := newHosts_calls w.heap.size i i hs wA hN (Nat.le_refl _) hEB le.done arg.sizes
      clear le mk23
      go_wp2_with fail
      refine hc.mono ?_
      rintro e w2 ⟨P, f, ho, co, hb, cb, ch, cc, VB, OB, AB, UB, rfl, inv, asc, idx, lb⟩
      have INV : Hid (Inv hs i P) := inv
      have IDX : Hid (Idx (P.map (·.1)) f) := idx
      have LR : Hid (Lr wA wA.heap.size f P ho co hb cb ch cc VB OB AB UB i (filled hs P AB 4 0) (filled hs P UB 1 0) zEv (fun _ => .int .u64 0) w2) :=
        (lr_of_lb lb).congr (ev' := filled hs P AB 4 0) (ow' := filled hs P UB 1 0) (A' := zEv) (U' := zEv) (fun j hj => filled_zero hs P AB 4 j hj) (fun j hj => filled_zero hs P UB 1 j hj)
      have cR0 : w2.cell? ⟨wA.heap.size + 1, 0, none⟩ = some (.slice ho P.length ch) := lb.ls.run.cell (by omega)
      have cR1 : w2.cell? ⟨wA.heap.size + 1, 1, none⟩ = some (.slice (some ⟨VB, 0, none⟩) P.length P.length) := lb.ls.run.cell (by omega)
      have hPi : P.length ≤ i := inv.le
      have EV : Hid (∀ w', Below wA.heap.size wA w' → w'.rowIs w.heap.size 28 (i * 4) (evCell hs)) := fun w' hb => LE.out.done.of_block (hb.block _ hEB)
      have AR : Hid (∀ w', Below wA.heap.size wA w' → Arg ao i hs w' ∧ Below w.heap.size w w') := fun w' hb => ⟨arg2.below hb, LE.out.below.trans (hb.mono (by omega))⟩
      clear inv asc idx lb hc arg2 arg
      go_wp2_with fail
      go_quiet (fail)
      go_wp2_with fail
      have LR0 : Hid (Lr wA wA.heap.size f P ho co hb cb ch cc VB OB AB UB i (filled hs P AB 4 0) (filled hs P UB 1 0) zEv (fun _ => .int .u64 0) (w2.drewN nq)) := LR.out.of_below (drewN_below _ _)
      generalize w2.drewN nq = w3 at *
      clear LR cR0 cR1 w2
      obtain ⟨i28, hi28, hz28, hs28, hb28⟩ := info_parts Yba.info28
      obtain ⟨i41, hi41, hz41, hs41, hb41⟩ := info_parts Yba.info41
      go_loopw [7] (fun s7 wq => ∃ (k : Nat) (A U : Nat → Value), s7 = .int .i64 k ∧ k ≤ i ∧ Evs hs P k A ∧ Ows hs P k U ∧ Lr wA wA.heap.size f P ho co hb cb ch cc VB OB AB UB i (filled hs P AB 4 k) (filled hs P UB 1 k) A U wq) (fun s7 _ => i - (intOf s7).toNat)
      case atStart => exact ⟨0, _, _, rfl, by omega, fun j hj m x h => by simp [occs] at h, fun j hj m x h => by simp [occs] at h, LR0.out⟩
      case round =>
        clear LR0
        obtain ⟨k, A, U, rfl, hk, evs, ows, lr⟩ := hrel
        by_cases hlt2 : k < i
        · obtain ⟨q, hq, eq, hfq⟩ : ∃ q, ∃ h : q < P.length, P[q].1 = hs k ∧ f (hs k).data.toList = some q := by
            have hm := INV.out.mem k hlt2
            rcases IDX.out.isSome (hs k) with ⟨_, q, hq, e, hf⟩ | ⟨h, _⟩
            · exact ⟨q, by simpa using hq, by simpa using e, hf⟩
            · exact absurd hm h
          obtain rfl := lr.ls.hoIs (by omega)
          have hcapH := lr.ls.hcap
          have er := EV.out _ lr.ls.below
          have hsz := (AR.out _ lr.ls.below).1.sizes k hlt2
          have e0 := er.cell (i := k * 4) (by omega)
          have e1 := er.cell (i := k * 4 + 1) (by omega)
          have e2 := er.cell (i := k * 4 + 2) (by omega)
          have e3 := er.cell (i := k * 4 + 3) (by omega)
          rw [evCell0] at e0; rw [evCell1] at e1; rw [evCell2] at e2; rw [evCell3] at e3
          have hlook := look_all lr.ls.map (hs k) hsz
          have hlook0 := lr.ls.map.look (hs k) hsz
          rw [hfq] at hlook hlook0
          simp only [Option.isSome_some, Option.getD_some] at hlook hlook0
          have cR0 := lr.ls.run.cell (i := 0) (by omega)
          have cR1 := lr.ls.run.cell (i := 1) (by omega)
          have cR2 := lr.ls.run.cell (i := 2) (by omega)
          simp only [runCell] at cR0 cR1 cR2
          have LR1 : Hid (∀ n, Lr _ _ f P _ co hb cb ch cc VB OB AB UB i (filled hs P AB 4 k) (filled hs P UB 1 k) A U (wr.drewN n)) := fun n => lr.of_below (drewN_below _ _)
          have EVS : Hid (Evs hs P k A) := evs
          have OWS : Hid (Ows hs P k U) := ows
          have EQ : Hid (P[q].1 = hs k) := eq
          have cV := lr.evs.cell hq
          have cO := lr.own.cell hq
          have croom : cntTo hs k (hs k) + 1 ≤ P[q].2 := by rw [INV.out.cnt q hq, eq]; exact cntTo_room hs k i hlt2
          have coff : offTo P q + P[q].2 ≤ i := by
            have h1 := offTo_le P (q + 1) P.length (by omega) (Nat.le_refl _)
            rw [offTo_all, INV.out.sum, offTo_succ P q hq] at h1
            exact h1
          have hfill : ∀ blk step, filled hs P blk step k q = .slice (some ⟨blk, offTo P q * step, none⟩) (cntTo hs k (hs k)) P[q].2 := fun blk step => by unfold filled; simp [hq, eq]
          rw [hfill] at cV cO
          generalize hS : hs k = S at *
          generalize hcn : cntTo hs k S = cn at *
          generalize hcc : P[q].2 = c at *
          generalize hoo : offTo P q = o at *
          have HS : Hid (hs k = S) := hS
          have HCN : Hid (cntTo hs k S = cn) := hcn
          have HC : Hid (P[q].2 = c) := hcc
          have HO : Hid (offTo P q = o) := hoo
          clear lr er evs ows hfill hfq eq hS hcn hcc hoo
          go_wp2_with fail
          go_quiet (fail)
          have lr1 := LR1.out nq
          clear LR1 hlook hlook0 cR0 cR1 cR2 cV cO e0 e1 e2 e3
          generalize wr.drewN nq = W1 at *
          have er := EV.out _ lr1.ls.below
          have e0 := er.cell (i := k * 4) (by omega)
          have e1 := er.cell (i := k * 4 + 1) (by omega)
          have e2 := er.cell (i := k * 4 + 2) (by omega)
          have e3 := er.cell (i := k * 4 + 3) (by omega)
          rw [evCell0, HS.out] at e0; rw [evCell1] at e1; rw [evCell2] at e2; rw [evCell3] at e3
          have hfill : ∀ blk step, filled hs P blk step k q = .slice (some ⟨blk, o * step, none⟩) cn c := fun blk step => by unfold filled; simp [hq, EQ.out, HCN.out, HC.out, HO.out]
          have cR0 := lr1.ls.run.cell (i := 0) (by omega)
          have cR1 := lr1.ls.run.cell (i := 1) (by omega)
          simp only [runCell] at cR0 cR1
          have cV := lr1.evs.cell hq
          rw [hfill] at cV
          have fV := lr1.evs.frozen q
          have hVlt := lr1.evs.lt
          have hRlt := lr1.ls.run.lt
          have hElt := er.lt
          have hVB : VB ≠ AB := rowIs_ne lr1.evs lr1.all (by decide)
          have eqk : P[q].1 = hs k := EQ.out.trans HS.out.symm
          have l2 := lr1.of_below (w' := (W1.alloc (Obj.cells #[Value.string S, Value.slice none 0 0, Value.string ByteArray.empty, Value.int IntKind.i64 (↑k + 1)] 28)).drew) (((Below.refl _ _).alloc (Nat.le_refl _) _).drew)
          have HEX : Hid (∀ j, j < [Value.string S, Value.slice none 0 0, Value.string ByteArray.empty, Value.int IntKind.i64 (↑k + 1)].length → (((W1.alloc (Obj.cells #[Value.string S, Value.slice none 0 0, Value.string ByteArray.empty, Value.int IntKind.i64 (↑k + 1)] 28)).drew).cell? ⟨AB, o * 4 + cn * 4 + j, none⟩).isSome = true ∧ ((W1.alloc (Obj.cells #[Value.string S, Value.slice none 0 0, Value.string ByteArray.empty, Value.int IntKind.i64 (↑k + 1)] 28)).drew).frozen? ⟨AB, o * 4 + cn * 4 + j, none⟩ = false) := fun j hj => ⟨by rw [l2.all.cell (i := o * 4 + cn * 4 + j) (by simp at hj; omega)]; rfl, l2.all.frozen _⟩
          have HNW : Hid (∀ j u, [Value.string S, Value.slice none 0 0, Value.string ByteArray.empty, Value.int IntKind.i64 (↑k + 1)][j]? = some u → ((W1.alloc (Obj.cells #[Value.string S, Value.slice none 0 0, Value.string ByteArray.empty, Value.int IntKind.i64 (↑k + 1)] 28)).drew).cell? ((⟨W1.heap.size, 0, none⟩ : Addr).add j) = some u) := fun j u hj => by match j, hj with | 0, hj => (simp at hj; subst hj; simp [Addr.add]) | 1, hj => (simp at hj; subst hj; simp [Addr.add]) | 2, hj => (simp at hj; subst hj; simp [Addr.add]) | 3, hj => (simp at hj; subst hj; simp [Addr.add])
          have H1C : Hid (∀ u ∈ [Value.string S, Value.slice none 0 0, Value.string ByteArray.empty, Value.int IntKind.i64 (↑k + 1)], u.oneCell' = true) := fun u hu => by simp at hu; rcases hu with rfl | rfl | rfl | rfl <;> rfl
          obtain ⟨A', l3, hA1, hA2⟩ := l2.event hs (o + cn) k
          rw [Nat.add_mul, HS.out] at l3
          obtain ⟨W3, hW3⟩ : ∃ W3, World.setCells ((W1.alloc (Obj.cells #[Value.string S, Value.slice none 0 0, Value.string ByteArray.empty, Value.int IntKind.i64 (↑k + 1)] 28)).drew) AB (o * 4 + cn * 4) [Value.string S, Value.slice none 0 0, Value.string ByteArray.empty, Value.int IntKind.i64 (↑k + 1)] = W3 := ⟨_, rfl⟩
          rw [hW3] at l3
          have HW3 : Hid _ := hW3
          have cV3 := l3.evs.cell hq
          rw [hfill] at cV3
          have fV3 := l3.evs.frozen q
          have cR13 := l3.ls.run.cell (i := 1) (by omega)
          simp only [runCell] at cR13
          have EVS' : Hid (Evs hs P (k + 1) A') := EVS.out.step INV.out hlt2 hq eqk (by rw [HO.out, HS.out, HCN.out]; exact hA1) (by rw [HO.out, HS.out, HCN.out]; exact hA2)
          have LV : Hid (Lr wA wA.heap.size f P (some ⟨hb, 0, none⟩) co hb cb ch cc VB OB AB UB i (filled hs P AB 4 (k + 1)) (filled hs P UB 1 k) A' U (W3.setCell ⟨VB, q, none⟩ (.slice (some ⟨AB, o * 4, none⟩) (cn + 1) c))) :=
            (l3.setV q (.slice (some ⟨AB, o * 4, none⟩) (cn + 1) c)).congr (A' := zEv) (U' := zEv) (filled_succ hs INV.out AB 4 k q hq eqk (by rw [HO.out, HS.out, HCN.out, HC.out])) (fun _ _ => rfl)
          clear lr1 er l2 l3 hA1 hA2 hW3 hfill
          go_upto_region 17 with fail
          go_cut [] from 74 to 120 (fun wc => ∃ A', Hid (Evs hs P (k + 1) A') ∧ Hid (Lr wA wA.heap.size f P (some ⟨hb, 0, none⟩) co hb cb ch cc VB OB AB UB i (filled hs P AB 4 (k + 1)) (filled hs P UB 1 k) A' U wc))
          case first =>
            clear EVS OWS INV IDX EV AR LE
            go_region_law (refine step_append_room rfl (.tmp 113) (.tmp 118) 23 rfl 28 i28 4 Yba.underlying23 hi28 hs28 AB (o * 4) cn c (by rfl) ⟨W1.heap.size, 0, none⟩ 1 1 [Value.string S, Value.slice none 0 0, Value.string ByteArray.empty, Value.int IntKind.i64 (↑k + 1)] (by rfl) rfl HNW.out H1C.out croom HEX.out ?_; rw [HW3.out])
            all_goals (go_wp2; go_meet; case rel => exact ⟨_, EVS', LV⟩)
          case rest =>
            obtain ⟨A2, EVS2, LR2⟩ := hcut
            clear EVS' LV HW3 HEX HNW H1C cV3 fV3 cR13 e0 e1 e2 e3 cR0 cR1 cV fV EVS
            have lr2 := LR2.out
            have hfill : filled hs P UB 1 k q = .slice (some ⟨UB, o, none⟩) cn c := by unfold filled; simp [hq, EQ.out, HCN.out, HC.out, HO.out]
            have cO := lr2.own.cell hq
            rw [hfill] at cO
            have fO := lr2.own.frozen q
            have hOlt := lr2.own.lt
            have lx := lr2.of_below (w' := wc.alloc (Obj.cells #[Value.int IntKind.u64 (k : Int)] 41)) ((Below.refl _ _).alloc (Nat.le_refl _) _)
            have HEX : Hid (∀ j, j < [Value.int IntKind.u64 (k : Int)].length → ((wc.alloc (Obj.cells #[Value.int IntKind.u64 (k : Int)] 41)).cell? ⟨UB, o + cn * 1 + j, none⟩).isSome = true ∧ (wc.alloc (Obj.cells #[Value.int IntKind.u64 (k : Int)] 41)).frozen? ⟨UB, o + cn * 1 + j, none⟩ = false) := fun j hj => ⟨by rw [lx.owns.cell (i := o + cn * 1 + j) (by simp at hj; omega)]; rfl, lx.owns.frozen _⟩
            have HNW : Hid (∀ j u, [Value.int IntKind.u64 (k : Int)][j]? = some u → (wc.alloc (Obj.cells #[Value.int IntKind.u64 (k : Int)] 41)).cell? ((⟨wc.heap.size, 0, none⟩ : Addr).add j) = some u) := fun j u hj => by match j, hj with | 0, hj => (simp at hj; subst hj; simp [Addr.add])
            have H1C : Hid (∀ u ∈ [Value.int IntKind.u64 (k : Int)], u.oneCell' = true) := fun u hu => by simp at hu; rcases hu with rfl; rfl
            obtain ⟨W4, hW4⟩ : ∃ W4, World.setCells (wc.alloc (Obj.cells #[Value.int IntKind.u64 (k : Int)] 41)) UB (o + cn * 1) [Value.int IntKind.u64 (k : Int)] = W4 := ⟨_, rfl⟩
            have l4 := lx.setU (o + cn) (.int .u64 (k : Nat))
            rw [show (wc.alloc (Obj.cells #[Value.int IntKind.u64 (k : Int)] 41)).setCell ⟨UB, o + cn, none⟩ (.int .u64 (k : Nat)) = W4 by rw [← hW4, Nat.mul_one]; rfl] at l4
            have HW4 : Hid _ := hW4
            have cO4 := l4.own.cell hq
            rw [hfill] at cO4
            have fO4 := l4.own.frozen q
            have OWS' : Hid (Ows hs P (k + 1) (fun i => if i = o + cn then .int .u64 (k : Nat) else U i)) := by
              have h := OWS.out.step INV.out hlt2 hq eqk
              rw [HO.out, HS.out, HCN.out] at h
              exact h
            have LV : Hid (Lr wA wA.heap.size f P (some ⟨hb, 0, none⟩) co hb cb ch cc VB OB AB UB i (filled hs P AB 4 (k + 1)) (filled hs P UB 1 (k + 1)) A2 (fun i => if i = o + cn then .int .u64 (k : Nat) else U i) (W4.setCell ⟨OB, q, none⟩ (.slice (some ⟨UB, o, none⟩) (cn + 1) c))) :=
              (l4.setO q (.slice (some ⟨UB, o, none⟩) (cn + 1) c)).congr (A' := zEv) (U' := zEv) (fun _ _ => rfl) (filled_succ hs INV.out UB 1 k q hq eqk (by rw [HO.out, HS.out, HCN.out, HC.out, Nat.mul_one]))
            clear lr2 hfill lx l4 hW4
            go_wp2_with (at_builtin; refine wpList_append_roomy _ rfl (.tmp 126) (.tmp 129) 38 rfl 41 i41 1 Yba.underlying38 hi41 hs41 UB o cn c rfl ⟨wc.heap.size, 0, none⟩ 1 1 [Value.int IntKind.u64 (k : Int)] rfl rfl HNW.out H1C.out croom HEX.out ?_; rw [HW4.out])
            exact ⟨⟨k + 1, A2, _, by go_num, by omega, EVS2.out, OWS'.out, LV.out⟩, by simp [intOf]; omega⟩
        · obtain rfl : i = k := by omega
          obtain ⟨wB, rfl⟩ : ∃ x, x = wr := ⟨_, rfl⟩
          have LRB : Hid (Lr wA wA.heap.size f P ho co hb cb ch cc VB OB AB UB i (filled hs P AB 4 i) (filled hs P UB 1 i) A U wB) := lr
          have EVS : Hid (Evs hs P i A) := evs
          have OWS : Hid (Ows hs P i U) := ows
          have cR0 := lr.ls.run.cell (i := 0) (by omega)
          have cR1 := lr.ls.run.cell (i := 1) (by omega)
          simp only [runCell] at cR0 cR1
          have arb := AR.out _ lr.ls.below
          have ARG : Hid (Arg ao i hs wB) := arb.1
          have BW : Hid (Below w.heap.size w wB) := arb.2
          clear lr evs ows arb
          go_wp2_with fail
          go_loopw [10, 11] (fun s10 s11 wq => ∃ q n : Nat, s11 = .int .i64 q ∧ q ≤ P.length ∧ s10 = .int .i64 (offTo P q : Nat) ∧ wB.drewN n = wq) (fun _ s11 _ => P.length - (intOf s11).toNat)
          case atStart => exact ⟨0, 0, rfl, by omega, rfl, rfl⟩
          case round =>
            obtain ⟨q, n, rfl, hq, rfl, rfl⟩ := hrel
            have hoff : offTo P q ≤ i := by
              have h1 := offTo_le P q P.length hq (Nat.le_refl _)
              rw [offTo_all, INV.out.sum] at h1
              exact h1
            have cR0n : (wB.drewN n).cell? ⟨wA.heap.size + 1, 0, none⟩ = _ := cR0
            have cR1n : (wB.drewN n).cell? ⟨wA.heap.size + 1, 1, none⟩ = _ := cR1
            by_cases hlt3 : q < P.length
            · obtain rfl := LRB.out.ls.hoIs (by omega)
              have hcap1 := LRB.out.ls.hcap
              have cH := LRB.out.ls.hcell q hlt3
              have hcnt := INV.out.cnt q hlt3
              have hos := offTo_succ P q hlt3
              have cV : (wB.drewN n).cell? ⟨VB, q, none⟩ = some (.slice (some ⟨AB, offTo P q * 4, none⟩) P[q].2 P[q].2) := by
                show wB.cell? _ = _
                rw [LRB.out.evs.cell hlt3]; unfold filled; simp [hlt3, ← hcnt]
              have cO : (wB.drewN n).cell? ⟨OB, q, none⟩ = some (.slice (some ⟨UB, offTo P q, none⟩) P[q].2 P[q].2) := by
                show wB.cell? _ = _
                rw [LRB.out.own.cell hlt3]; unfold filled; simp [hlt3, ← hcnt]
              have ROOM : Hid (∀ t, t < P[q].2 → _) := fun t ht => LRB.out.room INV.out EVS.out OWS.out hlt3 ht
              generalize P[q].1 = S at *
              generalize P[q].2 = c at *
              generalize hoo : offTo P q = o at *
              have HOS : Hid (offTo P (q + 1) = o + c) := hos
              have hbo : o + c ≤ i := by
                have h1 := offTo_le P (q + 1) P.length (by omega) (Nat.le_refl _)
                rw [offTo_all, INV.out.sum, HOS.out] at h1
                exact h1
              clear hcnt hos hoo
              go_wp2_with fail
              go_loopw [14] (fun s14 wq => ∃ t m : Nat, s14 = .int .i64 t ∧ t ≤ c ∧ wB.drewN m = wq) (fun s14 _ => c - (intOf s14).toNat)
              case atStart => exact ⟨0, n, rfl, by omega, rfl⟩
              case round =>
                obtain ⟨t, m, rfl, ht, rfl⟩ := hrel
                clear cR0n cR1n cV cO
                by_cases ht2 : t < c
                · obtain ⟨x, hx, hxs, hpv, cU, cE0, cE3⟩ := ROOM.out t ht2
                  obtain ⟨b, off, rfl, hbl, hcell⟩ := ARG.out.at_ (by omega)
                  have cX : (wB.drewN m).cell? ⟨b, off + x, none⟩ = some (.string S) := by rw [← hxs]; exact hcell x hx
                  have cU' : (wB.drewN m).cell? ⟨UB, o + t, none⟩ = some (.int .u64 (x : Nat)) := cU
                  have cE0' : (wB.drewN m).cell? ⟨AB, o * 4 + t * 4, none⟩ = some (.string S) := cE0
                  have cE3' : (wB.drewN m).cell? ⟨AB, o * 4 + t * 4 + 3, none⟩ = some (.int .i64 ((x : Int) + 1)) := cE3
                  have cR0m : (wB.drewN m).cell? ⟨wA.heap.size + 1, 0, none⟩ = _ := cR0
                  have cHm : (wB.drewN m).cell? ⟨hb, q, none⟩ = _ := cH
                  have hpv' : 0 < t → ∃ y : Nat, y < x ∧ (wB.drewN m).cell? ⟨UB, o + (t - 1), none⟩ = some (.int .u64 (y : Nat)) := hpv
                  have HPV : Hid _ := hpv'
                  have hne1 : (S.toList != S.toList) = false := by simp
                  have hne2 : (((x : Int) + 1) != ((x : Int) + 1)) = false := by simp
                  have hxi : ¬ ((i : Int) ≤ (x : Int)) := by omega
                  generalize hW : wB.drewN m = W at *
                  have HW : Hid _ := hW
                  clear hW hpv hpv' cU cE0 cE3 hcell hxs cR0 cR1 cH
                  go_upto_region 33 with fail
                  go_cut [197] from 186 to 197 (fun s197 wc => s197 = .bool false ∧ W = wc)
                  case first =>
                    by_cases ht0 : t = 0
                    · have hz0 : ¬ ((0 : Int) < (t : Int)) := by omega
                      have hz1 : ¬ (0 < t) := by omega
                      clear ht0
                      go_wp2_with fail
                      go_meet
                      case rel => exact ⟨rfl, rfl⟩
                    · obtain ⟨y, hy, cY⟩ := HPV.out (by omega)
                      obtain ⟨p, rfl⟩ : ∃ p, t = p + 1 := ⟨t - 1, by omega⟩
                      simp only [Nat.add_sub_cancel] at cY
                      have hyx : (y : Int) < (x : Int) := by omega
                      go_wp2_with fail
                      go_meet
                      case rel => exact ⟨rfl, rfl⟩
                  case rest =>
                    obtain ⟨rfl, rfl⟩ := hcut
                    go_wp2_with fail
                    go_quiet (fail)
                    go_wp2_with fail
                    exact ⟨⟨t + 1, m + nq, by go_num, by omega, by rw [← HW.out, World.drewN_drewN]⟩, by simp [intOf]; omega⟩
                · obtain rfl : t = c := by omega
                  go_wp2_with fail
                  refine ⟨⟨q + 1, m, by go_num, by omega, ?_, by first | rfl | trivial⟩, by simp [intOf]; omega⟩
                  rw [HOS.out]
                  go_num
            · obtain rfl : q = P.length := by omega
              have htot : offTo P P.length = i := by rw [offTo_all, INV.out.sum]
              rw [htot]
              have B2 : Hid (Below w.heap.size w (wB.drewN n)) := BW.out.trans ((drewN_below _ _).mono BW.out.size)
              clear htot hoff
              generalize wB.drewN n = W at *
              go_wp2_with fail
              go_ret
              exact ⟨rfl, B2.out⟩

end Go.Proofs.Ybulkbqzo
