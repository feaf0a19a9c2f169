/-
  Seat b3380a. slices.order2Ordered, medianOrdered, medianAdjacentOrdered, choosePivotOrdered at uint32.
-/
import Derived.Test.YbulkbqzaIns
import Derived.Shelf.GgSortFunc.Pivot
namespace Go.Proofs.Ybulkbqza
open Go.RowKit
open Go.Sort (ltInt)
set_option linter.unusedVariables false

/-- The counter's cell, in a block of the sort's own. -/
structure Ctr (rb : Nat) (w0 : World) (cb s : Nat) (w : World) : Prop where
  n1 : cb ≠ rb
  new : w0.heap.size ≤ cb
  lt : cb < w.heap.size
  c : w.cell? ⟨cb, 0, none⟩ = some (.int .i64 s)
  f : w.frozen? ⟨cb, 0, none⟩ = false

theorem Ctr.below {rb : Nat} {w0 : World} {cb s : Nat} {w w' : World} (k : Ctr rb w0 cb s w) (h : Below w.heap.size w w') : Ctr rb w0 cb s w' :=
  ⟨k.n1, k.new, Nat.lt_of_lt_of_le k.lt h.size, (h.cell (p := ⟨cb, 0, none⟩) k.lt).trans k.c, (h.frozen (p := ⟨cb, 0, none⟩) k.lt).trans k.f⟩

theorem Ctr.drewN {rb : Nat} {w0 : World} {cb s : Nat} {w : World} (k : Ctr rb w0 cb s w) (m : Nat) : Ctr rb w0 cb s (w.drewN m) := ⟨k.n1, k.new, k.lt, k.c, k.f⟩

theorem Ctr.set {rb : Nat} {w0 : World} {cb s : Nat} {w : World} (k : Ctr rb w0 cb s w) (t : Nat) {v : Value} (hv : v = .int .i64 t) : Ctr rb w0 cb t (w.setCell ⟨cb, 0, none⟩ v) :=
  ⟨k.n1, k.new, by simpa [World.setCell] using k.lt, by rw [hv]; exact World.cell?_setCell_same _ _ _ k.c, by simpa using k.f⟩

theorem St.setNew {rb ro n : Nat} {w0 w : World} {d : Array Int} (s : St rb ro n w0 d w) {p : Addr} (h1 : p.block ≠ rb) (h : w0.heap.size ≤ p.block) (v : Value) : St rb ro n w0 d (w.setCell p v) :=
  ⟨s.row.of_block (by simp [World.setCell]) (Below.heap_setCell _ _ _ _ (by omega)), s.kept.setCell (Or.inl h) v, s.size⟩

set_option maxHeartbeats 1000000 in
theorem order2_calls (rb ro n cap : Nat) (hsz : n < 4611686018427387904) (a b cb s : Nat) (d : Array Int) (w0 w : World) (st : St rb ro n w0 d w) (k : Ctr rb w0 cb s w) (ha : a < n) (hb : b < n) (hs : s < 4611686018427387904) :
    Calls Yba.prog 55 #[.slice (some ⟨rb, ro, none⟩) n cap, .int .i64 a, .int .i64 b, .pointer (some ⟨cb, 0, none⟩)] w fun e w' =>
      e = .returned (.tuple #[.int .i64 (Sort.order2 ltInt d a b s).1, .int .i64 (Sort.order2 ltInt d a b s).2.1]) ∧ St rb ro n w0 d w' ∧ Ctr rb w0 cb (Sort.order2 ltInt d a b s).2.2 w' := by
  obtain ⟨G, hG, hcw, hfw⟩ := st.fam
  go_enter Yba.func55, Yba.ntmps55
  cases hlv : ltInt (G b) (G a) with
  | true =>
    have e2 : Sort.order2 ltInt d a b s = (b, a, s + 1) := by rw [hG, hG] at hlv; simp [Sort.order2, hlv]
    rw [e2]
    have KK : Hid (Ctr rb w0 cb s w) := k
    have SS : Hid (St rb ro n w0 d w) := st
    clear e2 hG k st
    go_wp2_with fail
    go_quiet (first | (go_at_call 32; refine Calls.quiet_of_same (less_calls _ _ _)))
    rw [hlv]
    have k1 := KK.out.drewN nq
    have s1 := SS.out.drewN nq
    clear hcw hfw
    generalize w.drewN nq = w1 at *
    have c1 := k1.c
    have f1 := k1.f
    go_wp2_with fail
    go_ret2
    exact ⟨rfl, s1.setNew k1.n1 k1.new _, k1.set (s + 1) (by go_num)⟩
  | false =>
    have e2 : Sort.order2 ltInt d a b s = (a, b, s) := by rw [hG, hG] at hlv; simp [Sort.order2, hlv]
    rw [e2]
    have KK : Hid (Ctr rb w0 cb s w) := k
    have SS : Hid (St rb ro n w0 d w) := st
    clear e2 hG k st
    go_wp2_with fail
    go_quiet (first | (go_at_call 32; refine Calls.quiet_of_same (less_calls _ _ _)))
    rw [hlv]
    go_wp2_with fail
    go_ret2
    exact ⟨rfl, SS.out.drewN nq, KK.out.drewN nq⟩

set_option maxHeartbeats 1000000 in
theorem median_calls (rb ro n cap : Nat) (hsz : n < 4611686018427387904) (a b c cb s : Nat) (d : Array Int) (w0 w : World) (st : St rb ro n w0 d w) (k : Ctr rb w0 cb s w) (ha : a < n) (hb : b < n) (hc : c < n) (hs : s + 3 < 4611686018427387904) :
    Calls Yba.prog 48 #[.slice (some ⟨rb, ro, none⟩) n cap, .int .i64 a, .int .i64 b, .int .i64 c, .pointer (some ⟨cb, 0, none⟩)] w fun e w' =>
      e = .returned (.int .i64 (Sort.median ltInt d a b c s).1) ∧ St rb ro n w0 d w' ∧ Ctr rb w0 cb (Sort.median ltInt d a b c s).2 w' := by
  have hd := st.size
  obtain ⟨x1, y1, t1, h1⟩ : ∃ x y t, Sort.order2 ltInt d a b s = (x, y, t) := ⟨_, _, _, rfl⟩
  obtain ⟨x2, y2, t2, h2⟩ : ∃ x y t, Sort.order2 ltInt d y1 c t1 = (x, y, t) := ⟨_, _, _, rfl⟩
  obtain ⟨x3, y3, t3, h3⟩ : ∃ x y t, Sort.order2 ltInt d x1 x2 t2 = (x, y, t) := ⟨_, _, _, rfl⟩
  have hfin : Sort.median ltInt d a b c s = (y3, t3) := by unfold Sort.median; simp only [h1, h2, h3]
  have l1 := order2_lt' ltInt d s (a := a) (b := b) (by omega) (by omega)
  have s1 := order2_swaps' ltInt d a b s
  rw [h1] at l1 s1
  simp only [] at l1 s1
  have l2 := order2_lt' ltInt d t1 (a := y1) (b := c) l1.2 (by omega)
  have s2 := order2_swaps' ltInt d y1 c t1
  rw [h2] at l2 s2
  simp only [] at l2 s2
  have c1 := order2_calls rb ro n cap hsz a b cb s d w0 w st k ha hb (by omega)
  have c2 := fun w st k => order2_calls rb ro n cap hsz y1 c cb t1 d w0 w st k (by omega) hc (by omega)
  have c3 := fun w st k => order2_calls rb ro n cap hsz x1 x2 cb t2 d w0 w st k (by omega) (by omega) (by omega)
  rw [h1] at c1
  rw [h2] at c2
  rw [h3] at c3
  rw [hfin]
  clear h1 h2 h3 hfin st k hd
  go_enter Yba.func48, Yba.ntmps48
  go_wp2_with fail
  refine c1.mono ?_
  rintro e w1 ⟨rfl, st1, k1⟩
  go_wp2_with fail
  refine (c2 _ st1 k1).mono ?_
  rintro e w2 ⟨rfl, st2, k2⟩
  go_wp2_with fail
  refine (c3 _ st2 k2).mono ?_
  rintro e w3 ⟨rfl, st3, k3⟩
  go_wp2_with fail
  go_ret
  exact ⟨rfl, st3, k3⟩

set_option maxHeartbeats 1000000 in
theorem medianAdjacent_calls (rb ro n cap : Nat) (hsz : n < 4611686018427387904) (a cb s : Nat) (d : Array Int) (w0 w : World) (st : St rb ro n w0 d w) (k : Ctr rb w0 cb s w) (ha : 1 ≤ a) (ha2 : a + 1 < n) (hs : s + 3 < 4611686018427387904) :
    Calls Yba.prog 47 #[.slice (some ⟨rb, ro, none⟩) n cap, .int .i64 a, .pointer (some ⟨cb, 0, none⟩)] w fun e w' =>
      e = .returned (.int .i64 (Sort.medianAdjacent ltInt d a s).1) ∧ St rb ro n w0 d w' ∧ Ctr rb w0 cb (Sort.medianAdjacent ltInt d a s).2 w' := by
  have hm := median_calls rb ro n cap hsz (a - 1) a (a + 1) cb s d w0 w st k (by omega) (by omega) ha2 hs
  rw [show ((a - 1 : Nat) : Int) = (a : Int) - 1 by omega, show ((a + 1 : Nat) : Int) = (a : Int) + 1 by omega] at hm
  go_enter Yba.func47, Yba.ntmps47
  go_wp2_with fail
  refine hm.mono ?_
  rintro e w1 ⟨rfl, st1, k1⟩
  go_wp2_with fail
  go_ret
  exact ⟨rfl, st1, k1⟩

set_option maxHeartbeats 2000000 in
theorem choosePivot_calls (rb ro n cap : Nat) (hsz : n < 4611686018427387904) (a b : Nat) (d : Array Int) (w0 w : World) (st : St rb ro n w0 d w) (hrb : rb < w0.heap.size) (hab : a < b) (hb : b ≤ n) :
    Calls Yba.prog 29 #[.slice (some ⟨rb, ro, none⟩) n cap, .int .i64 a, .int .i64 b] w fun e w' =>
      e = .returned (.tuple #[.int .i64 (Sort.choosePivot ltInt d a b).1, .int .i64 (Sort.hintCode (Sort.choosePivot ltInt d a b).2)]) ∧ St rb ro n w0 d w' := by
  have hw0 : w0.heap.size ≤ w.heap.size := st.kept.size
  have hd := st.size
  have k0 : Ctr rb w0 w.heap.size 0 (w.alloc (.cells #[.int .i64 0] 3)) := ⟨by omega, hw0, by simp, by simp, by simp⟩
  have st0 : St rb ro n w0 d (w.alloc (.cells #[.int .i64 0] 3)) := st.below ((Below.refl _ _).alloc (Nat.le_refl _) _)
  rw [Sort.choosePivot_eq]
  obtain ⟨I, hI⟩ : ∃ I : Nat, I = a + (b - a) / 4 * 1 := ⟨_, rfl⟩
  obtain ⟨J, hJ⟩ : ∃ J : Nat, J = a + (b - a) / 4 * 2 := ⟨_, rfl⟩
  obtain ⟨K, hK⟩ : ∃ K : Nat, K = a + (b - a) / 4 * 3 := ⟨_, rfl⟩
  have eI : ((a : Int) + ((b : Int) - (a : Int)) / 4) = (I : Int) := by omega
  have eJ : ((a : Int) + ((b : Int) - (a : Int)) / 4 * 2) = (J : Int) := by omega
  have eK : ((a : Int) + ((b : Int) - (a : Int)) / 4 * 3) = (K : Int) := by omega
  by_cases h8 : b - a ≥ 8
  · by_cases h50 : b - a ≥ 50
    · obtain ⟨i1, s1, h1⟩ : ∃ i1 s1, Sort.medianAdjacent ltInt d I 0 = (i1, s1) := ⟨_, _, rfl⟩
      obtain ⟨j1, s2, h2⟩ : ∃ j1 s2, Sort.medianAdjacent ltInt d J s1 = (j1, s2) := ⟨_, _, rfl⟩
      obtain ⟨k1, s3, h3⟩ : ∃ k1 s3, Sort.medianAdjacent ltInt d K s2 = (k1, s3) := ⟨_, _, rfl⟩
      obtain ⟨p, s, h4⟩ : ∃ p s, Sort.median ltInt d i1 j1 k1 s3 = (p, s) := ⟨_, _, rfl⟩
      have hraw : Sort.rawPivot ltInt d a b = (p, s) := by simp only [Sort.rawPivot, if_pos h8, if_pos h50, ← hI, ← hJ, ← hK, h1, h2, h3, h4]
      have m1 := Sort.medianAdjacent_mem ltInt d I 0; rw [h1] at m1
      have m2 := Sort.medianAdjacent_mem ltInt d J s1; rw [h2] at m2
      have m3 := Sort.medianAdjacent_mem ltInt d K s2; rw [h3] at m3
      have n1 := Sort.medianAdjacent_count ltInt d I 0; rw [h1] at n1
      have n2 := Sort.medianAdjacent_count ltInt d J s1; rw [h2] at n2
      have n3 := Sort.medianAdjacent_count ltInt d K s2; rw [h3] at n3
      simp only [] at m1 m2 m3 n1 n2 n3
      have c1 := medianAdjacent_calls rb ro n cap hsz I w.heap.size 0 d w0 _ st0 k0 (by omega) (by omega) (by omega)
      have c2 := fun w' st k => medianAdjacent_calls rb ro n cap hsz J w.heap.size s1 d w0 w' st k (by omega) (by omega) (by omega)
      have c3 := fun w' st k => medianAdjacent_calls rb ro n cap hsz K w.heap.size s2 d w0 w' st k (by omega) (by omega) (by omega)
      have c4 := fun w' st k => median_calls rb ro n cap hsz i1 j1 k1 w.heap.size s3 d w0 w' st k (by omega) (by omega) (by omega) (by omega)
      rw [h1] at c1; rw [h2] at c2; rw [h3] at c3; rw [h4] at c4
      rw [hraw]
      obtain ⟨Hc, hHc⟩ : ∃ Hc : Int, Hc = Sort.hintCode (Sort.hintOf s) := ⟨_, rfl⟩
      have hh0 : s = 0 → Hc = 1 := fun h => by rw [hHc, h]; rfl
      have hh12 : s = 12 → Hc = 2 := fun h => by rw [hHc, h]; rfl
      have hhx : s ≠ 0 → s ≠ 12 → Hc = 0 := fun h1 h2 => by rw [hHc]; unfold Sort.hintOf; rw [if_neg h1, if_neg h2]; rfl
      show Calls Yba.prog 29 _ w fun e w' => e = .returned (.tuple #[.int .i64 (p : Int), .int .i64 (Sort.hintCode (Sort.hintOf s))]) ∧ St rb ro n w0 d w'
      rw [← hHc]
      have G0 : Hid _ := hh0
      have G12 : Hid _ := hh12
      have GX : Hid _ := hhx
      clear hHc hraw h1 h2 h3 h4 hI hJ hK m1 m2 m3 hh0 hh12 hhx st st0 k0 hd
      go_enter Yba.func29, Yba.ntmps29
      go_wp2_with fail
      refine c1.mono ?_
      rintro e w1 ⟨rfl, st1, kk1⟩
      go_wp2_with fail
      refine (c2 _ st1 kk1).mono ?_
      rintro e w2 ⟨rfl, st2, kk2⟩
      go_wp2_with fail
      refine (c3 _ st2 kk2).mono ?_
      rintro e w3 ⟨rfl, st3, kk3⟩
      go_wp2_with fail
      refine (c4 _ st3 kk3).mono ?_
      rintro e w4 ⟨rfl, st4, kk4⟩
      have cc := kk4.c
      go_wp2_with fail
      all_goals
        go_ret2
        refine ⟨?_, st4⟩
        first
          | (have e0 : (s : Int) = 0 := of_beq_int (by assumption)
             rw [G0.out (by omega)]; rfl)
          | (have e1 : (s : Int) = 12 := of_beq_int (by assumption)
             rw [G12.out (by omega)]; rfl)
          | (have e0 : (s : Int) ≠ 0 := of_bne_int (by assumption)
             have e1 : (s : Int) ≠ 12 := of_bne_int (by assumption)
             rw [GX.out (by omega) (by omega)]; rfl)
          | (rw [G0.out (by omega)]; rfl)
    · obtain ⟨p, s, h4⟩ : ∃ p s, Sort.median ltInt d I J K 0 = (p, s) := ⟨_, _, rfl⟩
      have hraw : Sort.rawPivot ltInt d a b = (p, s) := by simp only [Sort.rawPivot, if_pos h8, if_neg h50, ← hI, ← hJ, ← hK, h4]
      have c4 := median_calls rb ro n cap hsz I J K w.heap.size 0 d w0 _ st0 k0 (by omega) (by omega) (by omega) (by omega)
      rw [h4] at c4
      rw [hraw]
      obtain ⟨Hc, hHc⟩ : ∃ Hc : Int, Hc = Sort.hintCode (Sort.hintOf s) := ⟨_, rfl⟩
      have hh0 : s = 0 → Hc = 1 := fun h => by rw [hHc, h]; rfl
      have hh12 : s = 12 → Hc = 2 := fun h => by rw [hHc, h]; rfl
      have hhx : s ≠ 0 → s ≠ 12 → Hc = 0 := fun h1 h2 => by rw [hHc]; unfold Sort.hintOf; rw [if_neg h1, if_neg h2]; rfl
      show Calls Yba.prog 29 _ w fun e w' => e = .returned (.tuple #[.int .i64 (p : Int), .int .i64 (Sort.hintCode (Sort.hintOf s))]) ∧ St rb ro n w0 d w'
      rw [← hHc]
      have G0 : Hid _ := hh0
      have G12 : Hid _ := hh12
      have GX : Hid _ := hhx
      clear hHc hraw h4 hI hJ hK hh0 hh12 hhx st st0 k0 hd
      go_enter Yba.func29, Yba.ntmps29
      go_wp2_with fail
      refine c4.mono ?_
      rintro e w4 ⟨rfl, st4, kk4⟩
      have cc := kk4.c
      go_wp2_with fail
      all_goals
        go_ret2
        refine ⟨?_, st4⟩
        first
          | (have e0 : (s : Int) = 0 := of_beq_int (by assumption)
             rw [G0.out (by omega)]; rfl)
          | (have e1 : (s : Int) = 12 := of_beq_int (by assumption)
             rw [G12.out (by omega)]; rfl)
          | (have e0 : (s : Int) ≠ 0 := of_bne_int (by assumption)
             have e1 : (s : Int) ≠ 12 := of_bne_int (by assumption)
             rw [GX.out (by omega) (by omega)]; rfl)
          | (rw [G0.out (by omega)]; rfl)
  · have hraw : Sort.rawPivot ltInt d a b = (J, 0) := by simp only [Sort.rawPivot, if_neg h8, ← hJ]
    rw [hraw]
    show Calls Yba.prog 29 _ w fun e w' => e = .returned (.tuple #[.int .i64 (J : Int), .int .i64 1]) ∧ St rb ro n w0 d w'
    have cc := k0.c
    clear hraw hI hJ hK st hd
    go_enter Yba.func29, Yba.ntmps29
    go_wp2_with fail
    go_ret2
    exact ⟨rfl, st0⟩

end Go.Proofs.Ybulkbqza
