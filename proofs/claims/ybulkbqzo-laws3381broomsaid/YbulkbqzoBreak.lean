/-
  Seat b3381a. sort.breakPatterns.
-/
import Derived.Test.YbulkbqzoEnv
import Derived.Test.YbulkbqzoPivot
import Derived.Test.YbulkbqzoShelf
import Derived.Sort.Walk7
namespace Go.Proofs.Ybulkbqzo
open Go.RowKit
set_option linter.unusedVariables false

/-- A cell of the sort's own outlives a swap. -/
theorem Kept.cellNew {bh bc : Nat} {w w' : World} (h : Kept bh bc w w') {p : Addr} {v : Value} (hp : w.cell? p = some v) (h1 : p.block ≠ bh) (h2 : p.block ≠ bc) : w'.cell? p = some v :=
  (h.cell (World.block_lt_of_cell? _ _ hp) h1 h2).trans hp

set_option maxHeartbeats 4000000 in
theorem breakPatterns_go {rv : Value} {bh bc n : Nat} (E : Env rv bh bc n) (a L : Nat) (d : Array HC) (w0 w : World) (s : St bh bc n w0 d w) (hbh : bh < w0.heap.size) (hbc : bc < w0.heap.size) (hb : a + L ≤ n) (h8 : 8 ≤ L) :
    Calls Yba.prog 13 #[.iface 45 rv, .int .i64 a, .int .i64 ((a + L : Nat) : Int)] w fun e w' => e = .returned (.tuple #[]) ∧ St bh bc n w0 (Sort.breakPatterns d a (a + L)) w' := by
  have mS := E.mS
  have hsz := E.small
  have hw0 : w0.heap.size ≤ w.heap.size := s.kept.size
  rw [breakPatterns_eq d a L h8]
  obtain ⟨M, hM⟩ : ∃ M : Nat, M = 1 <<< Sort.bitsLen L := ⟨_, rfl⟩
  have hM1 : 1 ≤ M := by rw [hM, Nat.one_shiftLeft]; exact Nat.two_pow_pos _
  have hM2 : M ≤ 2 * L := by rw [hM, Nat.one_shiftLeft]; exact Sort.two_pow_bitsLen_le (by omega)
  have hNP : ∀ w, Calls Yba.prog 20 #[.int .i64 (L : Int)] w fun e w' => e = .returned (.int .u64 (M : Int)) ∧ w' = w := by rw [hM]; exact fun w => Yba.nextPowerOfTwo L (by omega) w
  rw [← hM]
  clear hM
  have hLz : ((a : Int) + (L : Int) - (a : Int)) = (L : Int) := by omega
  have h8z : (8 : Int) ≤ (L : Int) := by omega
  have n1 : w.heap.size ≠ bh := by omega
  have n2 : w.heap.size ≠ bc := by omega
  go_enter Yba.func13, Yba.ntmps13
  go_wp2_with (go_at_call 20; refine (hNP _).mono ?_; rintro e w' ⟨rfl, rfl⟩)
  go_loopg [9] 3 (fun g1 vi wr => ∃ (t : Nat) (r : UInt64) (dk : Array HC), vi = .int .i64 ((a : Int) + (L : Int) / 4 * 2 - 1 + (t : Int)) ∧ t ≤ 3 ∧ 3 - t ≤ g1 ∧ St bh bc n w0 dk wr ∧
      wr.cell? ⟨w.heap.size, 0, none⟩ = some (.int .u64 (r.toNat : Int)) ∧ wr.frozen? ⟨w.heap.size, 0, none⟩ = false ∧
      Hid (bpRest a L M (a + L / 4 * 2 - 1) (3 - t) t (r, dk) = bpRest a L M (a + L / 4 * 2 - 1) 3 0 (UInt64.ofNat L, d)))
  case atStart =>
    refine ⟨0, UInt64.ofNat L, d, by simp, by omega, by omega, s.below ((Below.refl _ _).alloc (Nat.le_refl _) _), ?_, by simp, rfl⟩
    rw [show (UInt64.ofNat L).toNat = L from by simp; omega]
    simp
  case round =>
    obtain ⟨t, r, dk, rfl, ht, hg1, sk, cR, fR, HR⟩ := hrel
    by_cases ht3 : t < 3
    · have hle : (a : Int) + (L : Int) / 4 * 2 - 1 + (t : Int) ≤ (a : Int) + (L : Int) / 4 * 2 + 1 := by omega
      obtain ⟨R, hRr⟩ : ∃ R : Nat, R = r.toNat := ⟨_, rfl⟩
      have lR : R < 18446744073709551616 := by rw [hRr]; exact r.toNat_lt
      obtain ⟨R', hR'⟩ : ∃ R' : Nat, R' = Sort.xorNextN R := ⟨_, rfl⟩
      have lR' : R' < 18446744073709551616 := by rw [hR']; exact Sort.xorNextN_lt R lR
      obtain ⟨O, hO⟩ : ∃ O : Nat, O = R' &&& (M - 1) := ⟨_, rfl⟩
      have lO : O ≤ M - 1 := by rw [hO]; exact Nat.and_le_right
      have eAnd : bits .and .u64 (R' : Int) ((M : Int) - 1) = (O : Int) := by
        rw [show ((M : Int) - 1) = ((M - 1 : Nat) : Int) by omega, bits_and_u64_nat _ _ lR' (by omega), hO]
      rw [← hRr] at cR
      have hNext : Calls Yba.prog 21 #[.pointer (some ⟨w.heap.size, 0, none⟩)] wr fun e w' => e = .returned (.int .u64 (R' : Int)) ∧ w' = (wr.setCell ⟨w.heap.size, 0, none⟩ (.int .u64 (R' : Int))).drewN 3 := by
        rw [hR']; exact Yba.xorshift_Next _ _ R lR wr cR fR
      have HN : Hid (R' = (Sort.xorNext r).toNat ∧ O = (Sort.xorNext r).toNat &&& (M - 1)) := by
        have e : R' = (Sort.xorNext r).toNat := by rw [hR', hRr, Sort.xorNext_toNat]
        exact ⟨e, by rw [hO, e]⟩
      clear hRr hR' hO
      have s2 : St bh bc n w0 dk ((wr.setCell ⟨w.heap.size, 0, none⟩ (.int .u64 (R' : Int))).drewN 3) := (sk.setNew n1 n2 hw0 _).below (drewN_below _ _)
      have cR' : ((wr.setCell ⟨w.heap.size, 0, none⟩ (.int .u64 (R' : Int))).drewN 3).cell? ⟨w.heap.size, 0, none⟩ = some (.int .u64 (R' : Int)) := by
        rw [World.cell?_drewN]; exact World.cell?_setCell_same _ _ _ cR
      have fR' : ((wr.setCell ⟨w.heap.size, 0, none⟩ (.int .u64 (R' : Int))).drewN 3).frozen? ⟨w.heap.size, 0, none⟩ = false := by
        rw [World.frozen?_drewN]; simpa using fR
      generalize hw2 : (wr.setCell ⟨w.heap.size, 0, none⟩ (.int .u64 (R' : Int))).drewN 3 = w2 at hNext s2 cR' fR'
      clear cR fR hw2
      by_cases hLO : L ≤ O
      · have hLOz : (L : Int) ≤ (O : Int) := by omega
        go_wp2_with fail
        refine hNext.mono ?_
        rintro e w' ⟨rfl, rfl⟩
        go_wp2_with fail
        refine (E.swapAt s2 (a + L / 4 * 2 - 1 + t) (a + (O - L)) (by omega) (by omega) (by omega) (by omega)).mono ?_
        rintro e w3 ⟨rfl, s3, k3⟩
        go_wp2_with fail
        go_roundg (3 - (t + 1))
        case measure => omega
        case rel => exact ⟨t + 1, Sort.xorNext r, _, by congr 1; omega, by omega, Nat.le_refl _, s3, by rw [← HN.out.1]; exact k3.cellNew cR' n1 n2,
          (k3.frozen (World.block_lt_of_cell? _ _ cR') n1 n2).trans fR',
          (show Hid _ from by rw [← HR.out, bp_step a L M _ t r dk (O - L) ht3 (by rw [← HN.out.2, if_pos (by omega)])]; exact rfl)⟩
      · have hLOz : ¬ (L : Int) ≤ (O : Int) := by omega
        go_wp2_with fail
        refine hNext.mono ?_
        rintro e w' ⟨rfl, rfl⟩
        go_wp2_with fail
        refine (E.swapAt s2 (a + L / 4 * 2 - 1 + t) (a + O) (by omega) (by omega) (by omega) (by omega)).mono ?_
        rintro e w3 ⟨rfl, s3, k3⟩
        go_wp2_with fail
        go_roundg (3 - (t + 1))
        case measure => omega
        case rel => exact ⟨t + 1, Sort.xorNext r, _, by congr 1; omega, by omega, Nat.le_refl _, s3, by rw [← HN.out.1]; exact k3.cellNew cR' n1 n2,
          (k3.frozen (World.block_lt_of_cell? _ _ cR') n1 n2).trans fR',
          (show Hid _ from by rw [← HR.out, bp_step a L M _ t r dk O ht3 (by rw [← HN.out.2, if_neg (by omega)])]; exact rfl)⟩
    · obtain rfl : t = 3 := by omega
      have hle : ¬ ((a : Int) + (L : Int) / 4 * 2 - 1 + ((3 : Nat) : Int) ≤ (a : Int) + (L : Int) / 4 * 2 + 1) := by omega
      go_wp2_with fail
      go_end0
      refine ⟨rfl, ?_⟩
      rw [← HR.out]
      exact sk

theorem breakPatterns_calls {rv : Value} {bh bc n : Nat} (E : Env rv bh bc n) (a b : Nat) (d : Array HC) (w0 w : World) (s : St bh bc n w0 d w) (hbh : bh < w0.heap.size) (hbc : bc < w0.heap.size) (hab : a ≤ b) (hb : b ≤ n) :
    Calls Yba.prog 13 #[.iface 45 rv, .int .i64 a, .int .i64 b] w fun e w' => e = .returned (.tuple #[]) ∧ St bh bc n w0 (Sort.breakPatterns d a b) w' := by
  have hsz := E.small
  obtain ⟨L, rfl⟩ : ∃ L, b = a + L := ⟨b - a, by omega⟩
  by_cases h8 : 8 ≤ L
  · exact breakPatterns_go E a L d w0 w s hbh hbc hb h8
  · have hv : Sort.breakPatterns d a (a + L) = d := by unfold Sort.breakPatterns; simp only [Nat.add_sub_cancel_left]; rw [if_neg h8]
    rw [hv]
    have hLz : ((a : Int) + (L : Int) - (a : Int)) = (L : Int) := by omega
    have h8z : ¬ (8 : Int) ≤ (L : Int) := by omega
    go_enter Yba.func13, Yba.ntmps13
    go_wp2_with fail
    go_end0
    exact ⟨rfl, s⟩

end Go.Proofs.Ybulkbqzo
