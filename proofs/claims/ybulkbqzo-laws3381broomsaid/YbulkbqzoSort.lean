/-
  Seat b3381a. sort.Sort(byName{..}): the two rows, permuted together, the names ascending.
-/
import Derived.Test.YbulkbqzoPdq
import Derived.Test.YbulkbqzoSwap
import Derived.Sort.AssemblyPlain
namespace Go.Proofs.Ybulkbqzo
open Go.RowKit (Hid intOf)
open Go.Sort
set_option linter.unusedVariables false

theorem ltS_eq (x y : HC) : ltS x y = decide (x.1.toList < y.1.toList) := bytesLess_eq _ _

theorem ltS_swo : SWO ltS := ⟨fun x => by rw [ltS_eq]; simp,
  fun x y z h1 h2 => by rw [ltS_eq] at *; simp at *; exact List.lt_trans h1 h2,
  fun x y z h1 h2 => by
    rw [ltS_eq] at *; simp at *
    exact List.le_trans h2 h1⟩

/-- The receiver. -/
def rvOf (bh bc n ch cc : Nat) : Value := .agg #[.slice (some ⟨bh, 0, none⟩) n ch, .slice (some ⟨bc, 0, none⟩) n cc]

theorem meth_less (u v : Value) (w : World) : Sem.run Yba.prog (method 201 45 (.agg #[u, v]) "Less") w = .ok (46, .agg #[u, v]) w := by kernel_rfl
theorem meth_swap (u v : Value) (w : World) : Sem.run Yba.prog (method 201 45 (.agg #[u, v]) "Swap") w = .ok (47, .agg #[u, v]) w := by kernel_rfl
theorem meth_len (u v : Value) (w : World) : Sem.run Yba.prog (method 201 45 (.agg #[u, v]) "Len") w = .ok (45, .agg #[u, v]) w := by kernel_rfl

theorem env_of (bh bc n ch cc : Nat) (hn : n < 4611686018427387904) : Env (rvOf bh bc n ch cc) bh bc n where
  small := hn
  mL := meth_less _ _
  mS := meth_swap _ _
  less := fun d w t hd i j hi hj => byName_less bh n ch _ d[i]!.1 d[j]!.1 i j hi hj hn w t.hb (t.h i (by omega)) (t.h j (by omega))
  swap := fun d w t hd i j hi hj => byName_swap bh bc n ch cc d hd i j hi hj hn w t

set_option maxHeartbeats 1000000 in
theorem sort_tiny (p : Option Addr) (n c : Nat) (v : Value) (hn : n ≤ 1) (w : World) :
    Calls Yba.prog 6 #[.iface 45 (.agg #[.slice p n c, v])] w fun e w' => e = .returned (.tuple #[]) ∧ RowKit.Below w.heap.size w w' := by
  have mN := meth_len (.slice p n c) v
  have hz : (n : Int) ≤ 1 := by omega
  go_enter Yba.func6, Yba.ntmps6
  go_wp2_with fail
  refine (byName_len _ v p n c rfl _).mono ?_
  rintro e w1 ⟨rfl, hb⟩
  go_wp2_with fail
  first | go_end0 | ((try simp only [Exit.inBlock, Exit.then]); refine bodyPost_ret (results_none rfl _ _ _) rfl ?_)
  exact ⟨rfl, hb⟩

set_option maxHeartbeats 1000000 in
theorem sort_two (bh bc n ch cc : Nat) (d : Array HC) (hd : d.size = n) (w : World) (t : Two bh bc d w) (hn : n < 4611686018427387904) (h2 : 2 ≤ n) :
    Calls Yba.prog 6 #[.iface 45 (rvOf bh bc n ch cc)] w fun e w' => e = .returned (.tuple #[]) ∧ ∃ d', PermIn 0 n d d' ∧ SortedIn ltS 0 n d' ∧ St bh bc n w d' w' := by
  have mN : ∀ w, Sem.run Yba.prog (method 201 45 (rvOf bh bc n ch cc) "Len") w = .ok (45, rvOf bh bc n ch cc) w := meth_len _ _
  have hlen := fun w => byName_len (.slice (some ⟨bh, 0, none⟩) n ch) (.slice (some ⟨bc, 0, none⟩) n cc) _ n ch rfl w
  have hlen' : ∀ w, Calls Yba.prog 45 #[rvOf bh bc n ch cc] w fun e w' => e = .returned (.int .i64 n) ∧ RowKit.Below w.heap.size w w' := hlen
  have hz : ¬ (n : Int) ≤ 1 := by omega
  have E := env_of bh bc n ch cc hn
  generalize rvOf bh bc n ch cc = rv at *
  clear hlen
  have hbl : Lib.bitLen n < 4611686018427387904 := Nat.lt_of_le_of_lt (Lib.bitLen_le n 62 (by omega) (by omega)) (by omega)
  go_enter Yba.func6, Yba.ntmps6
  go_wp2_with fail
  refine (hlen' _).mono ?_
  rintro e w1 ⟨rfl, hb⟩
  have s1 : St bh bc n w d w1 := (St.start t hd).below hb
  go_wp2_with fail
  refine (Yba.bits_Len (n : Int) _ (by omega) (by omega)).mono ?_
  rintro e w2 ⟨rfl, rfl⟩
  rw [Int.toNat_natCast]
  go_wp2_with fail
  refine (pdqsort_calls E ltS_swo w t.hb t.cb (n + 1) 0 n (Lib.bitLen n) d _ (by omega) s1 (Nat.zero_le _) (Nat.le_refl _) hbl (Or.inl rfl)).mono ?_
  rintro e w3 ⟨rfl, s3⟩
  go_wp2_with fail
  first | go_end0 | ((try simp only [Exit.inBlock, Exit.then]); refine bodyPost_ret (results_none rfl _ _ _) rfl ?_)
  obtain ⟨h1, h2⟩ := pdq_sorts ltS ltS_swo d 0 n (Lib.bitLen n) true true (Nat.zero_le _) (by omega) (Or.inl rfl)
  exact ⟨rfl, _, h1, h2, s3⟩

end Go.Proofs.Ybulkbqzo
