/-
  Seat b3380a. slices.Sort at uint32: the row is permuted, ascending.
-/
import Derived.Test.YbulkbqzaPdq
import Derived.Sort.AssemblyPlain
namespace Go.Proofs.Ybulkbqza
open Go.RowKit (Hid intOf)
open Go.Sort
set_option linter.unusedVariables false

theorem ltInt_swo : SWO ltInt := ⟨fun x => by simp [ltInt], fun x y z h1 h2 => by simp [ltInt] at *; omega, fun x y z h1 h2 => by simp [ltInt] at *; omega⟩

set_option maxHeartbeats 1000000 in
theorem sort_calls (rb ro n cap : Nat) (d : Array Int) (hd : d.size = n) (w : World) (t : Row32 rb ro d w) (hn : n < 4611686018427387904) :
    Calls Yba.prog 5 #[.slice (some ⟨rb, ro, none⟩) n cap] w fun e w' => e = .returned (.tuple #[]) ∧ ∃ d', PermIn 0 n d d' ∧ SortedIn ltInt 0 n d' ∧ St rb ro n w d' w' := by
  have hbl : Lib.bitLen n < 4611686018427387904 := Nat.lt_of_le_of_lt (Lib.bitLen_le n 62 (by omega) (by omega)) (by omega)
  go_enter Yba.func5, Yba.ntmps5
  go_wp2_with fail
  refine (Yba.bits_Len (n : Int) _ (by omega) (by omega)).mono ?_
  rintro e w2 ⟨rfl, rfl⟩
  rw [Int.toNat_natCast]
  go_wp2_with fail
  refine (pdqsort_calls rb ro n cap hn ltInt_swo _ t.lt (n + 1) 0 n (Lib.bitLen n) d _ (by omega) (St.start t hd) (Nat.zero_le _) (Nat.le_refl _) hbl (Or.inl rfl)).mono ?_
  rintro e w3 ⟨rfl, s3⟩
  go_wp2_with fail
  first | go_end0 | ((try simp only [Exit.inBlock, Exit.then]); refine bodyPost_ret (results_none rfl _ _ _) rfl ?_)
  obtain ⟨h1, h2⟩ := pdq_sorts ltInt ltInt_swo d 0 n (Lib.bitLen n) true true (Nat.zero_le _) (by omega) (Or.inl rfl)
  exact ⟨rfl, _, h1, h2, s3⟩

end Go.Proofs.Ybulkbqza
