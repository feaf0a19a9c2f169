/-
  Seat b3381a. byName's three methods.
-/
import Derived.Test.YbulkbqzoFrame
import Derived.RegionTactic
import Derived.BigRegion
namespace Go.Proofs.Ybulkbqzo
open Go.RowKit
set_option linter.unusedVariables false

theorem drewN_below (w : World) (n : Nat) : Below w.heap.size w (w.drewN n) := ⟨rfl, rfl, rfl, Nat.le_refl _, fun _ _ => rfl⟩

theorem byName_len (u v : Value) (p : Option Addr) (n c : Nat) (hu : u = .slice p n c) (w : World) :
    Calls Yba.prog 45 #[.agg #[u, v]] w fun e w' => e = .returned (.int .i64 n) ∧ Below w.heap.size w w' := by
  subst hu
  go_enter Yba.func45, Yba.ntmps45
  go_wp2
  go_ret
  exact ⟨rfl, (Below.refl _ _).alloc (Nat.le_refl _) _⟩

set_option maxHeartbeats 1000000 in
theorem byName_less (bh n ch : Nat) (v : Value) (x y : ByteArray) (i j : Nat) (hi : i < n) (hj : j < n) (hn : n < 4611686018427387904) (w : World) (hb : bh < w.heap.size)
    (ci : w.cell? ⟨bh, i, none⟩ = some (.string x)) (cj : w.cell? ⟨bh, j, none⟩ = some (.string y)) :
    Calls Yba.prog 46 #[.agg #[.slice (some ⟨bh, 0, none⟩) n ch, v], .int .i64 i, .int .i64 j] w fun e w' => e = .returned (.bool (Op.bytesLess x.toList y.toList)) ∧ Below w.heap.size w w' := by
  go_enter Yba.func46, Yba.ntmps46
  go_wp2
  go_quiet (fail)
  go_wp2
  go_ret
  exact ⟨rfl, ((Below.refl _ _).alloc (Nat.le_refl _) _).trans ((drewN_below _ _).mono (by simp))⟩

end Go.Proofs.Ybulkbqzo
