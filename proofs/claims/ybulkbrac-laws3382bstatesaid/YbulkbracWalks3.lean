/-
  (*Mutex).TryLock: one goroutine: free, or not.
-/
import Derived.Test.YbulkbracWalks2
namespace Go.Proofs.Ybulkbrac.lawS3382BState

set_option maxHeartbeats 400000 in
theorem try_shut (b off : Nat) (s : Int) (w : World) (h0 : w.cell? ⟨b, off, none⟩ = some (.int .i64 s)) (hm : (bits .and .i64 s 2147483647 != 0) = true) :
    Calls Yba.prog 5 #[.pointer (some ⟨b, off, none⟩)] w fun e w' => e = .returned (.bool false) ∧ w' = w := by
  go_enter Yba.func5, Yba.ntmps5
  go_wp2_with fail
  go_loopw [3] (fun _ w' => w' = w) (fun _ _ => 0)
  case atStart => rfl
  case round =>
    subst hrel
    go_wp2_with (go_at_call 6; refine (load_any _ s _ h0).mono ?_; rintro e w' ⟨rfl, rfl⟩)
    go_ret
    exact ⟨rfl, rfl⟩

set_option maxHeartbeats 400000 in
theorem try_free (b off : Nat) (s : Int) (w : World) (h0 : w.cell? ⟨b, off, none⟩ = some (.int .i64 s)) (f0 : w.frozen? ⟨b, off, none⟩ = false) (hm : (bits .and .i64 s 2147483647 != 0) = false) :
    Calls Yba.prog 5 #[.pointer (some ⟨b, off, none⟩)] w fun e w' => e = .returned (.bool true) ∧ w' = w.setCell ⟨b, off, none⟩ (.int .i64 (bits .or .i64 s 1)) := by
  go_enter Yba.func5, Yba.ntmps5
  go_wp2_with fail
  go_loopw [3] (fun _ w' => w' = w) (fun _ _ => 0)
  case atStart => rfl
  case round =>
    subst hrel
    go_wp2_with (first | (go_at_call 6; refine (load_any _ s _ h0).mono ?_; rintro e w' ⟨rfl, rfl⟩) | (go_at_call 10; refine (cas_hit _ s _ _ h0 f0).mono ?_; rintro e w' ⟨rfl, rfl⟩))
    go_ret
    exact ⟨rfl, rfl⟩

end Go.Proofs.Ybulkbrac.lawS3382BState
