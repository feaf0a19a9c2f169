/-
  Seat b3381a. sort.heapSort.
-/
import Derived.Test.YbulkbqzoHeap
namespace Go.Proofs.Ybulkbqzo
open Go.RowKit
set_option linter.unusedVariables false

set_option maxHeartbeats 2000000 in
theorem heapSort_calls {rv : Value} {bh bc n : Nat} (E : Env rv bh bc n) (a b : Nat) (d : Array HC) (w0 w : World) (s : St bh bc n w0 d w) (hab : a ≤ b) (hb : b ≤ n) :
    Calls Yba.prog 12 #[.iface 45 rv, .int .i64 a, .int .i64 b] w fun e w' => e = .returned (.tuple #[]) ∧ St bh bc n w0 (Sort.heapSort ltS d a b) w' := by
  have mS := E.mS
  have hsz := E.small
  have ecast : ((b - a : Nat) : Int) = (b : Int) - (a : Int) := by omega
  go_enter Yba.func12, Yba.ntmps12
  go_wp2_with fail
  go_loopg [9] ((b - a - 1) / 2 + 1) (fun kx s9 wr => s9 = .int .i64 ((kx : Int) - 1) ∧ kx ≤ (b - a - 1) / 2 + 1 ∧ ∃ (dk : Array HC), St bh bc n w0 dk wr ∧
    Hid (Sort.heapBuild ltS (b - a) a kx dk = Sort.heapBuild ltS (b - a) a ((b - a - 1) / 2 + 1) d))
  case atStart => exact ⟨by rw [half_start hab], Nat.le_refl _, d, s, rfl⟩
  case round =>
    obtain ⟨rfl, hkk, dk, sk, HE⟩ := hrel
    cases gk with
    | zero =>
      have hB : Hid (dk = Sort.heapBuild ltS (b - a) a ((b - a - 1) / 2 + 1) d) := HE.out
      clear HE hkk
      go_wp2_with fail
      go_loopg [10] (b - a) (fun kx s10 wr2 => s10 = .int .i64 ((kx : Int) - 1) ∧ kx ≤ b - a ∧ ∃ (dj : Array HC), St bh bc n w0 dj wr2 ∧ Hid (Sort.heapPop ltS a kx dj = Sort.heapPop ltS a (b - a) dk))
      case atStart => exact ⟨by rw [ecast], Nat.le_refl _, dk, sk, rfl⟩
      case round =>
        obtain ⟨rfl, hkk, dj, sj, HE2⟩ := hrel
        cases gk with
        | zero =>
          go_wp2_with fail
          go_end0
          have e : dj = Sort.heapSort ltS d a b := by rw [Sort.heapSort, ← hB.out, ← HE2.out]; rfl
          rw [← e]
          exact ⟨rfl, sj⟩
        | succ kx =>
          go_wp2_with fail
          refine (E.swapAt sj a (a + kx) (by omega) (by omega) (by omega) (by omega)).mono ?_
          rintro e w1 ⟨rfl, s1, -⟩
          go_wp2_with fail
          refine (siftDown_calls E 0 kx a _ w0 _ s1 (by omega) (by omega)).mono ?_
          rintro e w2 ⟨rfl, s2⟩
          go_wp2_with fail
          go_roundg kx
          case measure => omega
          case rel => exact ⟨by simp, by omega, _, s2, HE2⟩
    | succ kx =>
      go_wp2_with fail
      have hc := siftDown_calls E kx (b - a) a dk w0 _ sk (by omega) (by omega)
      rw [ecast] at hc
      refine hc.mono ?_
      rintro e w2 ⟨rfl, s2⟩
      go_wp2_with fail
      go_roundg kx
      case measure => omega
      case rel => exact ⟨by simp, by omega, _, s2, HE⟩

end Go.Proofs.Ybulkbqzo
