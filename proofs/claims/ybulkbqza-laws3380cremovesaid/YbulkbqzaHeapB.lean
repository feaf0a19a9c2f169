/-
  Seat b3380a. slices.heapSortOrdered at uint32.
-/
import Derived.Test.YbulkbqzaHeap
namespace Go.Proofs.Ybulkbqza
open Go.RowKit Go.Sort
set_option linter.unusedVariables false

theorem cell?_setCell_some {w : World} {p q : Addr} {x v : Value} (h : w.cell? q = some v) : ∃ v', (w.setCell p x).cell? q = some v' := by
  by_cases e : p = q
  · subst e; exact ⟨_, World.cell?_setCell_same _ _ _ h⟩
  · exact ⟨v, (World.cell?_setCell_other _ _ _ _ e).trans h⟩

set_option maxHeartbeats 2000000 in
theorem heapSort_calls (b off n cap : Nat) (x y : Nat) (d : Array Int) (w0 w : World) (s : St b off n w0 d w) (hab : x ≤ y) (hb : y ≤ n) (hsz : n < 4611686018427387904) :
    Calls Yba.prog 27 #[.slice (some ⟨b, off, none⟩) n cap, .int .i64 x, .int .i64 y] w fun e w' => e = .returned (.tuple #[]) ∧ St b off n w0 (Sort.heapSort ltInt d x y) w' := by
  have ecast : ((y - x : Nat) : Int) = (y : Int) - (x : Int) := by omega
  go_enter Yba.func27, Yba.ntmps27
  go_wp2_with fail
  go_loopg [9] ((y - x - 1) / 2 + 1) (fun kx s9 wr => s9 = .int .i64 ((kx : Int) - 1) ∧ kx ≤ (y - x - 1) / 2 + 1 ∧ ∃ (dk : Array Int), St b off n w0 dk wr ∧
    Hid (Sort.heapBuild ltInt (y - x) x kx dk = Sort.heapBuild ltInt (y - x) x ((y - x - 1) / 2 + 1) d))
  case atStart => exact ⟨by rw [half_start hab], Nat.le_refl _, d, s, rfl⟩
  case round =>
    obtain ⟨rfl, hkk, dk, sk, HE⟩ := hrel
    cases gk with
    | zero =>
      have hB : Hid (dk = Sort.heapBuild ltInt (y - x) x ((y - x - 1) / 2 + 1) d) := HE.out
      clear HE hkk
      go_wp2_with fail
      go_loopg [10] (y - x) (fun kx s10 wr2 => s10 = .int .i64 ((kx : Int) - 1) ∧ kx ≤ y - x ∧ ∃ (dj : Array Int), St b off n w0 dj wr2 ∧ Hid (Sort.heapPop ltInt x kx dj = Sort.heapPop ltInt x (y - x) dk))
      case atStart => exact ⟨by rw [ecast], Nat.le_refl _, dk, sk, rfl⟩
      case round =>
        obtain ⟨rfl, hkk, dj, sj, HE2⟩ := hrel
        cases gk with
        | zero =>
          go_wp2_with fail
          go_end0
          have e : dj = Sort.heapSort ltInt d x y := by rw [Sort.heapSort, ← hB.out, ← HE2.out]; rfl
          rw [← e]
          exact ⟨rfl, sj⟩
        | succ kx =>
          obtain ⟨G, hG, hcw, hfw⟩ := sj.fam
          have HG : Hid (∀ t, G t = dj[t]!) := hG
          have SJ : Hid (St b off n w0 dj wr) := sj
          clear hG sj sk s ecast
          obtain ⟨v1, hv1⟩ := cell?_setCell_some (w := wr) (p := ⟨b, off + x, none⟩) (x := .int .u32 (G (x + kx))) (q := ⟨b, off + (x + kx), none⟩) (hcw (x + kx) (by omega))
          go_wp2_with fail
          go_region
          all_goals go_wp2_with fail
          have key := (SJ.out.swapped x (x + kx) (by omega) (by omega)).drew
          rw [← HG.out, ← HG.out] at key
          refine (siftDown_calls b off n cap 0 kx x _ w0 _ key (by omega) (by omega) hsz).mono ?_
          rintro e w2 ⟨rfl, s2⟩
          go_wp2_with fail
          go_roundg kx
          case measure => omega
          case rel => exact ⟨by simp, by omega, _, s2, HE2⟩
    | succ kx =>
      go_wp2_with fail
      have hc := siftDown_calls b off n cap kx (y - x) x dk w0 _ sk (by omega) (by omega) hsz
      rw [ecast] at hc
      refine hc.mono ?_
      rintro e w2 ⟨rfl, s2⟩
      go_wp2_with fail
      go_roundg kx
      case measure => omega
      case rel => exact ⟨by simp, by omega, _, s2, HE⟩

end Go.Proofs.Ybulkbqza
