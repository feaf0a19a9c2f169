/-
  Seat b3381a. What the sort's walks lean on of the value that is sorted; sort.insertionSort, sort.reverseRange.
-/
import Derived.Test.YbulkbqzoMeths
import Derived.Sort.WalkA
import Derived.Sort.WalkB12
import Derived.Deep.LoopGhost
namespace Go.Proofs.Ybulkbqzo
open Go.RowKit
set_option linter.unusedVariables false

/-- What is asked of the interface value '.iface 45 rv' over the two rows. -/
structure Env (rv : Value) (bh bc n : Nat) : Prop where
  small : n < 4611686018427387904
  mL : ∀ w, Sem.run Yba.prog (method 201 45 rv "Less") w = .ok (46, rv) w
  mS : ∀ w, Sem.run Yba.prog (method 201 45 rv "Swap") w = .ok (47, rv) w
  less : ∀ (d : Array HC) (w : World), Two bh bc d w → d.size = n → ∀ i j : Nat, i < n → j < n →
    Calls Yba.prog 46 #[rv, .int .i64 i, .int .i64 j] w fun e w' => e = .returned (.bool (ltS d[i]! d[j]!)) ∧ Below w.heap.size w w'
  swap : ∀ (d : Array HC) (w : World), Two bh bc d w → d.size = n → ∀ i j : Nat, i < n → j < n →
    Calls Yba.prog 47 #[rv, .int .i64 i, .int .i64 j] w fun e w' => e = .returned (.tuple #[]) ∧ Two bh bc (Sort.swp d i j) w' ∧ Kept bh bc w w'

/-- The state inside a sort that began in the world w0. -/
structure St (bh bc n : Nat) (w0 : World) (d : Array HC) (w : World) : Prop where
  two : Two bh bc d w
  kept : Kept bh bc w0 w
  size : d.size = n

theorem St.below {bh bc n : Nat} {w0 w w' : World} {d : Array HC} (s : St bh bc n w0 d w) (h : Below w.heap.size w w') : St bh bc n w0 d w' := ⟨s.two.of_below h, s.kept.trans (Kept.of_below h), s.size⟩
theorem St.drew {bh bc n : Nat} {w0 w : World} {d : Array HC} (s : St bh bc n w0 d w) : St bh bc n w0 d w.drew := ⟨s.two.drew, s.kept.drew, s.size⟩
theorem St.trans {bh bc n : Nat} {w0 w w' : World} {d d' : Array HC} (s : St bh bc n w0 d w) (h : St bh bc n w d' w') : St bh bc n w0 d' w' := ⟨h.two, s.kept.trans h.kept, h.size⟩
theorem St.start {bh bc n : Nat} {w : World} {d : Array HC} (t : Two bh bc d w) (h : d.size = n) : St bh bc n w d w := ⟨t, Kept.refl _ _ _, h⟩

theorem Env.lessAt {rv : Value} {bh bc n : Nat} (E : Env rv bh bc n) {d : Array HC} {w0 w : World} (s : St bh bc n w0 d w) (i j : Nat) (hi : i < n) (hj : j < n) {zi zj : Int} (ei : zi = i) (ej : zj = j) {c : Bool} (hc : ltS d[i]! d[j]! = c) :
    Calls Yba.prog 46 #[rv, .int .i64 zi, .int .i64 zj] w fun e w' => e = .returned (.bool c) ∧ St bh bc n w0 d w' ∧ Below w.heap.size w w' := by
  subst ei ej hc
  exact (E.less d w s.two s.size i j hi hj).mono fun e w' ⟨he, hb⟩ => ⟨he, s.below hb, hb⟩

theorem Env.swapAt {rv : Value} {bh bc n : Nat} (E : Env rv bh bc n) {d : Array HC} {w0 w : World} (s : St bh bc n w0 d w) (i j : Nat) (hi : i < n) (hj : j < n) {zi zj : Int} (ei : zi = i) (ej : zj = j) :
    Calls Yba.prog 47 #[rv, .int .i64 zi, .int .i64 zj] w fun e w' => e = .returned (.tuple #[]) ∧ St bh bc n w0 (Sort.swp d i j) w' ∧ Kept bh bc w w' := by
  subst ei ej
  exact (E.swap d w s.two s.size i j hi hj).mono fun e w' ⟨he, ht, hk⟩ => ⟨he, ⟨ht, s.kept.trans hk, by rw [swp_size]; exact s.size⟩, hk⟩

set_option maxHeartbeats 1000000 in
theorem insertionSort_calls {rv : Value} {bh bc n : Nat} (E : Env rv bh bc n) (a b : Nat) (d : Array HC) (w0 w : World) (s : St bh bc n w0 d w) (hab : a ≤ b) (hb : b ≤ n) :
    Calls Yba.prog 11 #[.iface 45 rv, .int .i64 a, .int .i64 b] w fun e w' => e = .returned (.tuple #[]) ∧ St bh bc n w0 (Sort.insertionSort ltS d a b) w' := by
  have mL := E.mL
  have mS := E.mS
  have hsz := E.small
  go_enter Yba.func11, Yba.ntmps11
  go_wp2_with fail
  go_loopw [6] (fun vi wr => ∃ (i : Nat) (dk : Array HC), vi = .int .i64 i ∧ a < i ∧ i ≤ b + 1 ∧ St bh bc n w0 dk wr ∧ Hid (Sort.insOuter ltS a b i dk = Sort.insOuter ltS a b (a + 1) d)) (fun vi _ => b + 1 - (intOf vi).toNat)
  case atStart => exact ⟨a + 1, d, by go_num, by omega, by omega, s, rfl⟩
  case round =>
    obtain ⟨i, dk, rfl, hai, hib, sk, HO⟩ := hrel
    by_cases hlt : i < b
    · go_wp2_with fail
      go_loopw [7] (fun vj wr2 => ∃ (j : Nat) (dj : Array HC), vj = .int .i64 j ∧ a ≤ j ∧ j ≤ i ∧ St bh bc n w0 dj wr2 ∧ Hid (Sort.insInner ltS a j dj = Sort.insInner ltS a i dk)) (fun vj _ => (intOf vj).toNat)
      case atStart => exact ⟨i, dk, rfl, by omega, Nat.le_refl _, sk, rfl⟩
      case round =>
        obtain ⟨j, dj, rfl, haj, hji, sj, HI⟩ := hrel
        by_cases hja : a < j
        · cases hlv : ltS dj[j]! dj[j - 1]! with
          | true =>
            go_wp2_with (first
              | (go_at_call 46; refine (E.lessAt sj j (j - 1) (by omega) (by omega) rfl (by omega) hlv).mono ?_; rintro e w1 ⟨rfl, sj1, -⟩)
              | (go_at_call 47; refine (E.swapAt sj1 j (j - 1) (by omega) (by omega) rfl (by omega)).mono ?_; rintro e w2 ⟨rfl, sj2, -⟩))
            exact ⟨⟨j - 1, _, by congr 1; omega, by omega, by omega, sj2, show _ = _ from (insInner_go ltS a j dj hja hlv).symm.trans HI.out⟩, by simp [intOf]; omega⟩
          | false =>
            go_wp2_with (go_at_call 46; refine (E.lessAt sj j (j - 1) (by omega) (by omega) rfl (by omega) hlv).mono ?_; rintro e w1 ⟨rfl, sj1, -⟩)
            exact ⟨⟨i + 1, dj, by go_num, by omega, by omega, sj1, show _ = _ from by rw [← HO.out, insOuter_go _ _ _ _ _ hlt, ← HI.out, insInner_stop _ _ _ _ (Or.inr hlv)]⟩, by simp [intOf]; omega⟩
        · go_wp2_with fail
          exact ⟨⟨i + 1, dj, by go_num, by omega, by omega, sj, show _ = _ from by rw [← HO.out, insOuter_go _ _ _ _ _ hlt, ← HI.out, insInner_stop _ _ _ _ (Or.inl (by omega))]⟩, by simp [intOf]; omega⟩
    · go_wp2_with fail
      go_end0
      exact ⟨rfl, by unfold Sort.insertionSort; rw [← HO.out, insOuter_stop _ _ _ _ _ hlt]; exact sk⟩

set_option maxHeartbeats 1000000 in
theorem reverseRange_calls {rv : Value} {bh bc n : Nat} (E : Env rv bh bc n) (a b : Nat) (d : Array HC) (w0 w : World) (s : St bh bc n w0 d w) (hab : a ≤ b) (hb : b ≤ n) :
    Calls Yba.prog 15 #[.iface 45 rv, .int .i64 a, .int .i64 b] w fun e w' => e = .returned (.tuple #[]) ∧ St bh bc n w0 (Sort.reverseRange d a b) w' := by
  have mS := E.mS
  have hsz := E.small
  go_enter Yba.func15, Yba.ntmps15
  go_wp2_with fail
  go_loopg [6, 7] (b - a) (fun k s6 s7 wr => ∃ (i jn : Nat) (jz : Int) (dk : Array HC), s6 = .int .i64 i ∧ s7 = .int .i64 jz ∧ ((i : Int) < jz → jz = jn ∧ jn < n) ∧ (¬ (i : Int) < jz → ¬ i < jn) ∧ jn - i ≤ k ∧
    St bh bc n w0 dk wr ∧ Hid (Sort.reverseLoop i jn dk = Sort.reverseLoop a (b - 1) d))
  case atStart => exact ⟨a, b - 1, (b : Int) - 1, d, rfl, rfl, fun h => ⟨by omega, by omega⟩, fun h => by omega, by omega, s, rfl⟩
  case round =>
    obtain ⟨i, jn, jz, dk, rfl, rfl, h1, h2, hk, sk, heq⟩ := hrel
    by_cases hlt : (i : Int) < jz
    · obtain ⟨rfl, hjn⟩ := h1 hlt
      have hij : i < jn := by omega
      clear h1 h2
      go_wp2_with (go_at_call 47; refine (E.swapAt sk i jn (by omega) (by omega) rfl rfl).mono ?_; rintro e w' ⟨rfl, sk2, -⟩)
      go_roundg (jn - 1 - (i + 1))
      case measure => omega
      case rel =>
        have heq' := heq.out
        rw [Sort.reverseLoop, if_pos hij] at heq'
        exact ⟨i + 1, jn - 1, (jn : Int) - 1, _, by simp, rfl, fun h => ⟨by omega, by omega⟩, fun h => by omega, Nat.le_refl _, sk2, heq'⟩
    · have hnot := h2 hlt
      clear h1 h2
      go_wp2_with fail
      go_end0
      refine ⟨rfl, ?_⟩
      have heq' := heq.out
      rw [Sort.reverseLoop, if_neg hnot] at heq'
      rw [Sort.reverseRange, ← heq']
      exact sk

end Go.Proofs.Ybulkbqzo
