/-
  Seat b3380a. zzs3380cwalk at an inner node.
-/
import Derived.Test.YbulkbqzaCwL
namespace Go.Proofs.Ybulkbqza
open Go.RowKit
set_option linter.unusedVariables false
set_option maxRecDepth 100000
set_option linter.unusedSimpArgs false

def IHw (d : Nat) : Prop := ∀ (w : World) (nb : Nat) (ks : List Nat) (n : Nat) (own : List Nat) (base ob : Nat) (acc : List Nat) (root : Bool), Tree d 33 33 w nb ks n own → (root = true ∨ (16 ≤ n ∧ n ≤ 32)) → (root = true → 0 < d → 2 ≤ n) → Out base w ob acc →
    (∀ b ∈ own, b < base ∧ b ≠ ob) → ob < w.heap.size → base ≤ w.heap.size → ks.sum < 18446744073709551616 → acc.length + ks.length < 10000 → (ks = [] → acc = []) →
    Calls Yba.prog 17 #[.pointer (some ⟨nb, 0, none⟩), .bool root, .pointer (some ⟨ob, 0, none⟩)] w fun e w' => e = .returned (.tuple #[.int .i64 ((d + 1 : Nat) : Int), .bool true]) ∧ Walked base w w' ob acc ks

/-- The block of the variable holds one cell, whatever it is; what the slice holds. -/
theorem Out.at {base : Nat} {w : World} {ob : Nat} {acc : List Nat} (h : Out base w ob acc) (hne : acc ≠ []) : ∃ g cap, Blk w ob [.slice (some ⟨g, 0, none⟩) acc.length cap] 28 ∧ g < w.heap.size ∧ Ids w g 0 acc := by
  obtain ⟨a, cap, B, hS, _⟩ := h.value
  rcases hS with h1 | ⟨b, off, rfl, hb, hI⟩
  · exact absurd h1 hne
  · rcases h with ⟨h1, _⟩ | ⟨_, g, cp, ys, B2, q1, q2, BG, q3, q4, q5⟩
    · exact absurd h1 hne
    · have := (B.inj B2).1
      simp at this
      obtain ⟨⟨rfl, rfl⟩, rfl⟩ := this
      exact ⟨b, cap, B, hb, hI⟩

set_option maxHeartbeats 4000000 in
theorem cwalk_inner (d : Nat) (IH : IHw d) (w : World) (nb : Nat) (ks : List Nat) (n : Nat) (own : List Nat) (base ob : Nat) (acc : List Nat) (root : Bool) (T : Tree (d + 1) 33 33 w nb ks n own) (hroot : root = true ∨ (16 ≤ n ∧ n ≤ 32)) (hr2 : root = true → 2 ≤ n) (hO : Out base w ob acc)
    (hown : ∀ b ∈ own, b < base ∧ b ≠ ob) (hob : ob < w.heap.size) (hbase : base ≤ w.heap.size) (hsum : ks.sum < 18446744073709551616) (hlen : acc.length + ks.length < 10000) (hd : d < 1000) :
    Calls Yba.prog 17 #[.pointer (some ⟨nb, 0, none⟩), .bool root, .pointer (some ⟨ob, 0, none⟩)] w fun e w' => e = .returned (.tuple #[.int .i64 ((d + 1 + 1 : Nat) : Int), .bool true]) ∧ Walked base w w' ob acc ks := by
  obtain ⟨kb, cb, xs, ps, es, F, hk⟩ := T
  obtain rfl := F.hN
  obtain rfl := F.hKs
  have en := eql_nil
  have en47 := neq47
  have N := F.hNode
  have KB := F.hKeys
  have CB := F.hKids
  have hle := F.hLe
  have hpos := F.hPos
  obtain ⟨hnb1, hnb2⟩ := hown nb (by rw [F.hOwn]; simp)
  obtain ⟨hkb1, hkb2⟩ := hown kb (by rw [F.hOwn]; simp)
  obtain ⟨hcb1, hcb2⟩ := hown cb (by rw [F.hOwn]; simp)
  have hkown : ∀ e ∈ es, ∀ b ∈ e.own, b < base ∧ b ≠ ob := fun e he b hb => hown b (by rw [F.hOwn]; simp only [List.mem_cons]; exact .inr (.inr (.inr (mem_ownOf he hb))))
  have c0 : w.cell? ⟨nb, 0, none⟩ = some (.slice (some ⟨kb, 0, none⟩) es.length 33) := N.cell 0
  have c1 : w.cell? ⟨nb, 1, none⟩ = some (.slice (some ⟨cb, 0, none⟩) es.length 33) := N.cell 1
  have hguard : root = false → ¬ (es.length : Int) < 16 ∧ ¬ (32 : Int) < (es.length : Int) := fun h => by
    rcases hroot with h1 | h1
    · rw [h] at h1; cases h1
    · omega
  have hguard2 : root = true → ¬ (es.length : Int) < 2 := fun h => by have := hr2 h; omega
  have hwsz : ∀ b, Arr w ob b → b < w.heap.size := fun b h => (hO.arr h).2.2
  clear hroot hr2
  cases root with
  | false =>
    obtain ⟨gd1, gd2⟩ := hguard rfl
    clear hguard hguard2
    go_enter Yba.func17, Yba.ntmps17
    go_wp2_with fail
    refine wp_region_B (fun w' => w'.cell? ⟨nb, 1, none⟩ = some (.slice (some ⟨cb, 0, none⟩) es.length 33) ∧ w'.cell? ⟨nb, 0, none⟩ = some (.slice (some ⟨kb, 0, none⟩) es.length 33)) (fun _ => true) (by kernel_rfl) (⟨by simpa using c1, by simpa using c0⟩) (fun hHeld => ?_)
    simp only [List.size_toArray, List.length_cons, List.length_nil, Nat.reduceAdd, Array.replicate_succ, Array.replicate_zero, List.push_toArray, List.append_toArray, List.nil_append, List.cons_append]
    refine wpAnyB_takeW (i := 0) (v := ?_) rfl (by kernel_rfl) (by kernel_rfl) (by kernel_rfl) (fun _ _ _ h => h) (Or.inl ⟨by rfl, ?_⟩) ?_
    rotate_left 1
    · intro w hSw; go_simp <;> with_reducible rfl
    try simp only [Act.put, List.setIfInBounds_toArray, List.set_cons_zero, List.set_cons_succ, List.getElem_toArray, List.getElem_cons_succ, List.getElem_cons_zero]
    refine wpAnyB_takeW (i := 1) (v := ?_) rfl (by kernel_rfl) (by kernel_rfl) (by kernel_rfl) (fun _ _ _ h => h) (Or.inl ⟨by rfl, ?_⟩) ?_
    rotate_left 1
    · intro w hSw; go_simp <;> with_reducible rfl
    try simp only [Act.put, List.setIfInBounds_toArray, List.set_cons_zero, List.set_cons_succ, List.getElem_toArray, List.getElem_cons_succ, List.getElem_cons_zero]
    refine wpAnyB_takeW (i := 2) (v := ?_) rfl (by kernel_rfl) (by kernel_rfl) (by kernel_rfl) (fun _ _ _ h => h) (Or.inl ⟨by rfl, ?_⟩) ?_
    rotate_left 1
    · intro w hSw; go_simp <;> with_reducible rfl
    try simp only [Act.put, List.setIfInBounds_toArray, List.set_cons_zero, List.set_cons_succ, List.getElem_toArray, List.getElem_cons_succ, List.getElem_cons_zero]
    refine wpAnyB_take (i := 3) (v := ?_) rfl (by kernel_rfl) (by kernel_rfl) (by kernel_rfl) (by kernel_rfl) (fun _ _ _ h => h) (Or.inl ⟨by rfl, ?_⟩) hHeld ?_
    rotate_left 1
    · intro w hSw; (try dsimp only at hSw); obtain ⟨q1, q2⟩ := hSw; go_simp <;> with_reducible rfl
    try simp only [Act.put, List.setIfInBounds_toArray, List.set_cons_zero, List.set_cons_succ, List.getElem_toArray, List.getElem_cons_succ, List.getElem_cons_zero]
    refine wpAnyB_takeW (i := 4) (v := ?_) rfl (by kernel_rfl) (by kernel_rfl) (by kernel_rfl) (fun _ _ _ h => h) (Or.inl ⟨by rfl, ?_⟩) ?_
    rotate_left 1
    · intro w hSw; go_simp <;> with_reducible rfl
    try simp only [Act.put, List.setIfInBounds_toArray, List.set_cons_zero, List.set_cons_succ, List.getElem_toArray, List.getElem_cons_succ, List.getElem_cons_zero]
    refine wpAnyB_takeW (i := 5) (v := ?_) rfl (by kernel_rfl) (by kernel_rfl) (by kernel_rfl) (fun _ _ _ h => h) (Or.inl ⟨by rfl, ?_⟩) ?_
    rotate_left 1
    · intro w hSw; go_simp <;> with_reducible rfl
    try simp only [Act.put, List.setIfInBounds_toArray, List.set_cons_zero, List.set_cons_succ, List.getElem_toArray, List.getElem_cons_succ, List.getElem_cons_zero]
    refine wpAnyB_takeW (i := 6) (v := ?_) rfl (by kernel_rfl) (by kernel_rfl) (by kernel_rfl) (fun _ _ _ h => h) (Or.inl ⟨by rfl, ?_⟩) ?_
    rotate_left 1
    · intro w hSw; go_simp <;> with_reducible rfl
    try simp only [Act.put, List.setIfInBounds_toArray, List.set_cons_zero, List.set_cons_succ, List.getElem_toArray, List.getElem_cons_succ, List.getElem_cons_zero]
    refine wpAnyB_takeW (i := 7) (v := ?_) rfl (by kernel_rfl) (by kernel_rfl) (by kernel_rfl) (fun _ _ _ h => h) (Or.inl ⟨by rfl, ?_⟩) ?_
    rotate_left 1
    · intro w hSw; go_simp <;> with_reducible rfl
    try simp only [Act.put, List.setIfInBounds_toArray, List.set_cons_zero, List.set_cons_succ, List.getElem_toArray, List.getElem_cons_succ, List.getElem_cons_zero]
    refine wpAnyB_take (i := 8) (v := ?_) rfl (by kernel_rfl) (by kernel_rfl) (by kernel_rfl) (by kernel_rfl) (fun _ _ _ h => h) (Or.inl ⟨by rfl, ?_⟩) hHeld ?_
    rotate_left 1
    · intro w hSw; (try dsimp only at hSw); obtain ⟨q1, q2⟩ := hSw; go_simp <;> with_reducible rfl
    try simp only [Act.put, List.setIfInBounds_toArray, List.set_cons_zero, List.set_cons_succ, List.getElem_toArray, List.getElem_cons_succ, List.getElem_cons_zero]
    refine wpAnyB_takeW (i := 9) (v := ?_) rfl (by kernel_rfl) (by kernel_rfl) (by kernel_rfl) (fun _ _ _ h => h) (Or.inl ⟨by rfl, ?_⟩) ?_
    rotate_left 1
    · intro w hSw; go_simp <;> with_reducible rfl
    try simp only [Act.put, List.setIfInBounds_toArray, List.set_cons_zero, List.set_cons_succ, List.getElem_toArray, List.getElem_cons_succ, List.getElem_cons_zero]
    refine wpAnyB_takeW (i := 10) (v := ?_) rfl (by kernel_rfl) (by kernel_rfl) (by kernel_rfl) (fun _ _ _ h => h) (Or.inl ⟨by rfl, ?_⟩) ?_
    rotate_left 1
    · intro w hSw; go_simp <;> with_reducible rfl
    try simp only [Act.put, List.setIfInBounds_toArray, List.set_cons_zero, List.set_cons_succ, List.getElem_toArray, List.getElem_cons_succ, List.getElem_cons_zero]
    refine wpAnyB_takeW (i := 11) (v := ?_) rfl (by kernel_rfl) (by kernel_rfl) (by kernel_rfl) (fun _ _ _ h => h) (Or.inl ⟨by rfl, ?_⟩) ?_
    rotate_left 1
    · intro w hSw; go_simp <;> with_reducible rfl
    try simp only [Act.put, List.setIfInBounds_toArray, List.set_cons_zero, List.set_cons_succ, List.getElem_toArray, List.getElem_cons_succ, List.getElem_cons_zero]
    refine wpAnyB_takeW (i := 12) (v := ?_) rfl (by kernel_rfl) (by kernel_rfl) (by kernel_rfl) (fun _ _ _ h => h) (Or.inl ⟨by rfl, ?_⟩) ?_
    rotate_left 1
    · intro w hSw; go_simp <;> with_reducible rfl
    try simp only [Act.put, List.setIfInBounds_toArray, List.set_cons_zero, List.set_cons_succ, List.getElem_toArray, List.getElem_cons_succ, List.getElem_cons_zero]
    refine wpAnyB_takeW (i := 13) (v := ?_) rfl (by kernel_rfl) (by kernel_rfl) (by kernel_rfl) (fun _ _ _ h => h) (Or.inl ⟨by rfl, ?_⟩) ?_
    rotate_left 1
    · intro w hSw; go_simp <;> with_reducible rfl
    try simp only [Act.put, List.setIfInBounds_toArray, List.set_cons_zero, List.set_cons_succ, List.getElem_toArray, List.getElem_cons_succ, List.getElem_cons_zero]
    refine wpAnyB_takeW (i := 14) rfl (by kernel_rfl) (by kernel_rfl) (by kernel_rfl) (fun _ _ _ h => h) (Or.inr ⟨by rfl, rfl⟩) ?_
    try simp only [Act.put, List.setIfInBounds_toArray, List.set_cons_zero, List.set_cons_succ, List.getElem_toArray, List.getElem_cons_succ, List.getElem_cons_zero]
    refine wpAnyB_takeW (i := 15) rfl (by kernel_rfl) (by kernel_rfl) (by kernel_rfl) (fun _ _ _ h => h) (Or.inr ⟨by rfl, rfl⟩) ?_
    try simp only [Act.put, List.setIfInBounds_toArray, List.set_cons_zero, List.set_cons_succ, List.getElem_toArray, List.getElem_cons_succ, List.getElem_cons_zero]
    refine wpAnyB_takeW (i := 16) rfl (by kernel_rfl) (by kernel_rfl) (by kernel_rfl) (fun _ _ _ h => h) (Or.inr ⟨by rfl, rfl⟩) ?_
    try simp only [Act.put, List.setIfInBounds_toArray, List.set_cons_zero, List.set_cons_succ, List.getElem_toArray, List.getElem_cons_succ, List.getElem_cons_zero]
    refine wpAnyB_takeW (i := 17) rfl (by kernel_rfl) (by kernel_rfl) (by kernel_rfl) (fun _ _ _ h => h) (Or.inr ⟨by rfl, rfl⟩) ?_
    try simp only [Act.put, List.setIfInBounds_toArray, List.set_cons_zero, List.set_cons_succ, List.getElem_toArray, List.getElem_cons_succ, List.getElem_cons_zero]
    refine wpAnyB_takeW (i := 18) rfl (by kernel_rfl) (by kernel_rfl) (by kernel_rfl) (fun _ _ _ h => h) (Or.inr ⟨by rfl, rfl⟩) ?_
    try simp only [Act.put, List.setIfInBounds_toArray, List.set_cons_zero, List.set_cons_succ, List.getElem_toArray, List.getElem_cons_succ, List.getElem_cons_zero]
    refine wpAnyB_takeW (i := 19) rfl (by kernel_rfl) (by kernel_rfl) (by kernel_rfl) (fun _ _ _ h => h) (Or.inr ⟨by rfl, rfl⟩) ?_
    try simp only [Act.put, List.setIfInBounds_toArray, List.set_cons_zero, List.set_cons_succ, List.getElem_toArray, List.getElem_cons_succ, List.getElem_cons_zero]
    refine wpAnyB_takeW (i := 20) (v := ?_) rfl (by kernel_rfl) (by kernel_rfl) (by kernel_rfl) (fun _ _ _ h => h) (Or.inl ⟨by rfl, ?_⟩) ?_
    rotate_left 1
    · intro w hSw; go_simp <;> with_reducible rfl
    try simp only [Act.put, List.setIfInBounds_toArray, List.set_cons_zero, List.set_cons_succ, List.getElem_toArray, List.getElem_cons_succ, List.getElem_cons_zero]
    refine wpAnyB_takeW (i := 21) (v := ?_) rfl (by kernel_rfl) (by kernel_rfl) (by kernel_rfl) (fun _ _ _ h => h) (Or.inl ⟨by rfl, ?_⟩) ?_
    rotate_left 1
    · intro w hSw; go_simp <;> with_reducible rfl
    try simp only [Act.put, List.setIfInBounds_toArray, List.set_cons_zero, List.set_cons_succ, List.getElem_toArray, List.getElem_cons_succ, List.getElem_cons_zero]
    refine wpAnyB_done (by kernel_rfl) ?_ _
    clear hHeld
    go_upto_region 15 with fail
    rw [dgc_zero_lit]
    have BD : Blk (w.alloc (.cells (dgc 0).toArray 47)).drew w.heap.size (dgc 0) 47 := (Blk.new w _ 47).drew
    have hb0 : Below w.heap.size w (w.alloc (.cells (dgc 0).toArray 47)).drew := ((Below.refl _ w).alloc (Nat.le_refl _) _).drew
    generalize (w.alloc (.cells (dgc 0).toArray 47)).drew = W at *
    have c1' : W.cell? ⟨nb, 1, none⟩ = some (.slice (some ⟨cb, 0, none⟩) es.length 33) := (N.below hb0).cell 1
    go_wp2_with fail
    go_loopg [8, 10, 100] es.length (fun k s8 s10 s100 wr => ∃ i : Nat, s100 = .int .i64 i ∧ i + k = es.length ∧ s8 = .int .i64 ((keysOf (es.take i)).length : Nat) ∧ ((i = 0 ∧ s10 = .int .i64 (-1)) ∨ (0 < i ∧ s10 = .int .i64 ((d + 1 : Nat) : Int))) ∧
        Blk wr w.heap.size (dgc (keysOf (es.take i)).sum) 47 ∧ Out base wr ob (acc ++ keysOf (es.take i)) ∧ Kept (fun b => b = ob ∨ Arr w ob b) w wr ∧ ∀ b, Arr wr ob b → Arr w ob b ∨ w.heap.size + 1 ≤ b)
    case atStart => exact ⟨0, rfl, by omega, rfl, .inl ⟨rfl, rfl⟩, BD, by rw [List.take_zero, keysOf_nil, List.append_nil]; exact hO.kept (S := fun _ => False) (Kept.of_below hb0) (fun h => h) (fun _ _ _ h => h), Kept.of_below hb0, fun b hb => .inl (hb.of_block (hb0.block _ hob))⟩
    case round =>
      clear BD hb0 c1' c0 c1
      obtain ⟨i, rfl, hik, rfl, hdep, BD, hOr, hkr, harr⟩ := hrel
      have hsr := hkr.size
      have lD := BD.lt
      have hS : ∀ b, b < base → b ≠ ob → ¬ (b = ob ∨ Arr w ob b) := fun b h1 h2 h => by
        rcases h with h | h
        · exact h2 h
        · exact absurd h1 (Nat.not_lt.2 (hO.arr h).1)
      have Nr := N.kept hkr (hS nb hnb1 hnb2)
      have KBr := KB.kept hkr (hS kb hkb1 hkb2)
      have CBr := CB.kept hkr (hS cb hcb1 hcb2)
      cases gk with
      | zero =>
        obtain rfl : i = es.length := by omega
        rw [List.take_length] at BD hOr
        rw [List.take_length]
        obtain ⟨_, rfl⟩ : 0 < es.length ∧ _ := hdep.resolve_left (fun h => by omega)
        have v1 : wr.cell? ⟨nb, 2, none⟩ = some (.int .i64 ((keysOf es).length : Nat)) := Nr.cell 2
        go_wp2_with fail
        refine wp_region_B (fun w' => w'.cell? ⟨nb, 2, none⟩ = some (.int .i64 ((keysOf es).length : Nat)) ∧ w'.rangeAt w.heap.size 0 (dgc (keysOf es).sum) ∧ w'.rangeAt nb 3 (dgc (keysOf es).sum)) (fun _ => true) (by kernel_rfl) (⟨by simpa using v1, by simpa using BD.dg, by simpa using Nr.digR⟩) (fun hHeld => ?_)
        simp only [List.size_toArray, List.length_cons, List.length_nil, Nat.reduceAdd, Array.replicate_succ, Array.replicate_zero, List.push_toArray, List.append_toArray, List.nil_append, List.cons_append]
        refine wpAnyB_takeW (i := 0) (v := ?_) rfl (by kernel_rfl) (by kernel_rfl) (by kernel_rfl) (fun _ _ _ h => h) (Or.inl ⟨by rfl, ?_⟩) ?_
        rotate_left 1
        · intro w hSw; go_simp <;> with_reducible rfl
        try simp only [Act.put, List.setIfInBounds_toArray, List.set_cons_zero, List.set_cons_succ, List.getElem_toArray, List.getElem_cons_succ, List.getElem_cons_zero]
        refine wpAnyB_takeW (i := 1) (v := ?_) rfl (by kernel_rfl) (by kernel_rfl) (by kernel_rfl) (fun _ _ _ h => h) (Or.inl ⟨by rfl, ?_⟩) ?_
        rotate_left 1
        · intro w hSw; go_simp <;> with_reducible rfl
        try simp only [Act.put, List.setIfInBounds_toArray, List.set_cons_zero, List.set_cons_succ, List.getElem_toArray, List.getElem_cons_succ, List.getElem_cons_zero]
        refine wpAnyB_takeW (i := 2) (v := ?_) rfl (by kernel_rfl) (by kernel_rfl) (by kernel_rfl) (fun _ _ _ h => h) (Or.inl ⟨by rfl, ?_⟩) ?_
        rotate_left 1
        · intro w hSw; go_simp <;> with_reducible rfl
        try simp only [Act.put, List.setIfInBounds_toArray, List.set_cons_zero, List.set_cons_succ, List.getElem_toArray, List.getElem_cons_succ, List.getElem_cons_zero]
        refine wpAnyB_takeW (i := 3) (v := ?_) rfl (by kernel_rfl) (by kernel_rfl) (by kernel_rfl) (fun _ _ _ h => h) (Or.inl ⟨by rfl, ?_⟩) ?_
        rotate_left 1
        · intro w hSw; go_simp <;> with_reducible rfl
        try simp only [Act.put, List.setIfInBounds_toArray, List.set_cons_zero, List.set_cons_succ, List.getElem_toArray, List.getElem_cons_succ, List.getElem_cons_zero]
        refine wpAnyB_take (i := 4) (v := ?_) rfl (by kernel_rfl) (by kernel_rfl) (by kernel_rfl) (by kernel_rfl) (fun _ _ _ h => h) (Or.inl ⟨by rfl, ?_⟩) hHeld ?_
        rotate_left 1
        · intro w hSw; (try dsimp only at hSw); obtain ⟨q1, q2, q3⟩ := hSw; go_simp <;> with_reducible rfl
        try simp only [Act.put, List.setIfInBounds_toArray, List.set_cons_zero, List.set_cons_succ, List.getElem_toArray, List.getElem_cons_succ, List.getElem_cons_zero]
        refine wpAnyB_takeW (i := 5) (v := ?_) rfl (by kernel_rfl) (by kernel_rfl) (by kernel_rfl) (fun _ _ _ h => h) (Or.inl ⟨by rfl, ?_⟩) ?_
        rotate_left 1
        · intro w hSw; go_simp <;> with_reducible rfl
        try simp only [Act.put, List.setIfInBounds_toArray, List.set_cons_zero, List.set_cons_succ, List.getElem_toArray, List.getElem_cons_succ, List.getElem_cons_zero]
        refine wpAnyB_takeW (i := 6) (v := ?_) rfl (by kernel_rfl) (by kernel_rfl) (by kernel_rfl) (fun _ _ _ h => h) (Or.inl ⟨by rfl, ?_⟩) ?_
        rotate_left 1
        · intro w hSw; go_simp <;> with_reducible rfl
        try simp only [Act.put, List.setIfInBounds_toArray, List.set_cons_zero, List.set_cons_succ, List.getElem_toArray, List.getElem_cons_succ, List.getElem_cons_zero]
        refine wpAnyB_load47 (i := 7) rfl (by kernel_rfl) (by kernel_rfl) (by kernel_rfl) (by kernel_rfl) (w.heap.size) (0) ((keysOf es).sum) (.tmp 9) rfl rfl (fun _ _ _ h => h) (by rfl) (fun w hSw => hSw.2.1) hHeld ?_
        try simp only [Act.put, List.setIfInBounds_toArray, List.set_cons_zero, List.set_cons_succ, List.getElem_toArray, List.getElem_cons_succ, List.getElem_cons_zero]
        refine wpAnyB_takeW (i := 8) (v := ?_) rfl (by kernel_rfl) (by kernel_rfl) (by kernel_rfl) (fun _ _ _ h => h) (Or.inl ⟨by rfl, ?_⟩) ?_
        rotate_left 1
        · intro w hSw; go_simp <;> with_reducible rfl
        try simp only [Act.put, List.setIfInBounds_toArray, List.set_cons_zero, List.set_cons_succ, List.getElem_toArray, List.getElem_cons_succ, List.getElem_cons_zero]
        refine wpAnyB_takeW (i := 9) (v := ?_) rfl (by kernel_rfl) (by kernel_rfl) (by kernel_rfl) (fun _ _ _ h => h) (Or.inl ⟨by rfl, ?_⟩) ?_
        rotate_left 1
        · intro w hSw; go_simp <;> with_reducible rfl
        try simp only [Act.put, List.setIfInBounds_toArray, List.set_cons_zero, List.set_cons_succ, List.getElem_toArray, List.getElem_cons_succ, List.getElem_cons_zero]
        refine wpAnyB_takeW (i := 10) (v := ?_) rfl (by kernel_rfl) (by kernel_rfl) (by kernel_rfl) (fun _ _ _ h => h) (Or.inl ⟨by rfl, ?_⟩) ?_
        rotate_left 1
        · intro w hSw; go_simp <;> with_reducible rfl
        try simp only [Act.put, List.setIfInBounds_toArray, List.set_cons_zero, List.set_cons_succ, List.getElem_toArray, List.getElem_cons_succ, List.getElem_cons_zero]
        refine wpAnyB_load47 (i := 11) rfl (by kernel_rfl) (by kernel_rfl) (by kernel_rfl) (by kernel_rfl) (nb) (3) ((keysOf es).sum) (.tmp 191) rfl rfl (fun _ _ _ h => h) (by rfl) (fun w hSw => hSw.2.2) hHeld ?_
        try simp only [Act.put, List.setIfInBounds_toArray, List.set_cons_zero, List.set_cons_succ, List.getElem_toArray, List.getElem_cons_succ, List.getElem_cons_zero]
        refine wpAnyB_takeW (i := 12) (v := ?_) rfl (by kernel_rfl) (by kernel_rfl) (by kernel_rfl) (fun _ _ _ h => h) (Or.inl ⟨by rfl, ?_⟩) ?_
        rotate_left 1
        · intro w hSw; go_simp <;> with_reducible rfl
        try simp only [Act.put, List.setIfInBounds_toArray, List.set_cons_zero, List.set_cons_succ, List.getElem_toArray, List.getElem_cons_succ, List.getElem_cons_zero]
        refine wpAnyB_takeW (i := 13) (v := ?_) rfl (by kernel_rfl) (by kernel_rfl) (by kernel_rfl) (fun _ _ _ h => h) (Or.inl ⟨by rfl, ?_⟩) ?_
        rotate_left 1
        · intro w hSw; go_simp <;> with_reducible rfl
        try simp only [Act.put, List.setIfInBounds_toArray, List.set_cons_zero, List.set_cons_succ, List.getElem_toArray, List.getElem_cons_succ, List.getElem_cons_zero]
        refine wpAnyB_done (by kernel_rfl) ?_ _
        clear hHeld
        go_wp2_with fail
        go_ret2
        refine ⟨rfl, hOr.kept (S := fun _ => False) (Kept.refl _ wr).drew (fun h => h) (fun _ _ _ h => h), hkr.drew, fun b hb => ?_⟩
        rcases harr b (hb.of_block rfl) with h | h
        · exact .inl h
        · exact .inr (by omega)
      | succ m =>
        have hi : i < es.length := by omega
        have hlt' : (i : Int) < es.length := by omega
        obtain ⟨e, hei⟩ : ∃ e, es[i]? = some e := ⟨_, List.getElem?_eq_getElem hi⟩
        have hem := List.mem_of_getElem? hei
        obtain ⟨he16, he32, TE⟩ := hk e hem
        have TEr := TE.kept hkr (fun b hb => hS b (hkown e hem b hb).1 (hkown e hem b hb).2)
        have hene := TE.ne_nil (by omega)
        have z1 : wr.cell? ⟨cb, i, none⟩ = some (.pointer (some ⟨e.nb, 0, none⟩)) := by
          rw [CBr.cell]
          have : (ps.take es.length)[i]? = some (ptr e.nb) := by rw [F.hTakeP, List.getElem?_map, hei]; rfl
          rwa [List.getElem?_take_of_lt hi] at this
        have e1 : keysOf (es.take (i + 1)) = keysOf (es.take i) ++ e.ks := by
          rw [List.take_add_one, hei, keysOf_append]
          simp [keysOf]
        have e2 : keysOf es = keysOf (es.take (i + 1)) ++ keysOf (es.drop (i + 1)) := by rw [← keysOf_append, List.take_append_drop]
        have e2l : (keysOf es).length = (keysOf (es.take i)).length + e.ks.length + (keysOf (es.drop (i + 1))).length := by rw [e2, e1, List.length_append, List.length_append]
        have e2s : (keysOf es).sum = (keysOf (es.take i)).sum + e.ks.sum + (keysOf (es.drop (i + 1))).sum := by rw [e2, e1, List.sum_append, List.sum_append]
        have hcall := IH wr e.nb e.ks e.n e.own base ob (acc ++ keysOf (es.take i)) false TEr (.inr ⟨he16, he32⟩) (fun h => by cases h) hOr (hkown e hem) (by omega) (by omega) (by omega) (by rw [List.length_append]; omega) (fun h => absurd h hene)
        have hS1 : ∀ b, b < base → b ≠ ob → ¬ (b = ob ∨ Arr wr ob b) := fun b h1 h2 h => by
          rcases h with h | h
          · exact h2 h
          · exact absurd h1 (Nat.not_lt.2 (hOr.arr h).1)
        have hbD : ¬ (w.heap.size = ob ∨ Arr wr ob w.heap.size) := fun h => by
          rcases h with h | h
          · omega
          · rcases harr _ h with h | h
            · have := hwsz _ h; omega
            · omega
        obtain ⟨ci, hci⟩ : ∃ ci, Hid ((keysOf (es.take i)).length = ci) := ⟨_, rfl⟩
        obtain ⟨si, hsi⟩ : ∃ si, Hid ((keysOf (es.take i)).sum = si) := ⟨_, rfl⟩
        obtain ⟨ck, hck⟩ : ∃ ck, Hid (e.ks.length = ck) := ⟨_, rfl⟩
        obtain ⟨sk, hsk⟩ : ∃ sk, Hid (e.ks.sum = sk) := ⟨_, rfl⟩
        have hss : si + sk < 18446744073709551616 := by rw [← hsi.out, ← hsk.out]; omega
        have hcc : ci + ck < 10000 := by rw [← hci.out, ← hck.out]; omega
        rw [hci.out]
        rw [hsi.out] at BD
        have hA := fun w => add_calls si sk hss w
        have hwrap : IntKind.i64.wrap ((ci : Int) + (ck : Int)) = (ci : Int) + (ck : Int) := by rw [IntKind.wrap_i64]; omega
        have hend : Hid (ci + ck = (keysOf (es.take (i + 1))).length ∧ si + sk = (keysOf (es.take (i + 1))).sum ∧ acc ++ keysOf (es.take i) ++ e.ks = acc ++ keysOf (es.take (i + 1))) := by
          rw [e1, ← hci.out, ← hck.out, ← hsi.out, ← hsk.out]
          exact ⟨by simp, by simp, by simp⟩
        have hac : acc.length + (keysOf (es.take i)).length < 10000 := by omega
        clear e1 e2 e2l e2s
        obtain ⟨av, cv, BO, hSl, hav⟩ := hOr.value
        have z2 : wr.cell? ⟨ob, 0, none⟩ = some (.slice av (acc ++ keysOf (es.take i)).length cv) := BO.cell 0
        obtain ⟨st, hst⟩ : ∃ st, Hid ((acc ++ keysOf (es.take i)).length = st) := ⟨_, rfl⟩
        rw [hst.out] at z2
        have hst10 : st < 10000 := by rw [← hst.out, List.length_append]; exact hac
        clear hac
        rcases hdep with ⟨hi0, rfl⟩ | ⟨hi0, rfl⟩
        · have hgt : ¬ (0 : Int) < (i : Int) := by omega
          replace hi0 := Hid.mk' hi0
          go_wp2_with (go_at_call 17; refine hcall.mono ?_; rintro e0 w1 ⟨rfl, hO1, hk1, harr1⟩; obtain ⟨_, kb1, q1, xs1, _, NE, _⟩ := (TEr.kept hk1 (fun b hb => hS1 b (hkown e hem b hb).1 (hkown e hem b hb).2)).node; rw [hck.out, hsk.out] at NE; have x1 : w1.cell? ⟨e.nb, 2, none⟩ = some (.int .i64 (ck : Nat)) := NE.cell 2)
          have BD1 := BD.kept hk1 hbD
          have hs1 := hk1.size
          refine wp_region_B (fun w' => Below w1.heap.size w1 w') (fun j => j != 6) (by kernel_rfl) ((Below.refl _ w1).drew) (fun hHeld => ?_)
          simp only [List.size_toArray, List.length_cons, List.length_nil, Nat.reduceAdd, Array.replicate_succ, Array.replicate_zero, List.push_toArray, List.append_toArray, List.nil_append, List.cons_append]
          refine wpAnyB_load47 (i := 0) rfl (by kernel_rfl) (by kernel_rfl) (by kernel_rfl) (by kernel_rfl) (w.heap.size) (0) (si) (.tmp 9) rfl rfl (fun _ _ _ h => h) (by rfl) (fun w hSw => rangeAt_of_block BD1.dg (hSw.block _ BD1.lt)) hHeld ?_
          try simp only [Act.put, List.setIfInBounds_toArray, List.set_cons_zero, List.set_cons_succ, List.getElem_toArray, List.getElem_cons_succ, List.getElem_cons_zero]
          refine wpAnyB_takeW (i := 1) (v := ?_) rfl (by kernel_rfl) (by kernel_rfl) (by kernel_rfl) (fun _ _ _ h => h) (Or.inl ⟨by rfl, ?_⟩) ?_
          rotate_left 1
          · intro w hSw; go_simp <;> with_reducible rfl
          try simp only [Act.put, List.setIfInBounds_toArray, List.set_cons_zero, List.set_cons_succ, List.getElem_toArray, List.getElem_cons_succ, List.getElem_cons_zero]
          refine wpAnyB_takeW (i := 2) (v := ?_) rfl (by kernel_rfl) (by kernel_rfl) (by kernel_rfl) (fun _ _ _ h => h) (Or.inl ⟨by rfl, ?_⟩) ?_
          rotate_left 1
          · intro w hSw; go_simp <;> with_reducible rfl
          try simp only [Act.put, List.setIfInBounds_toArray, List.set_cons_zero, List.set_cons_succ, List.getElem_toArray, List.getElem_cons_succ, List.getElem_cons_zero]
          refine wpAnyB_takeW (i := 3) (v := ?_) rfl (by kernel_rfl) (by kernel_rfl) (by kernel_rfl) (fun _ _ _ h => h) (Or.inl ⟨by rfl, ?_⟩) ?_
          rotate_left 1
          · intro w hSw; go_simp <;> with_reducible rfl
          try simp only [Act.put, List.setIfInBounds_toArray, List.set_cons_zero, List.set_cons_succ, List.getElem_toArray, List.getElem_cons_succ, List.getElem_cons_zero]
          refine wpAnyB_load47 (i := 4) rfl (by kernel_rfl) (by kernel_rfl) (by kernel_rfl) (by kernel_rfl) (e.nb) (3) (sk) (.tmp 132) rfl rfl (fun _ _ _ h => h) (by rfl) (fun w hSw => rangeAt_of_block NE.digR (hSw.block _ NE.lt)) hHeld ?_
          try simp only [Act.put, List.setIfInBounds_toArray, List.set_cons_zero, List.set_cons_succ, List.getElem_toArray, List.getElem_cons_succ, List.getElem_cons_zero]
          refine wpAnyB_step (i := 5) (by kernel_rfl) rfl (fun Kq hKq => ?_)
          go_simp
          refine (hA _).mono ?_
          rintro e0 w2 ⟨rfl, hw2⟩
          dsimp only
          have hb2 : Below w1.heap.size w1 w2 := hHeld.trans (hw2.mono hHeld.size)
          have hHeld := hb2
          refine hKq.out _ _ (fun _ _ => hHeld) ?_
          clear hKq Kq
          try simp only [Act.put, List.setIfInBounds_toArray, List.set_cons_zero, List.set_cons_succ, List.getElem_toArray, List.getElem_cons_succ, List.getElem_cons_zero]
          have BD2 := BD1.below hb2
          have T2 := BD2.dgT
          refine wpAnyB_step (i := 6) (by kernel_rfl) rfl (fun Kq hKq => ?_)
          refine step_st47 rfl rfl (.tmp 9) (.tmp 134) rfl w.heap.size 0 (si + sk) rfl rfl T2 ?_
          refine hKq.out _ _ (fun h => absurd h (by decide)) ?_
          clear hKq Kq
          try simp only [Act.put, List.setIfInBounds_toArray, List.set_cons_zero, List.set_cons_succ, List.getElem_toArray, List.getElem_cons_succ, List.getElem_cons_zero]
          refine wpAnyB_done (by kernel_rfl) ?_ _
          have BD3 : Blk (w2.setCells w.heap.size 0 (dgc (si + sk))) w.heap.size (dgc (si + sk)) 47 := BD2.dgS
          have kX : Kept (· = w.heap.size) w1 (w2.setCells w.heap.size 0 (dgc (si + sk))) := kept_sets (Kept.of_below hb2) _ _
          generalize w2.setCells w.heap.size 0 (dgc (si + sk)) = X at *
          have hsX := kX.size
          have hobw : ob ≠ w.heap.size := by omega
          have hOX : Out base X ob (acc ++ keysOf (es.take i) ++ e.ks) := by
            obtain ⟨g, cap, B, hg, hgI⟩ := hO1.at (by simp [hene])
            have hgD : g ≠ w.heap.size := fun h => by
              subst h
              rcases harr1 _ ⟨_, _, B⟩ with h | h
              · exact hbD (.inr h)
              · omega
            rcases hO1 with ⟨h0, _⟩ | ⟨h0, g', cap', ys', B', p1, p2, BG', p3, p4, p5⟩
            · exact absurd h0 (by simp [hene])
            · have := (B.inj B').1
              simp at this
              obtain ⟨rfl, rfl⟩ := this
              exact .inr ⟨h0, _, _, ys', B'.kept kX hobw, p1, p2, BG'.kept kX hgD, p3, p4, p5⟩
          have hkF : Kept (fun b => b = ob ∨ Arr w ob b) w X := ⟨kX.os.trans (hk1.os.trans hkr.os), kX.tape.trans (hk1.tape.trans hkr.tape), kX.output.trans (hk1.output.trans hkr.output), by omega, fun b hb hn => by
            rw [kX.block b (by omega) (by omega), hk1.block b (by omega) (fun h => ?_), hkr.block b hb hn]
            rcases h with h | h
            · exact hn (.inl h)
            · rcases harr _ h with h | h
              · exact hn (.inr h)
              · omega⟩
          have harrF : ∀ b, Arr X ob b → Arr w ob b ∨ w.heap.size + 1 ≤ b := fun b hb => by
            rcases harr1 b (hb.of_block (kX.block _ (by omega) hobw)) with h | h
            · exact harr b h
            · exact .inr (by omega)
          clear hHeld hA
          go_wp2_with fail
          go_roundg m
          case measure => omega
          case rel =>
            refine ⟨i + 1, by simp, by omega, ?_, .inr ⟨by omega, rfl⟩, ?_, ?_, hkF, harrF⟩
            · rw [← hend.out.1]; rfl
            · rw [← hend.out.2.1]; exact BD3
            · rw [← hend.out.2.2]; exact hOX
        · have hd1 : ¬ ((d + 1 : Nat) : Int) < 0 := by omega
          go_wp2_with (go_at_call 17; refine hcall.mono ?_; rintro e0 w1 ⟨rfl, hO1, hk1, harr1⟩; obtain ⟨_, kb1, q1, xs1, _, NE, _⟩ := (TEr.kept hk1 (fun b hb => hS1 b (hkown e hem b hb).1 (hkown e hem b hb).2)).node; rw [hck.out, hsk.out] at NE; have x1 : w1.cell? ⟨e.nb, 2, none⟩ = some (.int .i64 (ck : Nat)) := NE.cell 2)
          have BD1 := BD.kept hk1 hbD
          have hs1 := hk1.size
          refine wp_region_B (fun w' => Below w1.heap.size w1 w') (fun j => j != 6) (by kernel_rfl) ((Below.refl _ w1).drew) (fun hHeld => ?_)
          simp only [List.size_toArray, List.length_cons, List.length_nil, Nat.reduceAdd, Array.replicate_succ, Array.replicate_zero, List.push_toArray, List.append_toArray, List.nil_append, List.cons_append]
          refine wpAnyB_load47 (i := 0) rfl (by kernel_rfl) (by kernel_rfl) (by kernel_rfl) (by kernel_rfl) (w.heap.size) (0) (si) (.tmp 9) rfl rfl (fun _ _ _ h => h) (by rfl) (fun w hSw => rangeAt_of_block BD1.dg (hSw.block _ BD1.lt)) hHeld ?_
          try simp only [Act.put, List.setIfInBounds_toArray, List.set_cons_zero, List.set_cons_succ, List.getElem_toArray, List.getElem_cons_succ, List.getElem_cons_zero]
          refine wpAnyB_takeW (i := 1) (v := ?_) rfl (by kernel_rfl) (by kernel_rfl) (by kernel_rfl) (fun _ _ _ h => h) (Or.inl ⟨by rfl, ?_⟩) ?_
          rotate_left 1
          · intro w hSw; go_simp <;> with_reducible rfl
          try simp only [Act.put, List.setIfInBounds_toArray, List.set_cons_zero, List.set_cons_succ, List.getElem_toArray, List.getElem_cons_succ, List.getElem_cons_zero]
          refine wpAnyB_takeW (i := 2) (v := ?_) rfl (by kernel_rfl) (by kernel_rfl) (by kernel_rfl) (fun _ _ _ h => h) (Or.inl ⟨by rfl, ?_⟩) ?_
          rotate_left 1
          · intro w hSw; go_simp <;> with_reducible rfl
          try simp only [Act.put, List.setIfInBounds_toArray, List.set_cons_zero, List.set_cons_succ, List.getElem_toArray, List.getElem_cons_succ, List.getElem_cons_zero]
          refine wpAnyB_takeW (i := 3) (v := ?_) rfl (by kernel_rfl) (by kernel_rfl) (by kernel_rfl) (fun _ _ _ h => h) (Or.inl ⟨by rfl, ?_⟩) ?_
          rotate_left 1
          · intro w hSw; go_simp <;> with_reducible rfl
          try simp only [Act.put, List.setIfInBounds_toArray, List.set_cons_zero, List.set_cons_succ, List.getElem_toArray, List.getElem_cons_succ, List.getElem_cons_zero]
          refine wpAnyB_load47 (i := 4) rfl (by kernel_rfl) (by kernel_rfl) (by kernel_rfl) (by kernel_rfl) (e.nb) (3) (sk) (.tmp 132) rfl rfl (fun _ _ _ h => h) (by rfl) (fun w hSw => rangeAt_of_block NE.digR (hSw.block _ NE.lt)) hHeld ?_
          try simp only [Act.put, List.setIfInBounds_toArray, List.set_cons_zero, List.set_cons_succ, List.getElem_toArray, List.getElem_cons_succ, List.getElem_cons_zero]
          refine wpAnyB_step (i := 5) (by kernel_rfl) rfl (fun Kq hKq => ?_)
          go_simp
          refine (hA _).mono ?_
          rintro e0 w2 ⟨rfl, hw2⟩
          dsimp only
          have hb2 : Below w1.heap.size w1 w2 := hHeld.trans (hw2.mono hHeld.size)
          have hHeld := hb2
          refine hKq.out _ _ (fun _ _ => hHeld) ?_
          clear hKq Kq
          try simp only [Act.put, List.setIfInBounds_toArray, List.set_cons_zero, List.set_cons_succ, List.getElem_toArray, List.getElem_cons_succ, List.getElem_cons_zero]
          have BD2 := BD1.below hb2
          have T2 := BD2.dgT
          refine wpAnyB_step (i := 6) (by kernel_rfl) rfl (fun Kq hKq => ?_)
          refine step_st47 rfl rfl (.tmp 9) (.tmp 134) rfl w.heap.size 0 (si + sk) rfl rfl T2 ?_
          refine hKq.out _ _ (fun h => absurd h (by decide)) ?_
          clear hKq Kq
          try simp only [Act.put, List.setIfInBounds_toArray, List.set_cons_zero, List.set_cons_succ, List.getElem_toArray, List.getElem_cons_succ, List.getElem_cons_zero]
          refine wpAnyB_done (by kernel_rfl) ?_ _
          have BD3 : Blk (w2.setCells w.heap.size 0 (dgc (si + sk))) w.heap.size (dgc (si + sk)) 47 := BD2.dgS
          have kX : Kept (· = w.heap.size) w1 (w2.setCells w.heap.size 0 (dgc (si + sk))) := kept_sets (Kept.of_below hb2) _ _
          generalize w2.setCells w.heap.size 0 (dgc (si + sk)) = X at *
          have hsX := kX.size
          have hobw : ob ≠ w.heap.size := by omega
          have hOX : Out base X ob (acc ++ keysOf (es.take i) ++ e.ks) := by
            obtain ⟨g, cap, B, hg, hgI⟩ := hO1.at (by simp [hene])
            have hgD : g ≠ w.heap.size := fun h => by
              subst h
              rcases harr1 _ ⟨_, _, B⟩ with h | h
              · exact hbD (.inr h)
              · omega
            rcases hO1 with ⟨h0, _⟩ | ⟨h0, g', cap', ys', B', p1, p2, BG', p3, p4, p5⟩
            · exact absurd h0 (by simp [hene])
            · have := (B.inj B').1
              simp at this
              obtain ⟨rfl, rfl⟩ := this
              exact .inr ⟨h0, _, _, ys', B'.kept kX hobw, p1, p2, BG'.kept kX hgD, p3, p4, p5⟩
          have hkF : Kept (fun b => b = ob ∨ Arr w ob b) w X := ⟨kX.os.trans (hk1.os.trans hkr.os), kX.tape.trans (hk1.tape.trans hkr.tape), kX.output.trans (hk1.output.trans hkr.output), by omega, fun b hb hn => by
            rw [kX.block b (by omega) (by omega), hk1.block b (by omega) (fun h => ?_), hkr.block b hb hn]
            rcases h with h | h
            · exact hn (.inl h)
            · rcases harr _ h with h | h
              · exact hn (.inr h)
              · omega⟩
          have harrF : ∀ b, Arr X ob b → Arr w ob b ∨ w.heap.size + 1 ≤ b := fun b hb => by
            rcases harr1 b (hb.of_block (kX.block _ (by omega) hobw)) with h | h
            · exact harr b h
            · exact .inr (by omega)
          clear hHeld hA
          have hgt : (0 : Int) < i := by omega
          obtain ⟨g, cap, BG, hg, hgI⟩ := hOX.at (by simp [hene])
          obtain ⟨len1, hlen1⟩ : ∃ len1, Hid ((acc ++ keysOf (es.take i) ++ e.ks).length = len1) := ⟨_, rfl⟩
          rw [hlen1.out] at BG
          have hl1 : len1 = st + ck := by rw [← hlen1.out, List.length_append, hst.out, hck.out]
          have hck0 : 0 < ck := by rw [← hck.out]; exact List.length_pos_iff.2 hene
          have hbnd := Ord.bound (A := es.take i) (f := e) (Z := es.drop (i + 1)) (by
            have : es.take i ++ e :: es.drop (i + 1) = es := by
              obtain ⟨h1, h2⟩ := List.getElem?_eq_some_iff.1 hei
              rw [← h2, ← List.drop_eq_getElem_cons h1, List.take_append_drop]
            rw [this]; exact F.hOrd) (fun h => by have := congrArg List.length h; rw [List.length_take, List.length_nil] at this; omega) hene
          obtain ⟨Y, k0, hY⟩ : ∃ Y k0, keysOf (es.take i) = Y ++ [k0] := by
            rcases List.eq_nil_or_concat (keysOf (es.take i)) with h | ⟨Y, k0, h⟩
            · exfalso
              obtain ⟨f, hf⟩ : ∃ f, es[0]? = some f := ⟨_, List.getElem?_eq_getElem (by omega)⟩
              have hfm : f ∈ es.take i := by
                refine List.mem_iff_getElem?.2 ⟨0, ?_⟩
                rw [List.getElem?_take_of_lt (by omega)]; exact hf
              have := (hk f (List.mem_of_getElem? hf)).2.2.ne_nil (by have := (hk f (List.mem_of_getElem? hf)).1; omega)
              obtain ⟨x, hx⟩ := List.exists_mem_of_ne_nil _ this
              have := mem_keysOf hfm hx
              rw [h] at this
              simp at this
            · exact ⟨Y, k0, by rw [h, List.concat_eq_append]⟩
          have hk0 : k0 < e.bd := hbnd.1 k0 (by rw [hY]; simp)
          obtain ⟨k1, t1, hk1e⟩ : ∃ k1 t1, e.ks = k1 :: t1 := by
            cases h : e.ks with
            | nil => exact absurd h hene
            | cons a t => exact ⟨a, t, rfl⟩
          have hk1b : e.bd ≤ k1 := hbnd.2 k1 (by rw [keysOf_cons, hk1e]; simp)
          have hstp : 0 < st := by rw [← hst.out, hY]; simp only [List.length_append, List.length_cons, List.length_nil]; omega
          have g1 : (acc ++ keysOf (es.take i) ++ e.ks)[st]? = some k1 := by rw [← hst.out, hk1e]; simp
          have hq : acc ++ keysOf (es.take i) = (acc ++ Y) ++ [k0] := by rw [hY, List.append_assoc]
          have hst1 : st - 1 = (acc ++ Y).length := by rw [← hst.out, hq]; simp
          have g0 : (acc ++ keysOf (es.take i) ++ e.ks)[st - 1]? = some k0 := by
            rw [hq, List.append_assoc, hst1, List.getElem?_append_right (Nat.le_refl _), Nat.sub_self]
            rfl
          clear hq hst1
          have R1 := hgI st k1 g1
          have R0 := hgI (st - 1) k0 g0
          rw [Nat.zero_add] at R1 R0
          have KX := (KBr.kept hk1 (hS1 kb hkb1 hkb2)).kept kX (by omega)
          have NX := (Nr.kept hk1 (hS1 nb hnb1 hnb2)).kept kX (by omega)
          have hxi : xs[i]? = some e.bd := by
            have : (xs.take es.length)[i]? = some e.bd := by rw [F.hTake, List.getElem?_map, hei]; rfl
            rwa [List.getElem?_take_of_lt hi] at this
          have RB : X.rangeAt kb (i * 20) (idc e.bd) := by
            have := KX.sub (k := i) (zs := [e.bd]) (by
              obtain ⟨h1, h2⟩ := List.getElem?_eq_some_iff.1 hxi
              rw [List.drop_eq_getElem_cons h1, h2]
              exact ⟨_, rfl⟩)
            simpa [ids] using this
          have hbl : e.bd < 4294967296 := F.hSmall _ (List.mem_of_getElem? hxi)
          have hk1l : k1 < 4294967296 := TE.sorted.2 k1 (by rw [hk1e]; simp)
          have hk0l : k0 < 4294967296 := by omega
          have hc1 : decide (cmpN k1 e.bd < 0) = false := decide_eq_false (cmpN_nonneg (by omega))
          have hc2 : decide (0 ≤ cmpN k0 e.bd) = false := decide_eq_false (by have := cmpN_neg hk0; omega)
          have u1 : X.cell? ⟨ob, 0, none⟩ = some (.slice (some ⟨g, 0, none⟩) len1 cap) := BG.cell 0
          have u2 : X.cell? ⟨nb, 0, none⟩ = some (.slice (some ⟨kb, 0, none⟩) es.length 33) := NX.cell 0
          have i1 : ¬ (st : Int) = 0 := by omega
          have i2 : ¬ (len1 : Int) ≤ st := by omega
          have i3 : (st : Int) < len1 := by omega
          have hwst : IntKind.i64.wrap ((st : Int) - 1) = ((st - 1 : Nat) : Int) := by rw [IntKind.wrap_i64]; omega
          have i4 : ((st - 1 : Nat) : Int) < len1 := by omega
          have hCm : ∀ u v w1, u < 4294967296 → v < 4294967296 → Below X.heap.size X w1 → Calls Yba.prog 12 #[.agg (idc u).toArray, .agg (idc v).toArray] w1 fun e w' => e = .returned (.int .i64 (cmpN u v)) ∧ Below X.heap.size X w' := fun u v w1 h1 h2 h3 => (cmp_calls u v h1 h2 w1).mono fun e w' ⟨he, hw⟩ => ⟨he, h3.trans (hw.mono h3.size)⟩
          have lob : ob < X.heap.size := by omega
          have lnb := NX.lt
          have lkb := KX.lt
          replace hl1 := Hid.mk' hl1
          replace hY := Hid.mk' hY
          replace hk1e := Hid.mk' hk1e
          clear g1 g0 hbnd hwrap
          go_wp2_with fail
          refine wp_region_B (fun w' => w'.cell? ⟨ob, 0, none⟩ = some (.slice (some ⟨g, 0, none⟩) len1 cap) ∧ w'.cell? ⟨nb, 0, none⟩ = some (.slice (some ⟨kb, 0, none⟩) es.length 33) ∧ w'.rangeAt g (st * 20) (idc k1) ∧ w'.rangeAt kb (i * 20) (idc e.bd) ∧ w'.rangeAt g ((st - 1) * 20) (idc k0) ∧ Below X.heap.size X w') (fun _ => true) (by kernel_rfl) (⟨by simpa using u1, by simpa using u2, by simpa using R1, by simpa using RB, by simpa using R0, (Below.refl _ X).drew⟩) (fun hHeld => ?_)
          simp only [List.size_toArray, List.length_cons, List.length_nil, Nat.reduceAdd, Array.replicate_succ, Array.replicate_zero, List.push_toArray, List.append_toArray, List.nil_append, List.cons_append]
          refine wpAnyB_takeW (i := 0) (v := ?_) rfl (by kernel_rfl) (by kernel_rfl) (by kernel_rfl) (fun _ _ _ h => h) (Or.inl ⟨by rfl, ?_⟩) ?_
          rotate_left 1
          · intro w hSw; go_simp <;> with_reducible rfl
          try simp only [Act.put, List.setIfInBounds_toArray, List.set_cons_zero, List.set_cons_succ, List.getElem_toArray, List.getElem_cons_succ, List.getElem_cons_zero]
          refine wpAnyB_takeW (i := 1) (v := ?_) rfl (by kernel_rfl) (by kernel_rfl) (by kernel_rfl) (fun _ _ _ h => h) (Or.inl ⟨by rfl, ?_⟩) ?_
          rotate_left 1
          · intro w hSw; go_simp <;> with_reducible rfl
          try simp only [Act.put, List.setIfInBounds_toArray, List.set_cons_zero, List.set_cons_succ, List.getElem_toArray, List.getElem_cons_succ, List.getElem_cons_zero]
          refine wpAnyB_take (i := 2) (v := ?_) rfl (by kernel_rfl) (by kernel_rfl) (by kernel_rfl) (by kernel_rfl) (fun _ _ _ h => h) (Or.inl ⟨by rfl, ?_⟩) hHeld ?_
          rotate_left 1
          · intro w hSw; (try dsimp only at hSw); obtain ⟨q1, q2, q3⟩ := hSw; go_simp <;> with_reducible rfl
          try simp only [Act.put, List.setIfInBounds_toArray, List.set_cons_zero, List.set_cons_succ, List.getElem_toArray, List.getElem_cons_succ, List.getElem_cons_zero]
          refine wpAnyB_takeW (i := 3) (v := ?_) rfl (by kernel_rfl) (by kernel_rfl) (by kernel_rfl) (fun _ _ _ h => h) (Or.inl ⟨by rfl, ?_⟩) ?_
          rotate_left 1
          · intro w hSw; go_simp <;> with_reducible rfl
          try simp only [Act.put, List.setIfInBounds_toArray, List.set_cons_zero, List.set_cons_succ, List.getElem_toArray, List.getElem_cons_succ, List.getElem_cons_zero]
          refine wpAnyB_takeW (i := 4) (v := ?_) rfl (by kernel_rfl) (by kernel_rfl) (by kernel_rfl) (fun _ _ _ h => h) (Or.inl ⟨by rfl, ?_⟩) ?_
          rotate_left 1
          · intro w hSw; go_simp <;> with_reducible rfl
          try simp only [Act.put, List.setIfInBounds_toArray, List.set_cons_zero, List.set_cons_succ, List.getElem_toArray, List.getElem_cons_succ, List.getElem_cons_zero]
          refine wpAnyB_load30 (i := 5) rfl (by kernel_rfl) (by kernel_rfl) (by kernel_rfl) (by kernel_rfl) (g) (st * 20) (k1) (.tmp 151) rfl rfl (fun _ _ _ h => h) (by rfl) (fun w hSw => hSw.2.2.1) hHeld ?_
          try simp only [Act.put, List.setIfInBounds_toArray, List.set_cons_zero, List.set_cons_succ, List.getElem_toArray, List.getElem_cons_succ, List.getElem_cons_zero]
          refine wpAnyB_takeW (i := 6) (v := ?_) rfl (by kernel_rfl) (by kernel_rfl) (by kernel_rfl) (fun _ _ _ h => h) (Or.inl ⟨by rfl, ?_⟩) ?_
          rotate_left 1
          · intro w hSw; go_simp <;> with_reducible rfl
          try simp only [Act.put, List.setIfInBounds_toArray, List.set_cons_zero, List.set_cons_succ, List.getElem_toArray, List.getElem_cons_succ, List.getElem_cons_zero]
          refine wpAnyB_takeW (i := 7) (v := ?_) rfl (by kernel_rfl) (by kernel_rfl) (by kernel_rfl) (fun _ _ _ h => h) (Or.inl ⟨by rfl, ?_⟩) ?_
          rotate_left 1
          · intro w hSw; go_simp <;> with_reducible rfl
          try simp only [Act.put, List.setIfInBounds_toArray, List.set_cons_zero, List.set_cons_succ, List.getElem_toArray, List.getElem_cons_succ, List.getElem_cons_zero]
          refine wpAnyB_takeW (i := 8) (v := ?_) rfl (by kernel_rfl) (by kernel_rfl) (by kernel_rfl) (fun _ _ _ h => h) (Or.inl ⟨by rfl, ?_⟩) ?_
          rotate_left 1
          · intro w hSw; go_simp <;> with_reducible rfl
          try simp only [Act.put, List.setIfInBounds_toArray, List.set_cons_zero, List.set_cons_succ, List.getElem_toArray, List.getElem_cons_succ, List.getElem_cons_zero]
          refine wpAnyB_take (i := 9) (v := ?_) rfl (by kernel_rfl) (by kernel_rfl) (by kernel_rfl) (by kernel_rfl) (fun _ _ _ h => h) (Or.inl ⟨by rfl, ?_⟩) hHeld ?_
          rotate_left 1
          · intro w hSw; (try dsimp only at hSw); obtain ⟨q1, q2, q3⟩ := hSw; go_simp <;> with_reducible rfl
          try simp only [Act.put, List.setIfInBounds_toArray, List.set_cons_zero, List.set_cons_succ, List.getElem_toArray, List.getElem_cons_succ, List.getElem_cons_zero]
          refine wpAnyB_takeW (i := 10) (v := ?_) rfl (by kernel_rfl) (by kernel_rfl) (by kernel_rfl) (fun _ _ _ h => h) (Or.inl ⟨by rfl, ?_⟩) ?_
          rotate_left 1
          · intro w hSw; go_simp <;> with_reducible rfl
          try simp only [Act.put, List.setIfInBounds_toArray, List.set_cons_zero, List.set_cons_succ, List.getElem_toArray, List.getElem_cons_succ, List.getElem_cons_zero]
          refine wpAnyB_takeW (i := 11) (v := ?_) rfl (by kernel_rfl) (by kernel_rfl) (by kernel_rfl) (fun _ _ _ h => h) (Or.inl ⟨by rfl, ?_⟩) ?_
          rotate_left 1
          · intro w hSw; go_simp <;> with_reducible rfl
          try simp only [Act.put, List.setIfInBounds_toArray, List.set_cons_zero, List.set_cons_succ, List.getElem_toArray, List.getElem_cons_succ, List.getElem_cons_zero]
          refine wpAnyB_load30 (i := 12) rfl (by kernel_rfl) (by kernel_rfl) (by kernel_rfl) (by kernel_rfl) (kb) (i * 20) (e.bd) (.tmp 158) rfl rfl (fun _ _ _ h => h) (by rfl) (fun w hSw => hSw.2.2.2.1) hHeld ?_
          try simp only [Act.put, List.setIfInBounds_toArray, List.set_cons_zero, List.set_cons_succ, List.getElem_toArray, List.getElem_cons_succ, List.getElem_cons_zero]
          refine wpAnyB_step (i := 13) (by kernel_rfl) rfl (fun Kq hKq => ?_)
          go_simp
          refine (hCm k1 e.bd _ hk1l hbl hHeld.2.2.2.2.2).mono ?_
          rintro e0 w3 ⟨rfl, hb3⟩
          dsimp only
          have hHeld := (⟨(hb3.cell (p := ⟨ob, 0, none⟩) lob).trans u1, (hb3.cell (p := ⟨nb, 0, none⟩) lnb).trans u2, rangeAt_of_block R1 (hb3.block _ hg), rangeAt_of_block RB (hb3.block _ lkb), rangeAt_of_block R0 (hb3.block _ hg), hb3⟩ : _ ∧ _ ∧ _ ∧ _ ∧ _ ∧ _)
          refine hKq.out _ _ (fun _ _ => hHeld) ?_
          clear hKq Kq
          try simp only [Act.put, List.setIfInBounds_toArray, List.set_cons_zero, List.set_cons_succ, List.getElem_toArray, List.getElem_cons_succ, List.getElem_cons_zero]
          refine wpAnyB_takeW (i := 14) (v := ?_) rfl (by kernel_rfl) (by kernel_rfl) (by kernel_rfl) (fun _ _ _ h => h) (Or.inl ⟨by rfl, ?_⟩) ?_
          rotate_left 1
          · intro w hSw; go_simp <;> with_reducible rfl
          try simp only [Act.put, List.setIfInBounds_toArray, List.set_cons_zero, List.set_cons_succ, List.getElem_toArray, List.getElem_cons_succ, List.getElem_cons_zero]
          refine wpAnyB_takeW (i := 15) (v := ?_) rfl (by kernel_rfl) (by kernel_rfl) (by kernel_rfl) (fun _ _ _ h => h) (Or.inl ⟨by rfl, ?_⟩) ?_
          rotate_left 1
          · intro w hSw; go_simp <;> with_reducible rfl
          try simp only [Act.put, List.setIfInBounds_toArray, List.set_cons_zero, List.set_cons_succ, List.getElem_toArray, List.getElem_cons_succ, List.getElem_cons_zero]
          refine wpAnyB_takeW (i := 16) (v := ?_) rfl (by kernel_rfl) (by kernel_rfl) (by kernel_rfl) (fun _ _ _ h => h) (Or.inl ⟨by rfl, ?_⟩) ?_
          rotate_left 1
          · intro w hSw; go_simp <;> with_reducible rfl
          try simp only [Act.put, List.setIfInBounds_toArray, List.set_cons_zero, List.set_cons_succ, List.getElem_toArray, List.getElem_cons_succ, List.getElem_cons_zero]
          refine wpAnyB_takeW (i := 17) (v := ?_) rfl (by kernel_rfl) (by kernel_rfl) (by kernel_rfl) (fun _ _ _ h => h) (Or.inl ⟨by rfl, ?_⟩) ?_
          rotate_left 1
          · intro w hSw; go_simp <;> with_reducible rfl
          try simp only [Act.put, List.setIfInBounds_toArray, List.set_cons_zero, List.set_cons_succ, List.getElem_toArray, List.getElem_cons_succ, List.getElem_cons_zero]
          refine wpAnyB_take (i := 18) (v := ?_) rfl (by kernel_rfl) (by kernel_rfl) (by kernel_rfl) (by kernel_rfl) (fun _ _ _ h => h) (Or.inl ⟨by rfl, ?_⟩) hHeld ?_
          rotate_left 1
          · intro w hSw; (try dsimp only at hSw); obtain ⟨q1, q2, q3⟩ := hSw; go_simp <;> with_reducible rfl
          try simp only [Act.put, List.setIfInBounds_toArray, List.set_cons_zero, List.set_cons_succ, List.getElem_toArray, List.getElem_cons_succ, List.getElem_cons_zero]
          refine wpAnyB_takeW (i := 19) (v := ?_) rfl (by kernel_rfl) (by kernel_rfl) (by kernel_rfl) (fun _ _ _ h => h) (Or.inl ⟨by rfl, ?_⟩) ?_
          rotate_left 1
          · intro w hSw; go_simp <;> with_reducible rfl
          try simp only [Act.put, List.setIfInBounds_toArray, List.set_cons_zero, List.set_cons_succ, List.getElem_toArray, List.getElem_cons_succ, List.getElem_cons_zero]
          refine wpAnyB_takeW (i := 20) (v := ?_) rfl (by kernel_rfl) (by kernel_rfl) (by kernel_rfl) (fun _ _ _ h => h) (Or.inl ⟨by rfl, ?_⟩) ?_
          rotate_left 1
          · intro w hSw; go_simp <;> with_reducible rfl
          try simp only [Act.put, List.setIfInBounds_toArray, List.set_cons_zero, List.set_cons_succ, List.getElem_toArray, List.getElem_cons_succ, List.getElem_cons_zero]
          refine wpAnyB_takeW (i := 21) (v := ?_) rfl (by kernel_rfl) (by kernel_rfl) (by kernel_rfl) (fun _ _ _ h => h) (Or.inl ⟨by rfl, ?_⟩) ?_
          rotate_left 1
          · intro w hSw; go_simp <;> with_reducible rfl
          try simp only [Act.put, List.setIfInBounds_toArray, List.set_cons_zero, List.set_cons_succ, List.getElem_toArray, List.getElem_cons_succ, List.getElem_cons_zero]
          refine wpAnyB_load30 (i := 22) rfl (by kernel_rfl) (by kernel_rfl) (by kernel_rfl) (by kernel_rfl) (g) ((st - 1) * 20) (k0) (.tmp 168) rfl rfl (fun _ _ _ h => h) (by rfl) (fun w hSw => hSw.2.2.2.2.1) hHeld ?_
          try simp only [Act.put, List.setIfInBounds_toArray, List.set_cons_zero, List.set_cons_succ, List.getElem_toArray, List.getElem_cons_succ, List.getElem_cons_zero]
          refine wpAnyB_takeW (i := 23) (v := ?_) rfl (by kernel_rfl) (by kernel_rfl) (by kernel_rfl) (fun _ _ _ h => h) (Or.inl ⟨by rfl, ?_⟩) ?_
          rotate_left 1
          · intro w hSw; go_simp <;> with_reducible rfl
          try simp only [Act.put, List.setIfInBounds_toArray, List.set_cons_zero, List.set_cons_succ, List.getElem_toArray, List.getElem_cons_succ, List.getElem_cons_zero]
          refine wpAnyB_takeW (i := 24) (v := ?_) rfl (by kernel_rfl) (by kernel_rfl) (by kernel_rfl) (fun _ _ _ h => h) (Or.inl ⟨by rfl, ?_⟩) ?_
          rotate_left 1
          · intro w hSw; go_simp <;> with_reducible rfl
          try simp only [Act.put, List.setIfInBounds_toArray, List.set_cons_zero, List.set_cons_succ, List.getElem_toArray, List.getElem_cons_succ, List.getElem_cons_zero]
          refine wpAnyB_takeW (i := 25) (v := ?_) rfl (by kernel_rfl) (by kernel_rfl) (by kernel_rfl) (fun _ _ _ h => h) (Or.inl ⟨by rfl, ?_⟩) ?_
          rotate_left 1
          · intro w hSw; go_simp <;> with_reducible rfl
          try simp only [Act.put, List.setIfInBounds_toArray, List.set_cons_zero, List.set_cons_succ, List.getElem_toArray, List.getElem_cons_succ, List.getElem_cons_zero]
          refine wpAnyB_take (i := 26) (v := ?_) rfl (by kernel_rfl) (by kernel_rfl) (by kernel_rfl) (by kernel_rfl) (fun _ _ _ h => h) (Or.inl ⟨by rfl, ?_⟩) hHeld ?_
          rotate_left 1
          · intro w hSw; (try dsimp only at hSw); obtain ⟨q1, q2, q3⟩ := hSw; go_simp <;> with_reducible rfl
          try simp only [Act.put, List.setIfInBounds_toArray, List.set_cons_zero, List.set_cons_succ, List.getElem_toArray, List.getElem_cons_succ, List.getElem_cons_zero]
          refine wpAnyB_takeW (i := 27) (v := ?_) rfl (by kernel_rfl) (by kernel_rfl) (by kernel_rfl) (fun _ _ _ h => h) (Or.inl ⟨by rfl, ?_⟩) ?_
          rotate_left 1
          · intro w hSw; go_simp <;> with_reducible rfl
          try simp only [Act.put, List.setIfInBounds_toArray, List.set_cons_zero, List.set_cons_succ, List.getElem_toArray, List.getElem_cons_succ, List.getElem_cons_zero]
          refine wpAnyB_takeW (i := 28) (v := ?_) rfl (by kernel_rfl) (by kernel_rfl) (by kernel_rfl) (fun _ _ _ h => h) (Or.inl ⟨by rfl, ?_⟩) ?_
          rotate_left 1
          · intro w hSw; go_simp <;> with_reducible rfl
          try simp only [Act.put, List.setIfInBounds_toArray, List.set_cons_zero, List.set_cons_succ, List.getElem_toArray, List.getElem_cons_succ, List.getElem_cons_zero]
          refine wpAnyB_load30 (i := 29) rfl (by kernel_rfl) (by kernel_rfl) (by kernel_rfl) (by kernel_rfl) (kb) (i * 20) (e.bd) (.tmp 175) rfl rfl (fun _ _ _ h => h) (by rfl) (fun w hSw => hSw.2.2.2.1) hHeld ?_
          try simp only [Act.put, List.setIfInBounds_toArray, List.set_cons_zero, List.set_cons_succ, List.getElem_toArray, List.getElem_cons_succ, List.getElem_cons_zero]
          refine wpAnyB_step (i := 30) (by kernel_rfl) rfl (fun Kq hKq => ?_)
          go_simp
          refine (hCm k0 e.bd _ hk0l hbl hHeld.2.2.2.2.2).mono ?_
          rintro e0 w4 ⟨rfl, hb4⟩
          dsimp only
          have hHeld := (⟨(hb4.cell (p := ⟨ob, 0, none⟩) lob).trans u1, (hb4.cell (p := ⟨nb, 0, none⟩) lnb).trans u2, rangeAt_of_block R1 (hb4.block _ hg), rangeAt_of_block RB (hb4.block _ lkb), rangeAt_of_block R0 (hb4.block _ hg), hb4⟩ : _ ∧ _ ∧ _ ∧ _ ∧ _ ∧ _)
          refine hKq.out _ _ (fun _ _ => hHeld) ?_
          clear hKq Kq
          try simp only [Act.put, List.setIfInBounds_toArray, List.set_cons_zero, List.set_cons_succ, List.getElem_toArray, List.getElem_cons_succ, List.getElem_cons_zero]
          refine wpAnyB_takeW (i := 31) (v := ?_) rfl (by kernel_rfl) (by kernel_rfl) (by kernel_rfl) (fun _ _ _ h => h) (Or.inl ⟨by rfl, ?_⟩) ?_
          rotate_left 1
          · intro w hSw; go_simp <;> with_reducible rfl
          try simp only [Act.put, List.setIfInBounds_toArray, List.set_cons_zero, List.set_cons_succ, List.getElem_toArray, List.getElem_cons_succ, List.getElem_cons_zero]
          refine wpAnyB_takeW (i := 32) (v := ?_) rfl (by kernel_rfl) (by kernel_rfl) (by kernel_rfl) (fun _ _ _ h => h) (Or.inl ⟨by rfl, ?_⟩) ?_
          rotate_left 1
          · intro w hSw; go_simp <;> with_reducible rfl
          try simp only [Act.put, List.setIfInBounds_toArray, List.set_cons_zero, List.set_cons_succ, List.getElem_toArray, List.getElem_cons_succ, List.getElem_cons_zero]
          refine wpAnyB_done (by kernel_rfl) ?_ _
          replace BD3 := BD3.below hb4
          replace hOX := hOX.kept (S := fun _ => False) (Kept.of_below hb4) (fun h => h) (fun _ _ _ h => h)
          replace hkF := hkF.trans (Kept.of_below (hb4.mono (Nat.le_refl _)))
          have harrG : ∀ b, Arr w4 ob b → Arr w ob b ∨ w.heap.size + 1 ≤ b := fun b hb => harrF b (hb.of_block (hb4.block _ lob))
          clear hHeld hCm
          go_wp2_with fail
          go_roundg m
          case measure => omega
          case rel =>
            refine ⟨i + 1, by simp, by omega, ?_, .inr ⟨by omega, rfl⟩, ?_, ?_, hkF, harrG⟩
            · rw [← hend.out.1]; rfl
            · rw [← hend.out.2.1]; exact BD3
            · rw [← hend.out.2.2]; exact hOX
  | true =>
    have gd3 := hguard2 rfl
    clear hguard hguard2
    go_enter Yba.func17, Yba.ntmps17
    go_wp2_with fail
    refine wp_region_B (fun w' => w'.cell? ⟨nb, 1, none⟩ = some (.slice (some ⟨cb, 0, none⟩) es.length 33) ∧ w'.cell? ⟨nb, 0, none⟩ = some (.slice (some ⟨kb, 0, none⟩) es.length 33)) (fun _ => true) (by kernel_rfl) (⟨by simpa using c1, by simpa using c0⟩) (fun hHeld => ?_)
    simp only [List.size_toArray, List.length_cons, List.length_nil, Nat.reduceAdd, Array.replicate_succ, Array.replicate_zero, List.push_toArray, List.append_toArray, List.nil_append, List.cons_append]
    refine wpAnyB_takeW (i := 0) (v := ?_) rfl (by kernel_rfl) (by kernel_rfl) (by kernel_rfl) (fun _ _ _ h => h) (Or.inl ⟨by rfl, ?_⟩) ?_
    rotate_left 1
    · intro w hSw; go_simp <;> with_reducible rfl
    try simp only [Act.put, List.setIfInBounds_toArray, List.set_cons_zero, List.set_cons_succ, List.getElem_toArray, List.getElem_cons_succ, List.getElem_cons_zero]
    refine wpAnyB_takeW (i := 1) (v := ?_) rfl (by kernel_rfl) (by kernel_rfl) (by kernel_rfl) (fun _ _ _ h => h) (Or.inl ⟨by rfl, ?_⟩) ?_
    rotate_left 1
    · intro w hSw; go_simp <;> with_reducible rfl
    try simp only [Act.put, List.setIfInBounds_toArray, List.set_cons_zero, List.set_cons_succ, List.getElem_toArray, List.getElem_cons_succ, List.getElem_cons_zero]
    refine wpAnyB_takeW (i := 2) (v := ?_) rfl (by kernel_rfl) (by kernel_rfl) (by kernel_rfl) (fun _ _ _ h => h) (Or.inl ⟨by rfl, ?_⟩) ?_
    rotate_left 1
    · intro w hSw; go_simp <;> with_reducible rfl
    try simp only [Act.put, List.setIfInBounds_toArray, List.set_cons_zero, List.set_cons_succ, List.getElem_toArray, List.getElem_cons_succ, List.getElem_cons_zero]
    refine wpAnyB_take (i := 3) (v := ?_) rfl (by kernel_rfl) (by kernel_rfl) (by kernel_rfl) (by kernel_rfl) (fun _ _ _ h => h) (Or.inl ⟨by rfl, ?_⟩) hHeld ?_
    rotate_left 1
    · intro w hSw; (try dsimp only at hSw); obtain ⟨q1, q2⟩ := hSw; go_simp <;> with_reducible rfl
    try simp only [Act.put, List.setIfInBounds_toArray, List.set_cons_zero, List.set_cons_succ, List.getElem_toArray, List.getElem_cons_succ, List.getElem_cons_zero]
    refine wpAnyB_takeW (i := 4) (v := ?_) rfl (by kernel_rfl) (by kernel_rfl) (by kernel_rfl) (fun _ _ _ h => h) (Or.inl ⟨by rfl, ?_⟩) ?_
    rotate_left 1
    · intro w hSw; go_simp <;> with_reducible rfl
    try simp only [Act.put, List.setIfInBounds_toArray, List.set_cons_zero, List.set_cons_succ, List.getElem_toArray, List.getElem_cons_succ, List.getElem_cons_zero]
    refine wpAnyB_takeW (i := 5) (v := ?_) rfl (by kernel_rfl) (by kernel_rfl) (by kernel_rfl) (fun _ _ _ h => h) (Or.inl ⟨by rfl, ?_⟩) ?_
    rotate_left 1
    · intro w hSw; go_simp <;> with_reducible rfl
    try simp only [Act.put, List.setIfInBounds_toArray, List.set_cons_zero, List.set_cons_succ, List.getElem_toArray, List.getElem_cons_succ, List.getElem_cons_zero]
    refine wpAnyB_takeW (i := 6) (v := ?_) rfl (by kernel_rfl) (by kernel_rfl) (by kernel_rfl) (fun _ _ _ h => h) (Or.inl ⟨by rfl, ?_⟩) ?_
    rotate_left 1
    · intro w hSw; go_simp <;> with_reducible rfl
    try simp only [Act.put, List.setIfInBounds_toArray, List.set_cons_zero, List.set_cons_succ, List.getElem_toArray, List.getElem_cons_succ, List.getElem_cons_zero]
    refine wpAnyB_takeW (i := 7) (v := ?_) rfl (by kernel_rfl) (by kernel_rfl) (by kernel_rfl) (fun _ _ _ h => h) (Or.inl ⟨by rfl, ?_⟩) ?_
    rotate_left 1
    · intro w hSw; go_simp <;> with_reducible rfl
    try simp only [Act.put, List.setIfInBounds_toArray, List.set_cons_zero, List.set_cons_succ, List.getElem_toArray, List.getElem_cons_succ, List.getElem_cons_zero]
    refine wpAnyB_take (i := 8) (v := ?_) rfl (by kernel_rfl) (by kernel_rfl) (by kernel_rfl) (by kernel_rfl) (fun _ _ _ h => h) (Or.inl ⟨by rfl, ?_⟩) hHeld ?_
    rotate_left 1
    · intro w hSw; (try dsimp only at hSw); obtain ⟨q1, q2⟩ := hSw; go_simp <;> with_reducible rfl
    try simp only [Act.put, List.setIfInBounds_toArray, List.set_cons_zero, List.set_cons_succ, List.getElem_toArray, List.getElem_cons_succ, List.getElem_cons_zero]
    refine wpAnyB_takeW (i := 9) (v := ?_) rfl (by kernel_rfl) (by kernel_rfl) (by kernel_rfl) (fun _ _ _ h => h) (Or.inl ⟨by rfl, ?_⟩) ?_
    rotate_left 1
    · intro w hSw; go_simp <;> with_reducible rfl
    try simp only [Act.put, List.setIfInBounds_toArray, List.set_cons_zero, List.set_cons_succ, List.getElem_toArray, List.getElem_cons_succ, List.getElem_cons_zero]
    refine wpAnyB_takeW (i := 10) (v := ?_) rfl (by kernel_rfl) (by kernel_rfl) (by kernel_rfl) (fun _ _ _ h => h) (Or.inl ⟨by rfl, ?_⟩) ?_
    rotate_left 1
    · intro w hSw; go_simp <;> with_reducible rfl
    try simp only [Act.put, List.setIfInBounds_toArray, List.set_cons_zero, List.set_cons_succ, List.getElem_toArray, List.getElem_cons_succ, List.getElem_cons_zero]
    refine wpAnyB_takeW (i := 11) (v := ?_) rfl (by kernel_rfl) (by kernel_rfl) (by kernel_rfl) (fun _ _ _ h => h) (Or.inl ⟨by rfl, ?_⟩) ?_
    rotate_left 1
    · intro w hSw; go_simp <;> with_reducible rfl
    try simp only [Act.put, List.setIfInBounds_toArray, List.set_cons_zero, List.set_cons_succ, List.getElem_toArray, List.getElem_cons_succ, List.getElem_cons_zero]
    refine wpAnyB_takeW (i := 12) (v := ?_) rfl (by kernel_rfl) (by kernel_rfl) (by kernel_rfl) (fun _ _ _ h => h) (Or.inl ⟨by rfl, ?_⟩) ?_
    rotate_left 1
    · intro w hSw; go_simp <;> with_reducible rfl
    try simp only [Act.put, List.setIfInBounds_toArray, List.set_cons_zero, List.set_cons_succ, List.getElem_toArray, List.getElem_cons_succ, List.getElem_cons_zero]
    refine wpAnyB_takeW (i := 13) (v := ?_) rfl (by kernel_rfl) (by kernel_rfl) (by kernel_rfl) (fun _ _ _ h => h) (Or.inl ⟨by rfl, ?_⟩) ?_
    rotate_left 1
    · intro w hSw; go_simp <;> with_reducible rfl
    try simp only [Act.put, List.setIfInBounds_toArray, List.set_cons_zero, List.set_cons_succ, List.getElem_toArray, List.getElem_cons_succ, List.getElem_cons_zero]
    refine wpAnyB_takeW (i := 14) (v := ?_) rfl (by kernel_rfl) (by kernel_rfl) (by kernel_rfl) (fun _ _ _ h => h) (Or.inl ⟨by rfl, ?_⟩) ?_
    rotate_left 1
    · intro w hSw; go_simp <;> with_reducible rfl
    try simp only [Act.put, List.setIfInBounds_toArray, List.set_cons_zero, List.set_cons_succ, List.getElem_toArray, List.getElem_cons_succ, List.getElem_cons_zero]
    refine wpAnyB_takeW (i := 15) (v := ?_) rfl (by kernel_rfl) (by kernel_rfl) (by kernel_rfl) (fun _ _ _ h => h) (Or.inl ⟨by rfl, ?_⟩) ?_
    rotate_left 1
    · intro w hSw; go_simp <;> with_reducible rfl
    try simp only [Act.put, List.setIfInBounds_toArray, List.set_cons_zero, List.set_cons_succ, List.getElem_toArray, List.getElem_cons_succ, List.getElem_cons_zero]
    refine wpAnyB_takeW (i := 16) (v := ?_) rfl (by kernel_rfl) (by kernel_rfl) (by kernel_rfl) (fun _ _ _ h => h) (Or.inl ⟨by rfl, ?_⟩) ?_
    rotate_left 1
    · intro w hSw; go_simp <;> with_reducible rfl
    try simp only [Act.put, List.setIfInBounds_toArray, List.set_cons_zero, List.set_cons_succ, List.getElem_toArray, List.getElem_cons_succ, List.getElem_cons_zero]
    refine wpAnyB_take (i := 17) (v := ?_) rfl (by kernel_rfl) (by kernel_rfl) (by kernel_rfl) (by kernel_rfl) (fun _ _ _ h => h) (Or.inl ⟨by rfl, ?_⟩) hHeld ?_
    rotate_left 1
    · intro w hSw; (try dsimp only at hSw); obtain ⟨q1, q2⟩ := hSw; go_simp <;> with_reducible rfl
    try simp only [Act.put, List.setIfInBounds_toArray, List.set_cons_zero, List.set_cons_succ, List.getElem_toArray, List.getElem_cons_succ, List.getElem_cons_zero]
    refine wpAnyB_takeW (i := 18) (v := ?_) rfl (by kernel_rfl) (by kernel_rfl) (by kernel_rfl) (fun _ _ _ h => h) (Or.inl ⟨by rfl, ?_⟩) ?_
    rotate_left 1
    · intro w hSw; go_simp <;> with_reducible rfl
    try simp only [Act.put, List.setIfInBounds_toArray, List.set_cons_zero, List.set_cons_succ, List.getElem_toArray, List.getElem_cons_succ, List.getElem_cons_zero]
    refine wpAnyB_takeW (i := 19) (v := ?_) rfl (by kernel_rfl) (by kernel_rfl) (by kernel_rfl) (fun _ _ _ h => h) (Or.inl ⟨by rfl, ?_⟩) ?_
    rotate_left 1
    · intro w hSw; go_simp <;> with_reducible rfl
    try simp only [Act.put, List.setIfInBounds_toArray, List.set_cons_zero, List.set_cons_succ, List.getElem_toArray, List.getElem_cons_succ, List.getElem_cons_zero]
    refine wpAnyB_takeW (i := 20) (v := ?_) rfl (by kernel_rfl) (by kernel_rfl) (by kernel_rfl) (fun _ _ _ h => h) (Or.inl ⟨by rfl, ?_⟩) ?_
    rotate_left 1
    · intro w hSw; go_simp <;> with_reducible rfl
    try simp only [Act.put, List.setIfInBounds_toArray, List.set_cons_zero, List.set_cons_succ, List.getElem_toArray, List.getElem_cons_succ, List.getElem_cons_zero]
    refine wpAnyB_takeW (i := 21) (v := ?_) rfl (by kernel_rfl) (by kernel_rfl) (by kernel_rfl) (fun _ _ _ h => h) (Or.inl ⟨by rfl, ?_⟩) ?_
    rotate_left 1
    · intro w hSw; go_simp <;> with_reducible rfl
    try simp only [Act.put, List.setIfInBounds_toArray, List.set_cons_zero, List.set_cons_succ, List.getElem_toArray, List.getElem_cons_succ, List.getElem_cons_zero]
    refine wpAnyB_done (by kernel_rfl) ?_ _
    clear hHeld
    go_upto_region 15 with fail
    rw [dgc_zero_lit]
    have BD : Blk (w.alloc (.cells (dgc 0).toArray 47)).drew w.heap.size (dgc 0) 47 := (Blk.new w _ 47).drew
    have hb0 : Below w.heap.size w (w.alloc (.cells (dgc 0).toArray 47)).drew := ((Below.refl _ w).alloc (Nat.le_refl _) _).drew
    generalize (w.alloc (.cells (dgc 0).toArray 47)).drew = W at *
    have c1' : W.cell? ⟨nb, 1, none⟩ = some (.slice (some ⟨cb, 0, none⟩) es.length 33) := (N.below hb0).cell 1
    go_wp2_with fail
    go_loopg [8, 10, 100] es.length (fun k s8 s10 s100 wr => ∃ i : Nat, s100 = .int .i64 i ∧ i + k = es.length ∧ s8 = .int .i64 ((keysOf (es.take i)).length : Nat) ∧ ((i = 0 ∧ s10 = .int .i64 (-1)) ∨ (0 < i ∧ s10 = .int .i64 ((d + 1 : Nat) : Int))) ∧
        Blk wr w.heap.size (dgc (keysOf (es.take i)).sum) 47 ∧ Out base wr ob (acc ++ keysOf (es.take i)) ∧ Kept (fun b => b = ob ∨ Arr w ob b) w wr ∧ ∀ b, Arr wr ob b → Arr w ob b ∨ w.heap.size + 1 ≤ b)
    case atStart => exact ⟨0, rfl, by omega, rfl, .inl ⟨rfl, rfl⟩, BD, by rw [List.take_zero, keysOf_nil, List.append_nil]; exact hO.kept (S := fun _ => False) (Kept.of_below hb0) (fun h => h) (fun _ _ _ h => h), Kept.of_below hb0, fun b hb => .inl (hb.of_block (hb0.block _ hob))⟩
    case round =>
      clear BD hb0 c1' c0 c1
      obtain ⟨i, rfl, hik, rfl, hdep, BD, hOr, hkr, harr⟩ := hrel
      have hsr := hkr.size
      have lD := BD.lt
      have hS : ∀ b, b < base → b ≠ ob → ¬ (b = ob ∨ Arr w ob b) := fun b h1 h2 h => by
        rcases h with h | h
        · exact h2 h
        · exact absurd h1 (Nat.not_lt.2 (hO.arr h).1)
      have Nr := N.kept hkr (hS nb hnb1 hnb2)
      have KBr := KB.kept hkr (hS kb hkb1 hkb2)
      have CBr := CB.kept hkr (hS cb hcb1 hcb2)
      cases gk with
      | zero =>
        obtain rfl : i = es.length := by omega
        rw [List.take_length] at BD hOr
        rw [List.take_length]
        obtain ⟨_, rfl⟩ : 0 < es.length ∧ _ := hdep.resolve_left (fun h => by omega)
        have v1 : wr.cell? ⟨nb, 2, none⟩ = some (.int .i64 ((keysOf es).length : Nat)) := Nr.cell 2
        go_wp2_with fail
        refine wp_region_B (fun w' => w'.cell? ⟨nb, 2, none⟩ = some (.int .i64 ((keysOf es).length : Nat)) ∧ w'.rangeAt w.heap.size 0 (dgc (keysOf es).sum) ∧ w'.rangeAt nb 3 (dgc (keysOf es).sum)) (fun _ => true) (by kernel_rfl) (⟨by simpa using v1, by simpa using BD.dg, by simpa using Nr.digR⟩) (fun hHeld => ?_)
        simp only [List.size_toArray, List.length_cons, List.length_nil, Nat.reduceAdd, Array.replicate_succ, Array.replicate_zero, List.push_toArray, List.append_toArray, List.nil_append, List.cons_append]
        refine wpAnyB_takeW (i := 0) (v := ?_) rfl (by kernel_rfl) (by kernel_rfl) (by kernel_rfl) (fun _ _ _ h => h) (Or.inl ⟨by rfl, ?_⟩) ?_
        rotate_left 1
        · intro w hSw; go_simp <;> with_reducible rfl
        try simp only [Act.put, List.setIfInBounds_toArray, List.set_cons_zero, List.set_cons_succ, List.getElem_toArray, List.getElem_cons_succ, List.getElem_cons_zero]
        refine wpAnyB_takeW (i := 1) (v := ?_) rfl (by kernel_rfl) (by kernel_rfl) (by kernel_rfl) (fun _ _ _ h => h) (Or.inl ⟨by rfl, ?_⟩) ?_
        rotate_left 1
        · intro w hSw; go_simp <;> with_reducible rfl
        try simp only [Act.put, List.setIfInBounds_toArray, List.set_cons_zero, List.set_cons_succ, List.getElem_toArray, List.getElem_cons_succ, List.getElem_cons_zero]
        refine wpAnyB_takeW (i := 2) (v := ?_) rfl (by kernel_rfl) (by kernel_rfl) (by kernel_rfl) (fun _ _ _ h => h) (Or.inl ⟨by rfl, ?_⟩) ?_
        rotate_left 1
        · intro w hSw; go_simp <;> with_reducible rfl
        try simp only [Act.put, List.setIfInBounds_toArray, List.set_cons_zero, List.set_cons_succ, List.getElem_toArray, List.getElem_cons_succ, List.getElem_cons_zero]
        refine wpAnyB_takeW (i := 3) (v := ?_) rfl (by kernel_rfl) (by kernel_rfl) (by kernel_rfl) (fun _ _ _ h => h) (Or.inl ⟨by rfl, ?_⟩) ?_
        rotate_left 1
        · intro w hSw; go_simp <;> with_reducible rfl
        try simp only [Act.put, List.setIfInBounds_toArray, List.set_cons_zero, List.set_cons_succ, List.getElem_toArray, List.getElem_cons_succ, List.getElem_cons_zero]
        refine wpAnyB_take (i := 4) (v := ?_) rfl (by kernel_rfl) (by kernel_rfl) (by kernel_rfl) (by kernel_rfl) (fun _ _ _ h => h) (Or.inl ⟨by rfl, ?_⟩) hHeld ?_
        rotate_left 1
        · intro w hSw; (try dsimp only at hSw); obtain ⟨q1, q2, q3⟩ := hSw; go_simp <;> with_reducible rfl
        try simp only [Act.put, List.setIfInBounds_toArray, List.set_cons_zero, List.set_cons_succ, List.getElem_toArray, List.getElem_cons_succ, List.getElem_cons_zero]
        refine wpAnyB_takeW (i := 5) (v := ?_) rfl (by kernel_rfl) (by kernel_rfl) (by kernel_rfl) (fun _ _ _ h => h) (Or.inl ⟨by rfl, ?_⟩) ?_
        rotate_left 1
        · intro w hSw; go_simp <;> with_reducible rfl
        try simp only [Act.put, List.setIfInBounds_toArray, List.set_cons_zero, List.set_cons_succ, List.getElem_toArray, List.getElem_cons_succ, List.getElem_cons_zero]
        refine wpAnyB_takeW (i := 6) (v := ?_) rfl (by kernel_rfl) (by kernel_rfl) (by kernel_rfl) (fun _ _ _ h => h) (Or.inl ⟨by rfl, ?_⟩) ?_
        rotate_left 1
        · intro w hSw; go_simp <;> with_reducible rfl
        try simp only [Act.put, List.setIfInBounds_toArray, List.set_cons_zero, List.set_cons_succ, List.getElem_toArray, List.getElem_cons_succ, List.getElem_cons_zero]
        refine wpAnyB_load47 (i := 7) rfl (by kernel_rfl) (by kernel_rfl) (by kernel_rfl) (by kernel_rfl) (w.heap.size) (0) ((keysOf es).sum) (.tmp 9) rfl rfl (fun _ _ _ h => h) (by rfl) (fun w hSw => hSw.2.1) hHeld ?_
        try simp only [Act.put, List.setIfInBounds_toArray, List.set_cons_zero, List.set_cons_succ, List.getElem_toArray, List.getElem_cons_succ, List.getElem_cons_zero]
        refine wpAnyB_takeW (i := 8) (v := ?_) rfl (by kernel_rfl) (by kernel_rfl) (by kernel_rfl) (fun _ _ _ h => h) (Or.inl ⟨by rfl, ?_⟩) ?_
        rotate_left 1
        · intro w hSw; go_simp <;> with_reducible rfl
        try simp only [Act.put, List.setIfInBounds_toArray, List.set_cons_zero, List.set_cons_succ, List.getElem_toArray, List.getElem_cons_succ, List.getElem_cons_zero]
        refine wpAnyB_takeW (i := 9) (v := ?_) rfl (by kernel_rfl) (by kernel_rfl) (by kernel_rfl) (fun _ _ _ h => h) (Or.inl ⟨by rfl, ?_⟩) ?_
        rotate_left 1
        · intro w hSw; go_simp <;> with_reducible rfl
        try simp only [Act.put, List.setIfInBounds_toArray, List.set_cons_zero, List.set_cons_succ, List.getElem_toArray, List.getElem_cons_succ, List.getElem_cons_zero]
        refine wpAnyB_takeW (i := 10) (v := ?_) rfl (by kernel_rfl) (by kernel_rfl) (by kernel_rfl) (fun _ _ _ h => h) (Or.inl ⟨by rfl, ?_⟩) ?_
        rotate_left 1
        · intro w hSw; go_simp <;> with_reducible rfl
        try simp only [Act.put, List.setIfInBounds_toArray, List.set_cons_zero, List.set_cons_succ, List.getElem_toArray, List.getElem_cons_succ, List.getElem_cons_zero]
        refine wpAnyB_load47 (i := 11) rfl (by kernel_rfl) (by kernel_rfl) (by kernel_rfl) (by kernel_rfl) (nb) (3) ((keysOf es).sum) (.tmp 191) rfl rfl (fun _ _ _ h => h) (by rfl) (fun w hSw => hSw.2.2) hHeld ?_
        try simp only [Act.put, List.setIfInBounds_toArray, List.set_cons_zero, List.set_cons_succ, List.getElem_toArray, List.getElem_cons_succ, List.getElem_cons_zero]
        refine wpAnyB_takeW (i := 12) (v := ?_) rfl (by kernel_rfl) (by kernel_rfl) (by kernel_rfl) (fun _ _ _ h => h) (Or.inl ⟨by rfl, ?_⟩) ?_
        rotate_left 1
        · intro w hSw; go_simp <;> with_reducible rfl
        try simp only [Act.put, List.setIfInBounds_toArray, List.set_cons_zero, List.set_cons_succ, List.getElem_toArray, List.getElem_cons_succ, List.getElem_cons_zero]
        refine wpAnyB_takeW (i := 13) (v := ?_) rfl (by kernel_rfl) (by kernel_rfl) (by kernel_rfl) (fun _ _ _ h => h) (Or.inl ⟨by rfl, ?_⟩) ?_
        rotate_left 1
        · intro w hSw; go_simp <;> with_reducible rfl
        try simp only [Act.put, List.setIfInBounds_toArray, List.set_cons_zero, List.set_cons_succ, List.getElem_toArray, List.getElem_cons_succ, List.getElem_cons_zero]
        refine wpAnyB_done (by kernel_rfl) ?_ _
        clear hHeld
        go_wp2_with fail
        go_ret2
        refine ⟨rfl, hOr.kept (S := fun _ => False) (Kept.refl _ wr).drew (fun h => h) (fun _ _ _ h => h), hkr.drew, fun b hb => ?_⟩
        rcases harr b (hb.of_block rfl) with h | h
        · exact .inl h
        · exact .inr (by omega)
      | succ m =>
        have hi : i < es.length := by omega
        have hlt' : (i : Int) < es.length := by omega
        obtain ⟨e, hei⟩ : ∃ e, es[i]? = some e := ⟨_, List.getElem?_eq_getElem hi⟩
        have hem := List.mem_of_getElem? hei
        obtain ⟨he16, he32, TE⟩ := hk e hem
        have TEr := TE.kept hkr (fun b hb => hS b (hkown e hem b hb).1 (hkown e hem b hb).2)
        have hene := TE.ne_nil (by omega)
        have z1 : wr.cell? ⟨cb, i, none⟩ = some (.pointer (some ⟨e.nb, 0, none⟩)) := by
          rw [CBr.cell]
          have : (ps.take es.length)[i]? = some (ptr e.nb) := by rw [F.hTakeP, List.getElem?_map, hei]; rfl
          rwa [List.getElem?_take_of_lt hi] at this
        have e1 : keysOf (es.take (i + 1)) = keysOf (es.take i) ++ e.ks := by
          rw [List.take_add_one, hei, keysOf_append]
          simp [keysOf]
        have e2 : keysOf es = keysOf (es.take (i + 1)) ++ keysOf (es.drop (i + 1)) := by rw [← keysOf_append, List.take_append_drop]
        have e2l : (keysOf es).length = (keysOf (es.take i)).length + e.ks.length + (keysOf (es.drop (i + 1))).length := by rw [e2, e1, List.length_append, List.length_append]
        have e2s : (keysOf es).sum = (keysOf (es.take i)).sum + e.ks.sum + (keysOf (es.drop (i + 1))).sum := by rw [e2, e1, List.sum_append, List.sum_append]
        have hcall := IH wr e.nb e.ks e.n e.own base ob (acc ++ keysOf (es.take i)) false TEr (.inr ⟨he16, he32⟩) (fun h => by cases h) hOr (hkown e hem) (by omega) (by omega) (by omega) (by rw [List.length_append]; omega) (fun h => absurd h hene)
        have hS1 : ∀ b, b < base → b ≠ ob → ¬ (b = ob ∨ Arr wr ob b) := fun b h1 h2 h => by
          rcases h with h | h
          · exact h2 h
          · exact absurd h1 (Nat.not_lt.2 (hOr.arr h).1)
        have hbD : ¬ (w.heap.size = ob ∨ Arr wr ob w.heap.size) := fun h => by
          rcases h with h | h
          · omega
          · rcases harr _ h with h | h
            · have := hwsz _ h; omega
            · omega
        obtain ⟨ci, hci⟩ : ∃ ci, Hid ((keysOf (es.take i)).length = ci) := ⟨_, rfl⟩
        obtain ⟨si, hsi⟩ : ∃ si, Hid ((keysOf (es.take i)).sum = si) := ⟨_, rfl⟩
        obtain ⟨ck, hck⟩ : ∃ ck, Hid (e.ks.length = ck) := ⟨_, rfl⟩
        obtain ⟨sk, hsk⟩ : ∃ sk, Hid (e.ks.sum = sk) := ⟨_, rfl⟩
        have hss : si + sk < 18446744073709551616 := by rw [← hsi.out, ← hsk.out]; omega
        have hcc : ci + ck < 10000 := by rw [← hci.out, ← hck.out]; omega
        rw [hci.out]
        rw [hsi.out] at BD
        have hA := fun w => add_calls si sk hss w
        have hwrap : IntKind.i64.wrap ((ci : Int) + (ck : Int)) = (ci : Int) + (ck : Int) := by rw [IntKind.wrap_i64]; omega
        have hend : Hid (ci + ck = (keysOf (es.take (i + 1))).length ∧ si + sk = (keysOf (es.take (i + 1))).sum ∧ acc ++ keysOf (es.take i) ++ e.ks = acc ++ keysOf (es.take (i + 1))) := by
          rw [e1, ← hci.out, ← hck.out, ← hsi.out, ← hsk.out]
          exact ⟨by simp, by simp, by simp⟩
        have hac : acc.length + (keysOf (es.take i)).length < 10000 := by omega
        clear e1 e2 e2l e2s
        obtain ⟨av, cv, BO, hSl, hav⟩ := hOr.value
        have z2 : wr.cell? ⟨ob, 0, none⟩ = some (.slice av (acc ++ keysOf (es.take i)).length cv) := BO.cell 0
        obtain ⟨st, hst⟩ : ∃ st, Hid ((acc ++ keysOf (es.take i)).length = st) := ⟨_, rfl⟩
        rw [hst.out] at z2
        have hst10 : st < 10000 := by rw [← hst.out, List.length_append]; exact hac
        clear hac
        rcases hdep with ⟨hi0, rfl⟩ | ⟨hi0, rfl⟩
        · have hgt : ¬ (0 : Int) < (i : Int) := by omega
          replace hi0 := Hid.mk' hi0
          go_wp2_with (go_at_call 17; refine hcall.mono ?_; rintro e0 w1 ⟨rfl, hO1, hk1, harr1⟩; obtain ⟨_, kb1, q1, xs1, _, NE, _⟩ := (TEr.kept hk1 (fun b hb => hS1 b (hkown e hem b hb).1 (hkown e hem b hb).2)).node; rw [hck.out, hsk.out] at NE; have x1 : w1.cell? ⟨e.nb, 2, none⟩ = some (.int .i64 (ck : Nat)) := NE.cell 2)
          have BD1 := BD.kept hk1 hbD
          have hs1 := hk1.size
          refine wp_region_B (fun w' => Below w1.heap.size w1 w') (fun j => j != 6) (by kernel_rfl) ((Below.refl _ w1).drew) (fun hHeld => ?_)
          simp only [List.size_toArray, List.length_cons, List.length_nil, Nat.reduceAdd, Array.replicate_succ, Array.replicate_zero, List.push_toArray, List.append_toArray, List.nil_append, List.cons_append]
          refine wpAnyB_load47 (i := 0) rfl (by kernel_rfl) (by kernel_rfl) (by kernel_rfl) (by kernel_rfl) (w.heap.size) (0) (si) (.tmp 9) rfl rfl (fun _ _ _ h => h) (by rfl) (fun w hSw => rangeAt_of_block BD1.dg (hSw.block _ BD1.lt)) hHeld ?_
          try simp only [Act.put, List.setIfInBounds_toArray, List.set_cons_zero, List.set_cons_succ, List.getElem_toArray, List.getElem_cons_succ, List.getElem_cons_zero]
          refine wpAnyB_takeW (i := 1) (v := ?_) rfl (by kernel_rfl) (by kernel_rfl) (by kernel_rfl) (fun _ _ _ h => h) (Or.inl ⟨by rfl, ?_⟩) ?_
          rotate_left 1
          · intro w hSw; go_simp <;> with_reducible rfl
          try simp only [Act.put, List.setIfInBounds_toArray, List.set_cons_zero, List.set_cons_succ, List.getElem_toArray, List.getElem_cons_succ, List.getElem_cons_zero]
          refine wpAnyB_takeW (i := 2) (v := ?_) rfl (by kernel_rfl) (by kernel_rfl) (by kernel_rfl) (fun _ _ _ h => h) (Or.inl ⟨by rfl, ?_⟩) ?_
          rotate_left 1
          · intro w hSw; go_simp <;> with_reducible rfl
          try simp only [Act.put, List.setIfInBounds_toArray, List.set_cons_zero, List.set_cons_succ, List.getElem_toArray, List.getElem_cons_succ, List.getElem_cons_zero]
          refine wpAnyB_takeW (i := 3) (v := ?_) rfl (by kernel_rfl) (by kernel_rfl) (by kernel_rfl) (fun _ _ _ h => h) (Or.inl ⟨by rfl, ?_⟩) ?_
          rotate_left 1
          · intro w hSw; go_simp <;> with_reducible rfl
          try simp only [Act.put, List.setIfInBounds_toArray, List.set_cons_zero, List.set_cons_succ, List.getElem_toArray, List.getElem_cons_succ, List.getElem_cons_zero]
          refine wpAnyB_load47 (i := 4) rfl (by kernel_rfl) (by kernel_rfl) (by kernel_rfl) (by kernel_rfl) (e.nb) (3) (sk) (.tmp 132) rfl rfl (fun _ _ _ h => h) (by rfl) (fun w hSw => rangeAt_of_block NE.digR (hSw.block _ NE.lt)) hHeld ?_
          try simp only [Act.put, List.setIfInBounds_toArray, List.set_cons_zero, List.set_cons_succ, List.getElem_toArray, List.getElem_cons_succ, List.getElem_cons_zero]
          refine wpAnyB_step (i := 5) (by kernel_rfl) rfl (fun Kq hKq => ?_)
          go_simp
          refine (hA _).mono ?_
          rintro e0 w2 ⟨rfl, hw2⟩
          dsimp only
          have hb2 : Below w1.heap.size w1 w2 := hHeld.trans (hw2.mono hHeld.size)
          have hHeld := hb2
          refine hKq.out _ _ (fun _ _ => hHeld) ?_
          clear hKq Kq
          try simp only [Act.put, List.setIfInBounds_toArray, List.set_cons_zero, List.set_cons_succ, List.getElem_toArray, List.getElem_cons_succ, List.getElem_cons_zero]
          have BD2 := BD1.below hb2
          have T2 := BD2.dgT
          refine wpAnyB_step (i := 6) (by kernel_rfl) rfl (fun Kq hKq => ?_)
          refine step_st47 rfl rfl (.tmp 9) (.tmp 134) rfl w.heap.size 0 (si + sk) rfl rfl T2 ?_
          refine hKq.out _ _ (fun h => absurd h (by decide)) ?_
          clear hKq Kq
          try simp only [Act.put, List.setIfInBounds_toArray, List.set_cons_zero, List.set_cons_succ, List.getElem_toArray, List.getElem_cons_succ, List.getElem_cons_zero]
          refine wpAnyB_done (by kernel_rfl) ?_ _
          have BD3 : Blk (w2.setCells w.heap.size 0 (dgc (si + sk))) w.heap.size (dgc (si + sk)) 47 := BD2.dgS
          have kX : Kept (· = w.heap.size) w1 (w2.setCells w.heap.size 0 (dgc (si + sk))) := kept_sets (Kept.of_below hb2) _ _
          generalize w2.setCells w.heap.size 0 (dgc (si + sk)) = X at *
          have hsX := kX.size
          have hobw : ob ≠ w.heap.size := by omega
          have hOX : Out base X ob (acc ++ keysOf (es.take i) ++ e.ks) := by
            obtain ⟨g, cap, B, hg, hgI⟩ := hO1.at (by simp [hene])
            have hgD : g ≠ w.heap.size := fun h => by
              subst h
              rcases harr1 _ ⟨_, _, B⟩ with h | h
              · exact hbD (.inr h)
              · omega
            rcases hO1 with ⟨h0, _⟩ | ⟨h0, g', cap', ys', B', p1, p2, BG', p3, p4, p5⟩
            · exact absurd h0 (by simp [hene])
            · have := (B.inj B').1
              simp at this
              obtain ⟨rfl, rfl⟩ := this
              exact .inr ⟨h0, _, _, ys', B'.kept kX hobw, p1, p2, BG'.kept kX hgD, p3, p4, p5⟩
          have hkF : Kept (fun b => b = ob ∨ Arr w ob b) w X := ⟨kX.os.trans (hk1.os.trans hkr.os), kX.tape.trans (hk1.tape.trans hkr.tape), kX.output.trans (hk1.output.trans hkr.output), by omega, fun b hb hn => by
            rw [kX.block b (by omega) (by omega), hk1.block b (by omega) (fun h => ?_), hkr.block b hb hn]
            rcases h with h | h
            · exact hn (.inl h)
            · rcases harr _ h with h | h
              · exact hn (.inr h)
              · omega⟩
          have harrF : ∀ b, Arr X ob b → Arr w ob b ∨ w.heap.size + 1 ≤ b := fun b hb => by
            rcases harr1 b (hb.of_block (kX.block _ (by omega) hobw)) with h | h
            · exact harr b h
            · exact .inr (by omega)
          clear hHeld hA
          go_wp2_with fail
          go_roundg m
          case measure => omega
          case rel =>
            refine ⟨i + 1, by simp, by omega, ?_, .inr ⟨by omega, rfl⟩, ?_, ?_, hkF, harrF⟩
            · rw [← hend.out.1]; rfl
            · rw [← hend.out.2.1]; exact BD3
            · rw [← hend.out.2.2]; exact hOX
        · have hd1 : ¬ ((d + 1 : Nat) : Int) < 0 := by omega
          go_wp2_with (go_at_call 17; refine hcall.mono ?_; rintro e0 w1 ⟨rfl, hO1, hk1, harr1⟩; obtain ⟨_, kb1, q1, xs1, _, NE, _⟩ := (TEr.kept hk1 (fun b hb => hS1 b (hkown e hem b hb).1 (hkown e hem b hb).2)).node; rw [hck.out, hsk.out] at NE; have x1 : w1.cell? ⟨e.nb, 2, none⟩ = some (.int .i64 (ck : Nat)) := NE.cell 2)
          have BD1 := BD.kept hk1 hbD
          have hs1 := hk1.size
          refine wp_region_B (fun w' => Below w1.heap.size w1 w') (fun j => j != 6) (by kernel_rfl) ((Below.refl _ w1).drew) (fun hHeld => ?_)
          simp only [List.size_toArray, List.length_cons, List.length_nil, Nat.reduceAdd, Array.replicate_succ, Array.replicate_zero, List.push_toArray, List.append_toArray, List.nil_append, List.cons_append]
          refine wpAnyB_load47 (i := 0) rfl (by kernel_rfl) (by kernel_rfl) (by kernel_rfl) (by kernel_rfl) (w.heap.size) (0) (si) (.tmp 9) rfl rfl (fun _ _ _ h => h) (by rfl) (fun w hSw => rangeAt_of_block BD1.dg (hSw.block _ BD1.lt)) hHeld ?_
          try simp only [Act.put, List.setIfInBounds_toArray, List.set_cons_zero, List.set_cons_succ, List.getElem_toArray, List.getElem_cons_succ, List.getElem_cons_zero]
          refine wpAnyB_takeW (i := 1) (v := ?_) rfl (by kernel_rfl) (by kernel_rfl) (by kernel_rfl) (fun _ _ _ h => h) (Or.inl ⟨by rfl, ?_⟩) ?_
          rotate_left 1
          · intro w hSw; go_simp <;> with_reducible rfl
          try simp only [Act.put, List.setIfInBounds_toArray, List.set_cons_zero, List.set_cons_succ, List.getElem_toArray, List.getElem_cons_succ, List.getElem_cons_zero]
          refine wpAnyB_takeW (i := 2) (v := ?_) rfl (by kernel_rfl) (by kernel_rfl) (by kernel_rfl) (fun _ _ _ h => h) (Or.inl ⟨by rfl, ?_⟩) ?_
          rotate_left 1
          · intro w hSw; go_simp <;> with_reducible rfl
          try simp only [Act.put, List.setIfInBounds_toArray, List.set_cons_zero, List.set_cons_succ, List.getElem_toArray, List.getElem_cons_succ, List.getElem_cons_zero]
          refine wpAnyB_takeW (i := 3) (v := ?_) rfl (by kernel_rfl) (by kernel_rfl) (by kernel_rfl) (fun _ _ _ h => h) (Or.inl ⟨by rfl, ?_⟩) ?_
          rotate_left 1
          · intro w hSw; go_simp <;> with_reducible rfl
          try simp only [Act.put, List.setIfInBounds_toArray, List.set_cons_zero, List.set_cons_succ, List.getElem_toArray, List.getElem_cons_succ, List.getElem_cons_zero]
          refine wpAnyB_load47 (i := 4) rfl (by kernel_rfl) (by kernel_rfl) (by kernel_rfl) (by kernel_rfl) (e.nb) (3) (sk) (.tmp 132) rfl rfl (fun _ _ _ h => h) (by rfl) (fun w hSw => rangeAt_of_block NE.digR (hSw.block _ NE.lt)) hHeld ?_
          try simp only [Act.put, List.setIfInBounds_toArray, List.set_cons_zero, List.set_cons_succ, List.getElem_toArray, List.getElem_cons_succ, List.getElem_cons_zero]
          refine wpAnyB_step (i := 5) (by kernel_rfl) rfl (fun Kq hKq => ?_)
          go_simp
          refine (hA _).mono ?_
          rintro e0 w2 ⟨rfl, hw2⟩
          dsimp only
          have hb2 : Below w1.heap.size w1 w2 := hHeld.trans (hw2.mono hHeld.size)
          have hHeld := hb2
          refine hKq.out _ _ (fun _ _ => hHeld) ?_
          clear hKq Kq
          try simp only [Act.put, List.setIfInBounds_toArray, List.set_cons_zero, List.set_cons_succ, List.getElem_toArray, List.getElem_cons_succ, List.getElem_cons_zero]
          have BD2 := BD1.below hb2
          have T2 := BD2.dgT
          refine wpAnyB_step (i := 6) (by kernel_rfl) rfl (fun Kq hKq => ?_)
          refine step_st47 rfl rfl (.tmp 9) (.tmp 134) rfl w.heap.size 0 (si + sk) rfl rfl T2 ?_
          refine hKq.out _ _ (fun h => absurd h (by decide)) ?_
          clear hKq Kq
          try simp only [Act.put, List.setIfInBounds_toArray, List.set_cons_zero, List.set_cons_succ, List.getElem_toArray, List.getElem_cons_succ, List.getElem_cons_zero]
          refine wpAnyB_done (by kernel_rfl) ?_ _
          have BD3 : Blk (w2.setCells w.heap.size 0 (dgc (si + sk))) w.heap.size (dgc (si + sk)) 47 := BD2.dgS
          have kX : Kept (· = w.heap.size) w1 (w2.setCells w.heap.size 0 (dgc (si + sk))) := kept_sets (Kept.of_below hb2) _ _
          generalize w2.setCells w.heap.size 0 (dgc (si + sk)) = X at *
          have hsX := kX.size
          have hobw : ob ≠ w.heap.size := by omega
          have hOX : Out base X ob (acc ++ keysOf (es.take i) ++ e.ks) := by
            obtain ⟨g, cap, B, hg, hgI⟩ := hO1.at (by simp [hene])
            have hgD : g ≠ w.heap.size := fun h => by
              subst h
              rcases harr1 _ ⟨_, _, B⟩ with h | h
              · exact hbD (.inr h)
              · omega
            rcases hO1 with ⟨h0, _⟩ | ⟨h0, g', cap', ys', B', p1, p2, BG', p3, p4, p5⟩
            · exact absurd h0 (by simp [hene])
            · have := (B.inj B').1
              simp at this
              obtain ⟨rfl, rfl⟩ := this
              exact .inr ⟨h0, _, _, ys', B'.kept kX hobw, p1, p2, BG'.kept kX hgD, p3, p4, p5⟩
          have hkF : Kept (fun b => b = ob ∨ Arr w ob b) w X := ⟨kX.os.trans (hk1.os.trans hkr.os), kX.tape.trans (hk1.tape.trans hkr.tape), kX.output.trans (hk1.output.trans hkr.output), by omega, fun b hb hn => by
            rw [kX.block b (by omega) (by omega), hk1.block b (by omega) (fun h => ?_), hkr.block b hb hn]
            rcases h with h | h
            · exact hn (.inl h)
            · rcases harr _ h with h | h
              · exact hn (.inr h)
              · omega⟩
          have harrF : ∀ b, Arr X ob b → Arr w ob b ∨ w.heap.size + 1 ≤ b := fun b hb => by
            rcases harr1 b (hb.of_block (kX.block _ (by omega) hobw)) with h | h
            · exact harr b h
            · exact .inr (by omega)
          clear hHeld hA
          have hgt : (0 : Int) < i := by omega
          obtain ⟨g, cap, BG, hg, hgI⟩ := hOX.at (by simp [hene])
          obtain ⟨len1, hlen1⟩ : ∃ len1, Hid ((acc ++ keysOf (es.take i) ++ e.ks).length = len1) := ⟨_, rfl⟩
          rw [hlen1.out] at BG
          have hl1 : len1 = st + ck := by rw [← hlen1.out, List.length_append, hst.out, hck.out]
          have hck0 : 0 < ck := by rw [← hck.out]; exact List.length_pos_iff.2 hene
          have hbnd := Ord.bound (A := es.take i) (f := e) (Z := es.drop (i + 1)) (by
            have : es.take i ++ e :: es.drop (i + 1) = es := by
              obtain ⟨h1, h2⟩ := List.getElem?_eq_some_iff.1 hei
              rw [← h2, ← List.drop_eq_getElem_cons h1, List.take_append_drop]
            rw [this]; exact F.hOrd) (fun h => by have := congrArg List.length h; rw [List.length_take, List.length_nil] at this; omega) hene
          obtain ⟨Y, k0, hY⟩ : ∃ Y k0, keysOf (es.take i) = Y ++ [k0] := by
            rcases List.eq_nil_or_concat (keysOf (es.take i)) with h | ⟨Y, k0, h⟩
            · exfalso
              obtain ⟨f, hf⟩ : ∃ f, es[0]? = some f := ⟨_, List.getElem?_eq_getElem (by omega)⟩
              have hfm : f ∈ es.take i := by
                refine List.mem_iff_getElem?.2 ⟨0, ?_⟩
                rw [List.getElem?_take_of_lt (by omega)]; exact hf
              have := (hk f (List.mem_of_getElem? hf)).2.2.ne_nil (by have := (hk f (List.mem_of_getElem? hf)).1; omega)
              obtain ⟨x, hx⟩ := List.exists_mem_of_ne_nil _ this
              have := mem_keysOf hfm hx
              rw [h] at this
              simp at this
            · exact ⟨Y, k0, by rw [h, List.concat_eq_append]⟩
          have hk0 : k0 < e.bd := hbnd.1 k0 (by rw [hY]; simp)
          obtain ⟨k1, t1, hk1e⟩ : ∃ k1 t1, e.ks = k1 :: t1 := by
            cases h : e.ks with
            | nil => exact absurd h hene
            | cons a t => exact ⟨a, t, rfl⟩
          have hk1b : e.bd ≤ k1 := hbnd.2 k1 (by rw [keysOf_cons, hk1e]; simp)
          have hstp : 0 < st := by rw [← hst.out, hY]; simp only [List.length_append, List.length_cons, List.length_nil]; omega
          have g1 : (acc ++ keysOf (es.take i) ++ e.ks)[st]? = some k1 := by rw [← hst.out, hk1e]; simp
          have hq : acc ++ keysOf (es.take i) = (acc ++ Y) ++ [k0] := by rw [hY, List.append_assoc]
          have hst1 : st - 1 = (acc ++ Y).length := by rw [← hst.out, hq]; simp
          have g0 : (acc ++ keysOf (es.take i) ++ e.ks)[st - 1]? = some k0 := by
            rw [hq, List.append_assoc, hst1, List.getElem?_append_right (Nat.le_refl _), Nat.sub_self]
            rfl
          clear hq hst1
          have R1 := hgI st k1 g1
          have R0 := hgI (st - 1) k0 g0
          rw [Nat.zero_add] at R1 R0
          have KX := (KBr.kept hk1 (hS1 kb hkb1 hkb2)).kept kX (by omega)
          have NX := (Nr.kept hk1 (hS1 nb hnb1 hnb2)).kept kX (by omega)
          have hxi : xs[i]? = some e.bd := by
            have : (xs.take es.length)[i]? = some e.bd := by rw [F.hTake, List.getElem?_map, hei]; rfl
            rwa [List.getElem?_take_of_lt hi] at this
          have RB : X.rangeAt kb (i * 20) (idc e.bd) := by
            have := KX.sub (k := i) (zs := [e.bd]) (by
              obtain ⟨h1, h2⟩ := List.getElem?_eq_some_iff.1 hxi
              rw [List.drop_eq_getElem_cons h1, h2]
              exact ⟨_, rfl⟩)
            simpa [ids] using this
          have hbl : e.bd < 4294967296 := F.hSmall _ (List.mem_of_getElem? hxi)
          have hk1l : k1 < 4294967296 := TE.sorted.2 k1 (by rw [hk1e]; simp)
          have hk0l : k0 < 4294967296 := by omega
          have hc1 : decide (cmpN k1 e.bd < 0) = false := decide_eq_false (cmpN_nonneg (by omega))
          have hc2 : decide (0 ≤ cmpN k0 e.bd) = false := decide_eq_false (by have := cmpN_neg hk0; omega)
          have u1 : X.cell? ⟨ob, 0, none⟩ = some (.slice (some ⟨g, 0, none⟩) len1 cap) := BG.cell 0
          have u2 : X.cell? ⟨nb, 0, none⟩ = some (.slice (some ⟨kb, 0, none⟩) es.length 33) := NX.cell 0
          have i1 : ¬ (st : Int) = 0 := by omega
          have i2 : ¬ (len1 : Int) ≤ st := by omega
          have i3 : (st : Int) < len1 := by omega
          have hwst : IntKind.i64.wrap ((st : Int) - 1) = ((st - 1 : Nat) : Int) := by rw [IntKind.wrap_i64]; omega
          have i4 : ((st - 1 : Nat) : Int) < len1 := by omega
          have hCm : ∀ u v w1, u < 4294967296 → v < 4294967296 → Below X.heap.size X w1 → Calls Yba.prog 12 #[.agg (idc u).toArray, .agg (idc v).toArray] w1 fun e w' => e = .returned (.int .i64 (cmpN u v)) ∧ Below X.heap.size X w' := fun u v w1 h1 h2 h3 => (cmp_calls u v h1 h2 w1).mono fun e w' ⟨he, hw⟩ => ⟨he, h3.trans (hw.mono h3.size)⟩
          have lob : ob < X.heap.size := by omega
          have lnb := NX.lt
          have lkb := KX.lt
          replace hl1 := Hid.mk' hl1
          replace hY := Hid.mk' hY
          replace hk1e := Hid.mk' hk1e
          clear g1 g0 hbnd hwrap
          go_wp2_with fail
          refine wp_region_B (fun w' => w'.cell? ⟨ob, 0, none⟩ = some (.slice (some ⟨g, 0, none⟩) len1 cap) ∧ w'.cell? ⟨nb, 0, none⟩ = some (.slice (some ⟨kb, 0, none⟩) es.length 33) ∧ w'.rangeAt g (st * 20) (idc k1) ∧ w'.rangeAt kb (i * 20) (idc e.bd) ∧ w'.rangeAt g ((st - 1) * 20) (idc k0) ∧ Below X.heap.size X w') (fun _ => true) (by kernel_rfl) (⟨by simpa using u1, by simpa using u2, by simpa using R1, by simpa using RB, by simpa using R0, (Below.refl _ X).drew⟩) (fun hHeld => ?_)
          simp only [List.size_toArray, List.length_cons, List.length_nil, Nat.reduceAdd, Array.replicate_succ, Array.replicate_zero, List.push_toArray, List.append_toArray, List.nil_append, List.cons_append]
          refine wpAnyB_takeW (i := 0) (v := ?_) rfl (by kernel_rfl) (by kernel_rfl) (by kernel_rfl) (fun _ _ _ h => h) (Or.inl ⟨by rfl, ?_⟩) ?_
          rotate_left 1
          · intro w hSw; go_simp <;> with_reducible rfl
          try simp only [Act.put, List.setIfInBounds_toArray, List.set_cons_zero, List.set_cons_succ, List.getElem_toArray, List.getElem_cons_succ, List.getElem_cons_zero]
          refine wpAnyB_takeW (i := 1) (v := ?_) rfl (by kernel_rfl) (by kernel_rfl) (by kernel_rfl) (fun _ _ _ h => h) (Or.inl ⟨by rfl, ?_⟩) ?_
          rotate_left 1
          · intro w hSw; go_simp <;> with_reducible rfl
          try simp only [Act.put, List.setIfInBounds_toArray, List.set_cons_zero, List.set_cons_succ, List.getElem_toArray, List.getElem_cons_succ, List.getElem_cons_zero]
          refine wpAnyB_take (i := 2) (v := ?_) rfl (by kernel_rfl) (by kernel_rfl) (by kernel_rfl) (by kernel_rfl) (fun _ _ _ h => h) (Or.inl ⟨by rfl, ?_⟩) hHeld ?_
          rotate_left 1
          · intro w hSw; (try dsimp only at hSw); obtain ⟨q1, q2, q3⟩ := hSw; go_simp <;> with_reducible rfl
          try simp only [Act.put, List.setIfInBounds_toArray, List.set_cons_zero, List.set_cons_succ, List.getElem_toArray, List.getElem_cons_succ, List.getElem_cons_zero]
          refine wpAnyB_takeW (i := 3) (v := ?_) rfl (by kernel_rfl) (by kernel_rfl) (by kernel_rfl) (fun _ _ _ h => h) (Or.inl ⟨by rfl, ?_⟩) ?_
          rotate_left 1
          · intro w hSw; go_simp <;> with_reducible rfl
          try simp only [Act.put, List.setIfInBounds_toArray, List.set_cons_zero, List.set_cons_succ, List.getElem_toArray, List.getElem_cons_succ, List.getElem_cons_zero]
          refine wpAnyB_takeW (i := 4) (v := ?_) rfl (by kernel_rfl) (by kernel_rfl) (by kernel_rfl) (fun _ _ _ h => h) (Or.inl ⟨by rfl, ?_⟩) ?_
          rotate_left 1
          · intro w hSw; go_simp <;> with_reducible rfl
          try simp only [Act.put, List.setIfInBounds_toArray, List.set_cons_zero, List.set_cons_succ, List.getElem_toArray, List.getElem_cons_succ, List.getElem_cons_zero]
          refine wpAnyB_load30 (i := 5) rfl (by kernel_rfl) (by kernel_rfl) (by kernel_rfl) (by kernel_rfl) (g) (st * 20) (k1) (.tmp 151) rfl rfl (fun _ _ _ h => h) (by rfl) (fun w hSw => hSw.2.2.1) hHeld ?_
          try simp only [Act.put, List.setIfInBounds_toArray, List.set_cons_zero, List.set_cons_succ, List.getElem_toArray, List.getElem_cons_succ, List.getElem_cons_zero]
          refine wpAnyB_takeW (i := 6) (v := ?_) rfl (by kernel_rfl) (by kernel_rfl) (by kernel_rfl) (fun _ _ _ h => h) (Or.inl ⟨by rfl, ?_⟩) ?_
          rotate_left 1
          · intro w hSw; go_simp <;> with_reducible rfl
          try simp only [Act.put, List.setIfInBounds_toArray, List.set_cons_zero, List.set_cons_succ, List.getElem_toArray, List.getElem_cons_succ, List.getElem_cons_zero]
          refine wpAnyB_takeW (i := 7) (v := ?_) rfl (by kernel_rfl) (by kernel_rfl) (by kernel_rfl) (fun _ _ _ h => h) (Or.inl ⟨by rfl, ?_⟩) ?_
          rotate_left 1
          · intro w hSw; go_simp <;> with_reducible rfl
          try simp only [Act.put, List.setIfInBounds_toArray, List.set_cons_zero, List.set_cons_succ, List.getElem_toArray, List.getElem_cons_succ, List.getElem_cons_zero]
          refine wpAnyB_takeW (i := 8) (v := ?_) rfl (by kernel_rfl) (by kernel_rfl) (by kernel_rfl) (fun _ _ _ h => h) (Or.inl ⟨by rfl, ?_⟩) ?_
          rotate_left 1
          · intro w hSw; go_simp <;> with_reducible rfl
          try simp only [Act.put, List.setIfInBounds_toArray, List.set_cons_zero, List.set_cons_succ, List.getElem_toArray, List.getElem_cons_succ, List.getElem_cons_zero]
          refine wpAnyB_take (i := 9) (v := ?_) rfl (by kernel_rfl) (by kernel_rfl) (by kernel_rfl) (by kernel_rfl) (fun _ _ _ h => h) (Or.inl ⟨by rfl, ?_⟩) hHeld ?_
          rotate_left 1
          · intro w hSw; (try dsimp only at hSw); obtain ⟨q1, q2, q3⟩ := hSw; go_simp <;> with_reducible rfl
          try simp only [Act.put, List.setIfInBounds_toArray, List.set_cons_zero, List.set_cons_succ, List.getElem_toArray, List.getElem_cons_succ, List.getElem_cons_zero]
          refine wpAnyB_takeW (i := 10) (v := ?_) rfl (by kernel_rfl) (by kernel_rfl) (by kernel_rfl) (fun _ _ _ h => h) (Or.inl ⟨by rfl, ?_⟩) ?_
          rotate_left 1
          · intro w hSw; go_simp <;> with_reducible rfl
          try simp only [Act.put, List.setIfInBounds_toArray, List.set_cons_zero, List.set_cons_succ, List.getElem_toArray, List.getElem_cons_succ, List.getElem_cons_zero]
          refine wpAnyB_takeW (i := 11) (v := ?_) rfl (by kernel_rfl) (by kernel_rfl) (by kernel_rfl) (fun _ _ _ h => h) (Or.inl ⟨by rfl, ?_⟩) ?_
          rotate_left 1
          · intro w hSw; go_simp <;> with_reducible rfl
          try simp only [Act.put, List.setIfInBounds_toArray, List.set_cons_zero, List.set_cons_succ, List.getElem_toArray, List.getElem_cons_succ, List.getElem_cons_zero]
          refine wpAnyB_load30 (i := 12) rfl (by kernel_rfl) (by kernel_rfl) (by kernel_rfl) (by kernel_rfl) (kb) (i * 20) (e.bd) (.tmp 158) rfl rfl (fun _ _ _ h => h) (by rfl) (fun w hSw => hSw.2.2.2.1) hHeld ?_
          try simp only [Act.put, List.setIfInBounds_toArray, List.set_cons_zero, List.set_cons_succ, List.getElem_toArray, List.getElem_cons_succ, List.getElem_cons_zero]
          refine wpAnyB_step (i := 13) (by kernel_rfl) rfl (fun Kq hKq => ?_)
          go_simp
          refine (hCm k1 e.bd _ hk1l hbl hHeld.2.2.2.2.2).mono ?_
          rintro e0 w3 ⟨rfl, hb3⟩
          dsimp only
          have hHeld := (⟨(hb3.cell (p := ⟨ob, 0, none⟩) lob).trans u1, (hb3.cell (p := ⟨nb, 0, none⟩) lnb).trans u2, rangeAt_of_block R1 (hb3.block _ hg), rangeAt_of_block RB (hb3.block _ lkb), rangeAt_of_block R0 (hb3.block _ hg), hb3⟩ : _ ∧ _ ∧ _ ∧ _ ∧ _ ∧ _)
          refine hKq.out _ _ (fun _ _ => hHeld) ?_
          clear hKq Kq
          try simp only [Act.put, List.setIfInBounds_toArray, List.set_cons_zero, List.set_cons_succ, List.getElem_toArray, List.getElem_cons_succ, List.getElem_cons_zero]
          refine wpAnyB_takeW (i := 14) (v := ?_) rfl (by kernel_rfl) (by kernel_rfl) (by kernel_rfl) (fun _ _ _ h => h) (Or.inl ⟨by rfl, ?_⟩) ?_
          rotate_left 1
          · intro w hSw; go_simp <;> with_reducible rfl
          try simp only [Act.put, List.setIfInBounds_toArray, List.set_cons_zero, List.set_cons_succ, List.getElem_toArray, List.getElem_cons_succ, List.getElem_cons_zero]
          refine wpAnyB_takeW (i := 15) (v := ?_) rfl (by kernel_rfl) (by kernel_rfl) (by kernel_rfl) (fun _ _ _ h => h) (Or.inl ⟨by rfl, ?_⟩) ?_
          rotate_left 1
          · intro w hSw; go_simp <;> with_reducible rfl
          try simp only [Act.put, List.setIfInBounds_toArray, List.set_cons_zero, List.set_cons_succ, List.getElem_toArray, List.getElem_cons_succ, List.getElem_cons_zero]
          refine wpAnyB_takeW (i := 16) (v := ?_) rfl (by kernel_rfl) (by kernel_rfl) (by kernel_rfl) (fun _ _ _ h => h) (Or.inl ⟨by rfl, ?_⟩) ?_
          rotate_left 1
          · intro w hSw; go_simp <;> with_reducible rfl
          try simp only [Act.put, List.setIfInBounds_toArray, List.set_cons_zero, List.set_cons_succ, List.getElem_toArray, List.getElem_cons_succ, List.getElem_cons_zero]
          refine wpAnyB_takeW (i := 17) (v := ?_) rfl (by kernel_rfl) (by kernel_rfl) (by kernel_rfl) (fun _ _ _ h => h) (Or.inl ⟨by rfl, ?_⟩) ?_
          rotate_left 1
          · intro w hSw; go_simp <;> with_reducible rfl
          try simp only [Act.put, List.setIfInBounds_toArray, List.set_cons_zero, List.set_cons_succ, List.getElem_toArray, List.getElem_cons_succ, List.getElem_cons_zero]
          refine wpAnyB_take (i := 18) (v := ?_) rfl (by kernel_rfl) (by kernel_rfl) (by kernel_rfl) (by kernel_rfl) (fun _ _ _ h => h) (Or.inl ⟨by rfl, ?_⟩) hHeld ?_
          rotate_left 1
          · intro w hSw; (try dsimp only at hSw); obtain ⟨q1, q2, q3⟩ := hSw; go_simp <;> with_reducible rfl
          try simp only [Act.put, List.setIfInBounds_toArray, List.set_cons_zero, List.set_cons_succ, List.getElem_toArray, List.getElem_cons_succ, List.getElem_cons_zero]
          refine wpAnyB_takeW (i := 19) (v := ?_) rfl (by kernel_rfl) (by kernel_rfl) (by kernel_rfl) (fun _ _ _ h => h) (Or.inl ⟨by rfl, ?_⟩) ?_
          rotate_left 1
          · intro w hSw; go_simp <;> with_reducible rfl
          try simp only [Act.put, List.setIfInBounds_toArray, List.set_cons_zero, List.set_cons_succ, List.getElem_toArray, List.getElem_cons_succ, List.getElem_cons_zero]
          refine wpAnyB_takeW (i := 20) (v := ?_) rfl (by kernel_rfl) (by kernel_rfl) (by kernel_rfl) (fun _ _ _ h => h) (Or.inl ⟨by rfl, ?_⟩) ?_
          rotate_left 1
          · intro w hSw; go_simp <;> with_reducible rfl
          try simp only [Act.put, List.setIfInBounds_toArray, List.set_cons_zero, List.set_cons_succ, List.getElem_toArray, List.getElem_cons_succ, List.getElem_cons_zero]
          refine wpAnyB_takeW (i := 21) (v := ?_) rfl (by kernel_rfl) (by kernel_rfl) (by kernel_rfl) (fun _ _ _ h => h) (Or.inl ⟨by rfl, ?_⟩) ?_
          rotate_left 1
          · intro w hSw; go_simp <;> with_reducible rfl
          try simp only [Act.put, List.setIfInBounds_toArray, List.set_cons_zero, List.set_cons_succ, List.getElem_toArray, List.getElem_cons_succ, List.getElem_cons_zero]
          refine wpAnyB_load30 (i := 22) rfl (by kernel_rfl) (by kernel_rfl) (by kernel_rfl) (by kernel_rfl) (g) ((st - 1) * 20) (k0) (.tmp 168) rfl rfl (fun _ _ _ h => h) (by rfl) (fun w hSw => hSw.2.2.2.2.1) hHeld ?_
          try simp only [Act.put, List.setIfInBounds_toArray, List.set_cons_zero, List.set_cons_succ, List.getElem_toArray, List.getElem_cons_succ, List.getElem_cons_zero]
          refine wpAnyB_takeW (i := 23) (v := ?_) rfl (by kernel_rfl) (by kernel_rfl) (by kernel_rfl) (fun _ _ _ h => h) (Or.inl ⟨by rfl, ?_⟩) ?_
          rotate_left 1
          · intro w hSw; go_simp <;> with_reducible rfl
          try simp only [Act.put, List.setIfInBounds_toArray, List.set_cons_zero, List.set_cons_succ, List.getElem_toArray, List.getElem_cons_succ, List.getElem_cons_zero]
          refine wpAnyB_takeW (i := 24) (v := ?_) rfl (by kernel_rfl) (by kernel_rfl) (by kernel_rfl) (fun _ _ _ h => h) (Or.inl ⟨by rfl, ?_⟩) ?_
          rotate_left 1
          · intro w hSw; go_simp <;> with_reducible rfl
          try simp only [Act.put, List.setIfInBounds_toArray, List.set_cons_zero, List.set_cons_succ, List.getElem_toArray, List.getElem_cons_succ, List.getElem_cons_zero]
          refine wpAnyB_takeW (i := 25) (v := ?_) rfl (by kernel_rfl) (by kernel_rfl) (by kernel_rfl) (fun _ _ _ h => h) (Or.inl ⟨by rfl, ?_⟩) ?_
          rotate_left 1
          · intro w hSw; go_simp <;> with_reducible rfl
          try simp only [Act.put, List.setIfInBounds_toArray, List.set_cons_zero, List.set_cons_succ, List.getElem_toArray, List.getElem_cons_succ, List.getElem_cons_zero]
          refine wpAnyB_take (i := 26) (v := ?_) rfl (by kernel_rfl) (by kernel_rfl) (by kernel_rfl) (by kernel_rfl) (fun _ _ _ h => h) (Or.inl ⟨by rfl, ?_⟩) hHeld ?_
          rotate_left 1
          · intro w hSw; (try dsimp only at hSw); obtain ⟨q1, q2, q3⟩ := hSw; go_simp <;> with_reducible rfl
          try simp only [Act.put, List.setIfInBounds_toArray, List.set_cons_zero, List.set_cons_succ, List.getElem_toArray, List.getElem_cons_succ, List.getElem_cons_zero]
          refine wpAnyB_takeW (i := 27) (v := ?_) rfl (by kernel_rfl) (by kernel_rfl) (by kernel_rfl) (fun _ _ _ h => h) (Or.inl ⟨by rfl, ?_⟩) ?_
          rotate_left 1
          · intro w hSw; go_simp <;> with_reducible rfl
          try simp only [Act.put, List.setIfInBounds_toArray, List.set_cons_zero, List.set_cons_succ, List.getElem_toArray, List.getElem_cons_succ, List.getElem_cons_zero]
          refine wpAnyB_takeW (i := 28) (v := ?_) rfl (by kernel_rfl) (by kernel_rfl) (by kernel_rfl) (fun _ _ _ h => h) (Or.inl ⟨by rfl, ?_⟩) ?_
          rotate_left 1
          · intro w hSw; go_simp <;> with_reducible rfl
          try simp only [Act.put, List.setIfInBounds_toArray, List.set_cons_zero, List.set_cons_succ, List.getElem_toArray, List.getElem_cons_succ, List.getElem_cons_zero]
          refine wpAnyB_load30 (i := 29) rfl (by kernel_rfl) (by kernel_rfl) (by kernel_rfl) (by kernel_rfl) (kb) (i * 20) (e.bd) (.tmp 175) rfl rfl (fun _ _ _ h => h) (by rfl) (fun w hSw => hSw.2.2.2.1) hHeld ?_
          try simp only [Act.put, List.setIfInBounds_toArray, List.set_cons_zero, List.set_cons_succ, List.getElem_toArray, List.getElem_cons_succ, List.getElem_cons_zero]
          refine wpAnyB_step (i := 30) (by kernel_rfl) rfl (fun Kq hKq => ?_)
          go_simp
          refine (hCm k0 e.bd _ hk0l hbl hHeld.2.2.2.2.2).mono ?_
          rintro e0 w4 ⟨rfl, hb4⟩
          dsimp only
          have hHeld := (⟨(hb4.cell (p := ⟨ob, 0, none⟩) lob).trans u1, (hb4.cell (p := ⟨nb, 0, none⟩) lnb).trans u2, rangeAt_of_block R1 (hb4.block _ hg), rangeAt_of_block RB (hb4.block _ lkb), rangeAt_of_block R0 (hb4.block _ hg), hb4⟩ : _ ∧ _ ∧ _ ∧ _ ∧ _ ∧ _)
          refine hKq.out _ _ (fun _ _ => hHeld) ?_
          clear hKq Kq
          try simp only [Act.put, List.setIfInBounds_toArray, List.set_cons_zero, List.set_cons_succ, List.getElem_toArray, List.getElem_cons_succ, List.getElem_cons_zero]
          refine wpAnyB_takeW (i := 31) (v := ?_) rfl (by kernel_rfl) (by kernel_rfl) (by kernel_rfl) (fun _ _ _ h => h) (Or.inl ⟨by rfl, ?_⟩) ?_
          rotate_left 1
          · intro w hSw; go_simp <;> with_reducible rfl
          try simp only [Act.put, List.setIfInBounds_toArray, List.set_cons_zero, List.set_cons_succ, List.getElem_toArray, List.getElem_cons_succ, List.getElem_cons_zero]
          refine wpAnyB_takeW (i := 32) (v := ?_) rfl (by kernel_rfl) (by kernel_rfl) (by kernel_rfl) (fun _ _ _ h => h) (Or.inl ⟨by rfl, ?_⟩) ?_
          rotate_left 1
          · intro w hSw; go_simp <;> with_reducible rfl
          try simp only [Act.put, List.setIfInBounds_toArray, List.set_cons_zero, List.set_cons_succ, List.getElem_toArray, List.getElem_cons_succ, List.getElem_cons_zero]
          refine wpAnyB_done (by kernel_rfl) ?_ _
          replace BD3 := BD3.below hb4
          replace hOX := hOX.kept (S := fun _ => False) (Kept.of_below hb4) (fun h => h) (fun _ _ _ h => h)
          replace hkF := hkF.trans (Kept.of_below (hb4.mono (Nat.le_refl _)))
          have harrG : ∀ b, Arr w4 ob b → Arr w ob b ∨ w.heap.size + 1 ≤ b := fun b hb => harrF b (hb.of_block (hb4.block _ lob))
          clear hHeld hCm
          go_wp2_with fail
          go_roundg m
          case measure => omega
          case rel =>
            refine ⟨i + 1, by simp, by omega, ?_, .inr ⟨by omega, rfl⟩, ?_, ?_, hkF, harrG⟩
            · rw [← hend.out.1]; rfl
            · rw [← hend.out.2.1]; exact BD3
            · rw [← hend.out.2.2]; exact hOX
end Go.Proofs.Ybulkbqza
