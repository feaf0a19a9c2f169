/-
  Seat b3380a. keyTree: remove, len, digest.
-/
import Derived.Test.YbulkbqzaRemI
namespace Go.Proofs.Ybulkbqza
open Go.RowKit
set_option linter.unusedVariables false
set_option maxRecDepth 100000
set_option linter.unusedSimpArgs false

theorem fill1 (v : Nat) : Instr.fill (fun i => some (i * 20, 20)) (Array.map (fun x => (idc 0)[x % (idc 0).length]?.getD default) (Array.range 20)) [(0, .agg (idc v).toArray)] = some (idc v).toArray := by
  kernel_rfl

theorem run_build1 (v : Nat) (w : World) : (Instr.buildSlice 28 1 #[(0, .agg (idc v).toArray)]).run Yba.prog w = .ok (.slice (some ⟨w.heap.size, 0, none⟩) 1 1) (w.alloc (.cells (idc v).toArray 30)) := by
  obtain ⟨i0, hi, h1, h2, hz⟩ := info30_parts
  have e : ∀ w, (zeroValue 30).run Yba.prog w = .ok (.agg (idc 0).toArray) w := fun w => by simp [zeroValue, typeInfo, hi, hz]
  have e1 : ∀ w, (sizeOf 30).run Yba.prog w = .ok 20 w := fun w => by simp [sizeOf, typeInfo, hi, h1]
  have hf := fill1 v
  simp [Instr.buildSlice, run_underlying Yba.underlying28, e, e1, Value.cells, hf, newRow]

theorem remove_calls : ∀ (d : Nat) (w : World) (nb : Nat) (ks : List Nat) (n : Nat) (own : List Nat) (v : Nat), Tree d 33 33 w nb ks n own → (0 < d → 2 ≤ n) → v < 4294967296 → ks.sum < 18446744073709551616 → ks.length < 1099511627776 →
      Calls Yba.prog 25 #[.pointer (some ⟨nb, 0, none⟩), .agg (idc v).toArray, .agg (dgc v).toArray, .func (.func 10) #[] #[]] w fun e w' => e = .returned (.bool (decide (v ∈ ks))) ∧ RemOut d w w' nb ks v n own
  | 0, w, nb, ks, n, own, v, T, _, hv, hs, _ => remove_leaf w nb ks n own v T hv hs
  | d + 1, w, nb, ks, n, own, v, T, h2, hv, hs, hc => remove_inner d (fun w nb ks n own v T h2 hv hs hc => remove_calls d w nb ks n own v T (fun _ => h2) hv hs hc) w nb ks n own v T (h2 (Nat.succ_pos _)) hv hs hc
theorem step_build1 {ops : Array Oper} {o : Oper} {a : Act} {w : World} {K : Act → World → Prop} {Q : Exit → Act → World → Prop} {E : Prop} (hg : o.guard = none) (x : Operand) (ho : o.op = Op.buildSlice 28 1 #[(0, x)]) (v : Nat) (hx : a.eval x = .agg (idc v).toArray)
    (h : ∀ w', Blk w' w.heap.size (idc v) 30 → Below w.heap.size w w' → K (a.put o.dst (.slice (some ⟨w.heap.size, 0, none⟩) 1 1)) w') :
    if Region.wanted o (yielded ops a.tmps) = true then Oper.wp Yba.prog o a w K Q else E := by
  have hw : Region.wanted o (yielded ops a.tmps) = true := by simp [Region.wanted, hg]
  rw [if_pos hw]
  have hK' := h _ (Blk.new w _ _) ((Below.refl _ w).alloc (Nat.le_refl _) _)
  unfold Oper.wp
  simp [execOp, ho, hx, run_build1]
  exact hK'

def fn10 : Value := .func (.func 10) #[] #[]
/-- A keyTree of the keys ks at block tb, its nodes the blocks own. -/
def KT (w : World) (tb : Nat) (ks : List Nat) (own : List Nat) : Prop :=
  tb ∉ own ∧ tb < w.heap.size ∧ ((ks = [] ∧ own = [] ∧ Blk w tb [.pointer none, .func (.func 10) #[] #[]] 36) ∨
    ∃ d nb n, d < 1000 ∧ Blk w tb [.pointer (some ⟨nb, 0, none⟩), .func (.func 10) #[] #[]] 36 ∧ Tree d 33 33 w nb ks n own ∧ (0 < d → 2 ≤ n))

theorem kremove_nil (w : World) (tb v : Nat) (B : Blk w tb [.pointer none, .func (.func 10) #[] #[]] 36) :
    Calls Yba.prog 13 #[.pointer (some ⟨tb, 0, none⟩), .agg (idc v).toArray] w fun e w' => e = .returned (.bool false) ∧ Below w.heap.size w w' := by
  have c1 : ∀ o, (w.alloc o).cell? ⟨tb, 0, none⟩ = some (.pointer none) := fun o => (B.alloc o).cell 0
  go_enter Yba.func13, Yba.ntmps13
  go_wp2_with fail
  go_ret
  exact ⟨rfl, (Below.refl _ w).alloc (Nat.le_refl _) _⟩

set_option maxHeartbeats 1000000 in
theorem kremove (w : World) (tb d nb n v : Nat) (ks own : List Nat) (hd : d < 1000) (B : Blk w tb [.pointer (some ⟨nb, 0, none⟩), .func (.func 10) #[] #[]] 36) (T : Tree d 33 33 w nb ks n own) (h2 : 0 < d → 2 ≤ n) (htb : tb ∉ own) (hv : v < 4294967296) (hsum : ks.sum < 18446744073709551616) (hcnt : ks.length < 1099511627776) :
    Calls Yba.prog 13 #[.pointer (some ⟨tb, 0, none⟩), .agg (idc v).toArray] w fun e w' => e = .returned (.bool (decide (v ∈ ks))) ∧ ∃ own', KT w' tb (ks.erase v) own' ∧ (∀ x ∈ own', x ∈ own ∨ w.heap.size ≤ x) ∧ Kept (fun b => b = tb ∨ b ∈ own) w w' := by
  have c1 : ∀ o, (w.alloc o).cell? ⟨tb, 0, none⟩ = some (.pointer (some ⟨nb, 0, none⟩)) := fun o => (B.alloc o).cell 0
  have hlt := T.lt
  have htw := B.lt
  go_enter Yba.func13, Yba.ntmps13
  go_wp2_with fail
  have BV : Blk (w.alloc (.cells (idc v).toArray 30)) w.heap.size (idc v) 30 := Blk.new w _ 30
  have hb : Below w.heap.size w (w.alloc (.cells (idc v).toArray 30)) := (Below.refl _ w).alloc (Nat.le_refl _) _
  generalize w.alloc (.cells (idc v).toArray 30) = wr at *
  clear c1
  have BT := B.below hb
  have y1 : wr.cell? ⟨tb, 0, none⟩ = some (.pointer (some ⟨nb, 0, none⟩)) := BT.cell 0
  have y2 : wr.cell? ⟨tb, 1, none⟩ = some (.func (.func 10) #[] #[]) := BT.cell 1
  have hIH := fun w1 (h1 : Below wr.heap.size wr w1) => remove_calls d w1 nb ks n own v ((T.below hb).below h1) h2 hv hsum hcnt
  refine wp_region_B (fun w' => w'.cell? ⟨tb, 0, none⟩ = some (.pointer (some ⟨nb, 0, none⟩)) ∧ w'.cell? ⟨tb, 1, none⟩ = some (.func (.func 10) #[] #[]) ∧ w'.rangeAt w.heap.size 0 (idc v)) (fun _ => true) (by kernel_rfl) (⟨by simpa using y1, by simpa using y2, by simpa using BV.id⟩) (fun hHeld => ?_)
  simp only [List.size_toArray, List.length_cons, List.length_nil, Nat.reduceAdd, Array.replicate_succ, Array.replicate_zero, List.push_toArray, List.append_toArray, List.nil_append, List.cons_append]
  refine wpAnyB_takeW (i := 0) (v := ?_) rfl (by kernel_rfl) (by kernel_rfl) (by kernel_rfl) (fun _ _ _ h => h) (Or.inl ⟨by rfl, ?_⟩) ?_
  rotate_left 1
  · intro w hSw; go_simp <;> with_reducible rfl
  try simp only [Act.put, List.setIfInBounds_toArray, List.set_cons_zero, List.set_cons_succ, List.getElem_toArray, List.getElem_cons_succ, List.getElem_cons_zero]
  refine wpAnyB_takeW (i := 1) (v := ?_) rfl (by kernel_rfl) (by kernel_rfl) (by kernel_rfl) (fun _ _ _ h => h) (Or.inl ⟨by rfl, ?_⟩) ?_
  rotate_left 1
  · intro w hSw; go_simp <;> with_reducible rfl
  try simp only [Act.put, List.setIfInBounds_toArray, List.set_cons_zero, List.set_cons_succ, List.getElem_toArray, List.getElem_cons_succ, List.getElem_cons_zero]
  refine wpAnyB_takeW (i := 2) (v := ?_) rfl (by kernel_rfl) (by kernel_rfl) (by kernel_rfl) (fun _ _ _ h => h) (Or.inl ⟨by rfl, ?_⟩) ?_
  rotate_left 1
  · intro w hSw; go_simp <;> with_reducible rfl
  try simp only [Act.put, List.setIfInBounds_toArray, List.set_cons_zero, List.set_cons_succ, List.getElem_toArray, List.getElem_cons_succ, List.getElem_cons_zero]
  refine wpAnyB_take (i := 3) (v := ?_) rfl (by kernel_rfl) (by kernel_rfl) (by kernel_rfl) (by kernel_rfl) (fun _ _ _ h => h) (Or.inl ⟨by rfl, ?_⟩) hHeld ?_
  rotate_left 1
  · intro w hSw; (try dsimp only at hSw); obtain ⟨q1, q2, q3⟩ := hSw; go_simp <;> with_reducible rfl
  try simp only [Act.put, List.setIfInBounds_toArray, List.set_cons_zero, List.set_cons_succ, List.getElem_toArray, List.getElem_cons_succ, List.getElem_cons_zero]
  refine wpAnyB_load30 (i := 4) rfl (by kernel_rfl) (by kernel_rfl) (by kernel_rfl) (by kernel_rfl) (w.heap.size) (0) (v) (.tmp 3) rfl rfl (fun _ _ _ h => h) (by rfl) (fun w hSw => hSw.2.2) hHeld ?_
  try simp only [Act.put, List.setIfInBounds_toArray, List.set_cons_zero, List.set_cons_succ, List.getElem_toArray, List.getElem_cons_succ, List.getElem_cons_zero]
  refine wpAnyB_takeW (i := 5) (v := ?_) rfl (by kernel_rfl) (by kernel_rfl) (by kernel_rfl) (fun _ _ _ h => h) (Or.inl ⟨by rfl, ?_⟩) ?_
  rotate_left 1
  · intro w hSw; go_simp <;> with_reducible rfl
  try simp only [Act.put, List.setIfInBounds_toArray, List.set_cons_zero, List.set_cons_succ, List.getElem_toArray, List.getElem_cons_succ, List.getElem_cons_zero]
  refine wpAnyB_takeW (i := 6) (v := ?_) rfl (by kernel_rfl) (by kernel_rfl) (by kernel_rfl) (fun _ _ _ h => h) (Or.inl ⟨by rfl, ?_⟩) ?_
  rotate_left 1
  · intro w hSw; go_simp <;> with_reducible rfl
  try simp only [Act.put, List.setIfInBounds_toArray, List.set_cons_zero, List.set_cons_succ, List.getElem_toArray, List.getElem_cons_succ, List.getElem_cons_zero]
  refine wpAnyB_takeW (i := 7) (v := ?_) rfl (by kernel_rfl) (by kernel_rfl) (by kernel_rfl) (fun _ _ _ h => h) (Or.inl ⟨by rfl, ?_⟩) ?_
  rotate_left 1
  · intro w hSw; go_simp <;> with_reducible rfl
  try simp only [Act.put, List.setIfInBounds_toArray, List.set_cons_zero, List.set_cons_succ, List.getElem_toArray, List.getElem_cons_succ, List.getElem_cons_zero]
  refine wpAnyB_take (i := 8) (v := ?_) rfl (by kernel_rfl) (by kernel_rfl) (by kernel_rfl) (by kernel_rfl) (fun _ _ _ h => h) (Or.inl ⟨by rfl, ?_⟩) hHeld ?_
  rotate_left 1
  · intro w hSw; (try dsimp only at hSw); obtain ⟨q1, q2, q3⟩ := hSw; go_simp <;> with_reducible rfl
  try simp only [Act.put, List.setIfInBounds_toArray, List.set_cons_zero, List.set_cons_succ, List.getElem_toArray, List.getElem_cons_succ, List.getElem_cons_zero]
  refine wpAnyB_load30 (i := 9) rfl (by kernel_rfl) (by kernel_rfl) (by kernel_rfl) (by kernel_rfl) (w.heap.size) (0) (v) (.tmp 3) rfl rfl (fun _ _ _ h => h) (by rfl) (fun w hSw => hSw.2.2) hHeld ?_
  try simp only [Act.put, List.setIfInBounds_toArray, List.set_cons_zero, List.set_cons_succ, List.getElem_toArray, List.getElem_cons_succ, List.getElem_cons_zero]
  refine wpAnyB_takeW (i := 12) (v := ?_) rfl (by kernel_rfl) (by kernel_rfl) (by kernel_rfl) (fun _ _ _ h => h) (Or.inl ⟨by rfl, ?_⟩) ?_
  rotate_left 1
  · intro w hSw; go_simp <;> with_reducible rfl
  try simp only [Act.put, List.setIfInBounds_toArray, List.set_cons_zero, List.set_cons_succ, List.getElem_toArray, List.getElem_cons_succ, List.getElem_cons_zero]
  refine wpAnyB_takeW (i := 13) (v := ?_) rfl (by kernel_rfl) (by kernel_rfl) (by kernel_rfl) (fun _ _ _ h => h) (Or.inl ⟨by rfl, ?_⟩) ?_
  rotate_left 1
  · intro w hSw; go_simp <;> with_reducible rfl
  try simp only [Act.put, List.setIfInBounds_toArray, List.set_cons_zero, List.set_cons_succ, List.getElem_toArray, List.getElem_cons_succ, List.getElem_cons_zero]
  refine wpAnyB_takeW (i := 14) (v := ?_) rfl (by kernel_rfl) (by kernel_rfl) (by kernel_rfl) (fun _ _ _ h => h) (Or.inl ⟨by rfl, ?_⟩) ?_
  rotate_left 1
  · intro w hSw; go_simp <;> with_reducible rfl
  try simp only [Act.put, List.setIfInBounds_toArray, List.set_cons_zero, List.set_cons_succ, List.getElem_toArray, List.getElem_cons_succ, List.getElem_cons_zero]
  refine wpAnyB_take (i := 15) (v := ?_) rfl (by kernel_rfl) (by kernel_rfl) (by kernel_rfl) (by kernel_rfl) (fun _ _ _ h => h) (Or.inl ⟨by rfl, ?_⟩) hHeld ?_
  rotate_left 1
  · intro w hSw; (try dsimp only at hSw); obtain ⟨q1, q2, q3⟩ := hSw; go_simp <;> with_reducible rfl
  try simp only [Act.put, List.setIfInBounds_toArray, List.set_cons_zero, List.set_cons_succ, List.getElem_toArray, List.getElem_cons_succ, List.getElem_cons_zero]
  refine wpAnyB_step (i := 10) (by kernel_rfl) rfl (fun Kq hKq => ?_)
  refine step_build1 rfl (.tmp 20) rfl v rfl ?_
  intro w1 BS b1
  have hb1 : Below wr.heap.size wr w1 := (Below.refl _ wr).drew.trans b1
  have hHeld := (⟨(hb1.cell (p := ⟨tb, 0, none⟩) BT.lt).trans y1, (hb1.cell (p := ⟨tb, 1, none⟩) BT.lt).trans y2, rangeAt_of_block BV.id (hb1.block _ BV.lt)⟩ : _ ∧ _ ∧ _)
  refine hKq.out _ _ (fun _ _ => hHeld) ?_
  clear hKq Kq
  try simp only [Act.put, List.setIfInBounds_toArray, List.set_cons_zero, List.set_cons_succ, List.getElem_toArray, List.getElem_cons_succ, List.getElem_cons_zero]
  refine wpAnyB_step (i := 11) (by kernel_rfl) rfl (fun Kq hKq => ?_)
  go_simp
  have hcs := csum_calls (some ⟨wr.heap.size, 0, none⟩) [v] 1 w1 (.inr ⟨wr.heap.size, 0, rfl, BS.lt, fun k x hx => by
      have : k = 0 ∧ x = v := by cases k with | zero => (simp at hx; exact ⟨rfl, hx.symm⟩) | succ k => simp at hx
      obtain ⟨rfl, rfl⟩ := this
      simpa using BS.id⟩) (by simpa using hv) (by simp; omega) (by simp)
  simp only [List.length_cons, List.length_nil, List.sum_cons, List.sum_nil, Nat.add_zero, Nat.zero_add] at hcs
  refine hcs.mono ?_
  rintro e w2 ⟨rfl, hw2⟩
  dsimp only
  have hbs : Below wr.heap.size wr w2 := hb1.trans (hw2.mono hb1.size)
  have hHeld := (⟨(hbs.cell (p := ⟨tb, 0, none⟩) BT.lt).trans y1, (hbs.cell (p := ⟨tb, 1, none⟩) BT.lt).trans y2, rangeAt_of_block BV.id (hbs.block _ BV.lt)⟩ : _ ∧ _ ∧ _)
  refine hKq.out _ _ (fun _ _ => hHeld) ?_
  clear hKq Kq
  try simp only [Act.put, List.setIfInBounds_toArray, List.set_cons_zero, List.set_cons_succ, List.getElem_toArray, List.getElem_cons_succ, List.getElem_cons_zero]
  refine wpAnyB_step (i := 16) (by kernel_rfl) rfl (fun Kq hKq => ?_)
  go_simp
  refine (hIH _ hbs).mono ?_
  rintro e0 w3 ⟨rfl, hrem⟩
  dsimp only
  obtain ⟨m1, own1, T1, hm1a, hm1b, hown1, hkept1, hbel1⟩ := hrem
  have hkr : Kept (· ∈ own) wr w3 := (Kept.of_below hbs).trans hkept1
  have hHeld := (⟨(hkr.cell (p := ⟨tb, 0, none⟩) BT.lt htb).trans y1, (hkr.cell (p := ⟨tb, 1, none⟩) BT.lt htb).trans y2, rangeAt_of_block BV.id (hkr.block _ BV.lt (fun h => by have := hlt _ h; omega))⟩ : _ ∧ _ ∧ _)
  refine hKq.out _ _ (fun _ _ => hHeld) ?_
  clear hKq Kq
  try simp only [Act.put, List.setIfInBounds_toArray, List.set_cons_zero, List.set_cons_succ, List.getElem_toArray, List.getElem_cons_succ, List.getElem_cons_zero]
  refine wpAnyB_takeW (i := 17) (v := ?_) rfl (by kernel_rfl) (by kernel_rfl) (by kernel_rfl) (fun _ _ _ h => h) (Or.inl ⟨by rfl, ?_⟩) ?_
  rotate_left 1
  · intro w hSw; go_simp <;> with_reducible rfl
  try simp only [Act.put, List.setIfInBounds_toArray, List.set_cons_zero, List.set_cons_succ, List.getElem_toArray, List.getElem_cons_succ, List.getElem_cons_zero]
  refine wpAnyB_done (by kernel_rfl) ?_ _
  have kw : Kept (· ∈ own) w w3 := (Kept.of_below hb).trans hkr
  replace BT := BT.kept hkr htb
  obtain ⟨hnbo, kb1, q1, xs1, _, NE, _⟩ := T1.node
  have z1 : w3.cell? ⟨tb, 0, none⟩ = some (.pointer (some ⟨nb, 0, none⟩)) := BT.cell 0
  have hsz : w.heap.size ≤ wr.heap.size := hb.size
  have hown2 : ∀ x ∈ own1, x ∈ own ∨ w.heap.size ≤ x := fun x hx => by
    rcases hown1 x hx with h | h
    · exact .inl h
    · exact .inr (Nat.le_trans hsz (Nat.le_trans hbs.size h))
  have htb1 : tb ∉ own1 := fun h => by
    rcases hown2 tb h with h | h
    · exact htb h
    · omega
  clear hIH y1 y2 hHeld
  cases d with
  | zero =>
    obtain ⟨kb, xs, F⟩ := T1
    have z2 : w3.cell? ⟨nb, 1, none⟩ = some (.slice none 0 0) := F.hNode.cell 1
    generalize hgm : decide (v ∈ ks) = mm at *
    go_wp2_with fail
    go_ret
    exact ⟨by rw [hgm]; rfl, own1, ⟨htb1, BT.lt, .inr ⟨0, nb, m1, by decide, BT, ⟨kb, xs, F⟩, fun h => absurd h (Nat.lt_irrefl _)⟩⟩, hown2, kw.mono (fun b _ h => .inr h)⟩
  | succ d =>
    obtain ⟨kb, cb, xs, ps, es, F, hkk⟩ := T1
    have z2 : w3.cell? ⟨nb, 1, none⟩ = some (.slice (some ⟨cb, 0, none⟩) m1 33) := F.hNode.cell 1
    have hpos := F.hPos
    generalize hgm : decide (v ∈ ks) = mm at *
    by_cases hone : m1 = 1
    · subst hone
      obtain ⟨e, he⟩ : ∃ e, es = [e] := List.length_eq_one_iff.1 F.hN.symm
      have hps0 : ps[0]? = some (ptr e.nb) := by
        have := F.hTakeP
        rw [he] at this
        have h0 : (ps.take 1)[0]? = some (ptr e.nb) := by rw [this]; rfl
        rwa [List.getElem?_take_of_lt (by omega)] at h0
      have z3 : w3.cell? ⟨cb, 0, none⟩ = some (.pointer (some ⟨e.nb, 0, none⟩)) := by rw [F.hKids.cell]; exact hps0
      have fz := BT.frozen 0
      go_wp2_with fail
      go_ret
      have hke := hkk e (by rw [he]; simp)
      have hsub : ∀ x ∈ e.own, x ∈ own1 := fun x hx => by rw [F.hOwn, he]; simp [ownOf, hx]
      have kS : Kept (· = tb) w3 (w3.setCell ⟨tb, 0, none⟩ (.pointer (some ⟨e.nb, 0, none⟩))) := kept_set (Kept.refl _ w3) _ _
      have BT2 : Blk (w3.setCell ⟨tb, 0, none⟩ (.pointer (some ⟨e.nb, 0, none⟩))) tb [.pointer (some ⟨e.nb, 0, none⟩), .func (.func 10) #[] #[]] 36 := BT.set 0 _
      refine ⟨by rw [hgm]; rfl, e.own, ⟨fun h => htb1 (hsub tb h), BT2.lt, .inr ⟨d, e.nb, e.n, by omega, BT2, ?_, fun _ => by have := hke.1; omega⟩⟩, fun x hx => hown2 x (hsub x hx), (kw.mono (fun b _ h => .inr h)).trans (kS.mono (fun b _ h => .inl h))⟩
      have hks : ks.erase v = e.ks := by rw [F.hKs, he]; simp [keysOf]
      rw [hks]
      exact hke.2.2.kept kS (fun b hb e => htb1 (by rw [← e]; exact hsub b hb))
    · have hone' : ¬ (m1 : Int) = 1 := by omega
      go_wp2_with fail
      go_ret
      exact ⟨by rw [hgm]; rfl, own1, ⟨htb1, BT.lt, .inr ⟨d + 1, nb, m1, hd, BT, ⟨kb, cb, xs, ps, es, F, hkk⟩, fun _ => by omega⟩⟩, hown2, kw.mono (fun b _ h => .inr h)⟩

theorem klen (w : World) (tb : Nat) (ks own : List Nat) (h : KT w tb ks own) : Calls Yba.prog 15 #[.pointer (some ⟨tb, 0, none⟩)] w fun e w' => e = .returned (.int .i64 (ks.length : Nat)) ∧ w' = w := by
  obtain ⟨_, _, ⟨rfl, _, B⟩ | ⟨d, nb, n, _, B, T, _⟩⟩ := h
  · have c1 : w.cell? ⟨tb, 0, none⟩ = some (.pointer none) := B.cell 0
    go_enter Yba.func15, Yba.ntmps15
    go_wp2_with fail
    go_ret
    exact ⟨rfl, rfl⟩
  · have c1 : w.cell? ⟨tb, 0, none⟩ = some (.pointer (some ⟨nb, 0, none⟩)) := B.cell 0
    obtain ⟨_, kb, q, xs, _, N, _⟩ := T.node
    have c2 : w.cell? ⟨nb, 2, none⟩ = some (.int .i64 (ks.length : Nat)) := N.cell 2
    go_enter Yba.func15, Yba.ntmps15
    go_wp2_with fail
    go_ret
    exact ⟨rfl, rfl⟩

theorem kdigest (w : World) (tb : Nat) (ks own : List Nat) (h : KT w tb ks own) : Calls Yba.prog 16 #[.pointer (some ⟨tb, 0, none⟩)] w fun e w' => e = .returned (.agg (dgc ks.sum).toArray) ∧ Below w.heap.size w w' := by
  obtain ⟨_, _, ⟨rfl, _, B⟩ | ⟨d, nb, n, _, B, T, _⟩⟩ := h
  · have c1 : ∀ o, (w.alloc o).cell? ⟨tb, 0, none⟩ = some (.pointer none) := fun o => (B.alloc o).cell 0
    go_enter Yba.func16, Yba.ntmps16
    go_upto_region 2 with fail
    rw [dgc_zero_lit]
    have B2 : Blk (w.alloc (.cells (dgc 0).toArray 47)) w.heap.size (dgc 0) 47 := Blk.new w _ 47
    have hb : Below w.heap.size w (w.alloc (.cells (dgc 0).toArray 47)) := (Below.refl _ w).alloc (Nat.le_refl _) _
    generalize w.alloc (.cells (dgc 0).toArray 47) = W at *
    have T2 := B2.dgT
    go_wp2_with (first | (refine st47 rfl rfl (.tmp 2) (.tmp 8) rfl w.heap.size 0 0 ?_ ?_ ?_ ?_; rfl; rfl; exact T2))
    exact ret47 rfl w.heap.size 0 rfl B2.dgS rfl ⟨rfl, Below.setCells hb (Nat.le_refl _) _ _⟩
  · have c1 : ∀ o, (w.alloc o).cell? ⟨tb, 0, none⟩ = some (.pointer (some ⟨nb, 0, none⟩)) := fun o => (B.alloc o).cell 0
    obtain ⟨_, kb, q, xs, _, N, _⟩ := T.node
    go_enter Yba.func16, Yba.ntmps16
    go_upto_region 3 with fail
    rw [dgc_zero_lit]
    have B2 : Blk (w.alloc (.cells (dgc 0).toArray 47)) w.heap.size (dgc 0) 47 := Blk.new w _ 47
    have hb : Below w.heap.size w (w.alloc (.cells (dgc 0).toArray 47)) := (Below.refl _ w).alloc (Nat.le_refl _) _
    have c2 := c1 (.cells (dgc 0).toArray 47)
    clear c1
    generalize w.alloc (.cells (dgc 0).toArray 47) = W at *
    have T2 := B2.dgT
    have R := (N.below hb).digR
    go_wp2_with (first | (refine ld47 rfl (.tmp 14) rfl nb 3 ?_ ks.sum ?_ ?_; rfl; exact R) | (refine st47 rfl rfl (.tmp 2) (.tmp 15) rfl w.heap.size 0 ks.sum ?_ ?_ ?_ ?_; rfl; rfl; exact T2))
    exact ret47 rfl w.heap.size ks.sum rfl B2.dgS rfl ⟨rfl, Below.setCells hb (Nat.le_refl _) _ _⟩
end Go.Proofs.Ybulkbqza
