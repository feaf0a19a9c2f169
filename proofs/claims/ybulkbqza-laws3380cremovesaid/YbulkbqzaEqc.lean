/-
  Seat b3380a. slices.Equal, slices.Clone over ids.
-/
import Derived.Test.YbulkbqzaEq
namespace Go.Proofs.Ybulkbqza
open Go.RowKit
set_option linter.unusedVariables false
set_option maxRecDepth 100000
set_option linter.unusedSimpArgs false

theorem equal_calls (a b : Option Addr) (xs : List Nat) (c1 c2 : Nat) (w : World) (h1 : SlIds w a xs) (h2 : SlIds w b xs) (hlen : xs.length < 1000000) :
    Calls Yba.prog 18 #[.slice a xs.length c1, .slice b xs.length c2] w fun e w' => e = .returned (.bool true) ∧ Below w.heap.size w w' := by
  have en := neq30
  go_enter Yba.func18, Yba.ntmps18
  go_wp2_with fail
  go_loopg [13] xs.length (fun k s13 wr => ∃ i : Nat, s13 = .int .i64 i ∧ i + k = xs.length ∧ Below w.heap.size w wr)
  case atStart => exact ⟨0, rfl, by omega, Below.refl _ _⟩
  case round =>
    obtain ⟨i, rfl, hik, hb⟩ := hrel
    cases gk with
    | zero =>
      obtain rfl : i = xs.length := by omega
      go_wp2_with fail
      go_ret
      exact ⟨rfl, hb⟩
    | succ m =>
      have hi : i < xs.length := by omega
      have hlt : (i : Int) < xs.length := by omega
      obtain ⟨g1, o1, rfl, hg1, hI1⟩ : ∃ b off, a = some ⟨b, off, none⟩ ∧ b < w.heap.size ∧ Ids w b off xs := by
        rcases h1 with rfl | h1
        · simp at hi
        · exact h1
      obtain ⟨g2, o2, rfl, hg2, hI2⟩ : ∃ b' off, b = some ⟨b', off, none⟩ ∧ b' < w.heap.size ∧ Ids w b' off xs := by
        rcases h2 with rfl | h2
        · simp at hi
        · exact h2
      obtain ⟨x, hxi⟩ : ∃ x, xs[i]? = some x := ⟨_, List.getElem?_eq_getElem hi⟩
      have R1 := (hI1.below hg1 hb) i x hxi
      have R2 := (hI2.below hg2 hb) i x hxi
      go_wp2_with fail
      refine wp_region_held_drew (S := fun w' => w'.rangeAt g1 (o1 + i * 20) (idc x) ∧ w'.rangeAt g2 (o2 + i * 20) (idc x)) (by kernel_rfl) (⟨by simpa using R1, by simpa using R2⟩) (fun hHeld => ?_)
      simp only [List.size_toArray, List.length_cons, List.length_nil, Nat.reduceAdd, Array.replicate_succ, Array.replicate_zero, List.push_toArray, List.append_toArray, List.nil_append, List.cons_append]
      refine wpAnyH_take (i := 0) (v := ?_) rfl (by kernel_rfl) (by kernel_rfl) (by kernel_rfl) (fun _ _ _ h => h) (Or.inl ⟨by rfl, ?_⟩) (by assumption) ?_
      rotate_left 1
      · intro w hSw; (try dsimp only at hSw); go_simp <;> with_reducible rfl
      try simp only [Act.put, List.setIfInBounds_toArray, List.set_cons_zero, List.set_cons_succ, List.getElem_toArray, List.getElem_cons_succ, List.getElem_cons_zero]
      refine wpAnyH_take (i := 1) (v := ?_) rfl (by kernel_rfl) (by kernel_rfl) (by kernel_rfl) (fun _ _ _ h => h) (Or.inl ⟨by rfl, ?_⟩) (by assumption) ?_
      rotate_left 1
      · intro w hSw; (try dsimp only at hSw); go_simp <;> with_reducible rfl
      try simp only [Act.put, List.setIfInBounds_toArray, List.set_cons_zero, List.set_cons_succ, List.getElem_toArray, List.getElem_cons_succ, List.getElem_cons_zero]
      refine wpAnyH_take (i := 2) (v := ?_) rfl (by kernel_rfl) (by kernel_rfl) (by kernel_rfl) (fun _ _ _ h => h) (Or.inl ⟨by rfl, ?_⟩) (by assumption) ?_
      rotate_left 1
      · intro w hSw; (try dsimp only at hSw); go_simp <;> with_reducible rfl
      try simp only [Act.put, List.setIfInBounds_toArray, List.set_cons_zero, List.set_cons_succ, List.getElem_toArray, List.getElem_cons_succ, List.getElem_cons_zero]
      refine wpAnyH_take (i := 3) rfl (by kernel_rfl) (by kernel_rfl) (by kernel_rfl) (fun _ _ _ h => h) (yieldsIf_load_mid (by rfl) _ _ rfl _ _ rfl (idc x) _ (fun w hSw => hSw.1) Yba.underlying30 rfl (by rw [idc_length]; exact info30)) (by assumption) ?_
      try simp only [Act.put, List.setIfInBounds_toArray, List.set_cons_zero, List.set_cons_succ, List.getElem_toArray, List.getElem_cons_succ, List.getElem_cons_zero]
      refine wpAnyH_take (i := 4) (v := ?_) rfl (by kernel_rfl) (by kernel_rfl) (by kernel_rfl) (fun _ _ _ h => h) (Or.inl ⟨by rfl, ?_⟩) (by assumption) ?_
      rotate_left 1
      · intro w hSw; (try dsimp only at hSw); go_simp <;> with_reducible rfl
      try simp only [Act.put, List.setIfInBounds_toArray, List.set_cons_zero, List.set_cons_succ, List.getElem_toArray, List.getElem_cons_succ, List.getElem_cons_zero]
      refine wpAnyH_take (i := 5) (v := ?_) rfl (by kernel_rfl) (by kernel_rfl) (by kernel_rfl) (fun _ _ _ h => h) (Or.inl ⟨by rfl, ?_⟩) (by assumption) ?_
      rotate_left 1
      · intro w hSw; (try dsimp only at hSw); go_simp <;> with_reducible rfl
      try simp only [Act.put, List.setIfInBounds_toArray, List.set_cons_zero, List.set_cons_succ, List.getElem_toArray, List.getElem_cons_succ, List.getElem_cons_zero]
      refine wpAnyH_take (i := 6) (v := ?_) rfl (by kernel_rfl) (by kernel_rfl) (by kernel_rfl) (fun _ _ _ h => h) (Or.inl ⟨by rfl, ?_⟩) (by assumption) ?_
      rotate_left 1
      · intro w hSw; (try dsimp only at hSw); go_simp <;> with_reducible rfl
      try simp only [Act.put, List.setIfInBounds_toArray, List.set_cons_zero, List.set_cons_succ, List.getElem_toArray, List.getElem_cons_succ, List.getElem_cons_zero]
      refine wpAnyH_take (i := 7) rfl (by kernel_rfl) (by kernel_rfl) (by kernel_rfl) (fun _ _ _ h => h) (yieldsIf_load_mid (by rfl) _ _ rfl _ _ rfl (idc x) _ (fun w hSw => hSw.2) Yba.underlying30 rfl (by rw [idc_length]; exact info30)) (by assumption) ?_
      try simp only [Act.put, List.setIfInBounds_toArray, List.set_cons_zero, List.set_cons_succ, List.getElem_toArray, List.getElem_cons_succ, List.getElem_cons_zero]
      refine wpAnyH_take (i := 8) (v := ?_) rfl (by kernel_rfl) (by kernel_rfl) (by kernel_rfl) (fun _ _ _ h => h) (Or.inl ⟨by rfl, ?_⟩) (by assumption) ?_
      rotate_left 1
      · intro w hSw; (try dsimp only at hSw); go_simp <;> with_reducible rfl
      try simp only [Act.put, List.setIfInBounds_toArray, List.set_cons_zero, List.set_cons_succ, List.getElem_toArray, List.getElem_cons_succ, List.getElem_cons_zero]
      refine wpAnyH_done (by kernel_rfl) ?_ _
      go_wp2_with fail
      go_roundg m
      case measure => omega
      case rel => exact ⟨i + 1, rfl, by omega, hb.drew⟩

theorem equalIn_nil28 (d : Nat) (o : Option Addr) (n c : Nat) (w : World) : (Op.equalIn (d + 1) 28 (.slice o n c) (.slice none 0 0)).run Yba.prog w = .ok o.isNone w := by
  cases o <;> simp [Op.equalIn, run_underlying Yba.underlying28]
theorem eql_nil28 (o : Option Addr) (n c : Nat) (w : World) : (binOp .eql 28 (.slice o n c) (.slice none 0 0)).run Yba.prog w = .ok (.bool o.isNone) w := by
  simp only [binOp]
  have : (Op.equal 28 (.slice o n c) (.slice none 0 0)).run Yba.prog w = .ok o.isNone w := equalIn_nil28 9999 o n c w
  simp [this]

theorem run_build0 (w : World) : (Instr.buildSlice 28 0 #[]).run Yba.prog w = .ok (.slice (some ⟨w.heap.size, 0, none⟩) 0 0) (w.alloc (.cells #[] 30)) := by
  obtain ⟨i0, hi, h1, h2, hz⟩ := info30_parts
  have e1 : ∀ w, (sizeOf 30).run Yba.prog w = .ok 20 w := fun w => by simp [sizeOf, typeInfo, hi, h1]
  simp [Instr.buildSlice, run_underlying Yba.underlying28, e1, Instr.fill, newRow]
  have hr : Array.map (fun _ => (default : Value)) (Array.range 0) = #[] := by apply Array.eq_empty_of_size_eq_zero; simp
  rw [hr]

theorem app_grow30 {ops : Array Oper} {rest : List Oper} {op : Oper} {a : Act} {w : World} {Q : Exit → Act → World → Prop} (hgd : op.guard = none) (s x : Operand) (hop : op.op = Op.call { callee := Callee.builtin Builtin.append, args := #[s, x], argTypes := #[28, 28] })
    (b : Nat) (hs : a.eval s = .slice (some ⟨b, 0, none⟩) 0 0) (ad : Addr) (m c : Nat) (ys : List Nat) (hx : a.eval x = .slice (some ad) m c) (hm : ys.length = m) (hmp : 0 < m) (hc : ∀ j u, (ids ys)[j]? = some u → w.cell? (ad.add j) = some u) (hsm : m < 10000)
    (h : ∀ w' G zs, m ≤ G → Blk w' w.heap.size (ids (ys ++ zs)) 30 → Below w.heap.size w w' → wpList Yba.prog ops Q rest (a.put op.dst (.slice (some ⟨w.heap.size, 0, none⟩) m G)) w') : wpList Yba.prog ops Q (op :: rest) a w := by
  subst hm
  refine wpList_plain hgd fun K hK => ?_
  obtain ⟨i0, hi, h1, h2, hz⟩ := info30_parts
  have hrun := run_append_grow (P := Yba.prog) w 28 op.type 30 i0 _ Yba.underlying28 hi hz ⟨b, 0, none⟩ 0 0 [] (by simp) (fun j v hv => by simp at hv) ad ys.length c (ids ys) (by rw [ids_length, h1]) hc (by omega) (by omega)
    (growslice_fits (by omega) (by rw [h2]; omega))
  have hge := grownCap_ge w (0 + ys.length) 0 30
  generalize grownCap w (0 + ys.length) 0 30 = G at *
  have harr : ([] : List Value).toArray ++ (ids ys).toArray ++ Builtin.zeroCells (Value.agg (idc 0).toArray).cells (G - (0 + ys.length)) = (ids (ys ++ List.replicate (G - (0 + ys.length)) 0)).toArray := by
    rw [zeroIds, ids_append]
    simp
  rw [harr] at hrun
  have hK' := hK _ _ (h _ G (List.replicate (G - (0 + ys.length)) 0) (by omega) (Blk.new w.drew _ 30) ((Below.refl _ w).drew.alloc (Nat.le_refl _) _))
  generalize ys ++ List.replicate (G - (0 + ys.length)) 0 = X at hrun hK'
  unfold Oper.wp
  simp [execOp, hop, resolve, invoke, builtin, hs, hx] at hrun hK' ⊢
  rw [hrun]
  exact hK'

theorem clone_calls (b n cap : Nat) (xs : List Nat) (w : World) (hb : b < w.heap.size) (hI : Ids w b 0 xs) (hn : xs.length = n) (hlen : n < 10000) :
    Calls Yba.prog 9 #[.slice (some ⟨b, 0, none⟩) n cap] w fun e w' => ∃ g cap', e = .returned (.slice (some ⟨g, 0, none⟩) n cap') ∧ w.heap.size ≤ g ∧ g < w'.heap.size ∧ Ids w' g 0 xs ∧ Below w.heap.size w w' ∧ n ≤ cap' := by
  subst hn
  have en := eql_nil28
  have eb := run_build0
  obtain ⟨i0, hi, h1, h2, hz⟩ := info30_parts
  have B1 : Blk (w.alloc (.cells #[] 30)) w.heap.size [] 30 := Blk.new w [] 30
  have hb1 : Below w.heap.size w (w.alloc (.cells #[] 30)) := (Below.refl _ w).alloc (Nat.le_refl _) _
  have hc1 := (hI.below hb hb1).cells
  by_cases hz0 : xs = []
  · subst hz0
    have hl : (loadCells ⟨b, 0, none⟩ 0).run Yba.prog (w.alloc (.cells #[] 30)) = .ok #[] (w.alloc (.cells #[] 30)) := by simpa using run_loadCells_list (P := Yba.prog) (w.alloc (.cells #[] 30)) ⟨b, 0, none⟩ [] (by simp)
    have hrun : (Builtin.append_ #[28, 28] 28 #[.slice (some ⟨w.heap.size, 0, none⟩) 0 0, .slice (some ⟨b, 0, none⟩) 0 cap]).run Yba.prog (w.alloc (.cells #[] 30)) = .ok (.slice (some ⟨w.heap.size, 0, none⟩) 0 0) (w.alloc (.cells #[] 30)) := by
      simp [Builtin.append_, run_underlying Yba.underlying28, sizeOf, typeInfo, hi, Builtin.lenOf, Builtin.firstCells, hl, storeCells]
    go_enter Yba.func9, Yba.ntmps9
    go_wp2_with fail
    go_ret
    exact ⟨_, _, rfl, Nat.le_refl _, by simp, fun i x h => by simp at h, hb1, Nat.le_refl _⟩
  · go_enter Yba.func9, Yba.ntmps9
    go_wp2_with (at_builtin; refine app_grow30 rfl (.tmp 5) (.tmp 6) rfl w.heap.size ?_ ⟨b, 0, none⟩ xs.length cap xs ?_ rfl (List.length_pos_iff.2 hz0) hc1 hlen ?_; rfl; rfl; intro w2 G zs hG BG hb2)
    have hs1 : (w.alloc (.cells #[] 30)).heap.size = w.heap.size + 1 := by simp
    rw [hs1] at BG
    go_ret
    refine ⟨_, _, rfl, by simp, BG.lt, ?_, hb1.trans (hb2.mono (by simp)), hG⟩
    have := BG.ids 0 (zs := xs) (by rw [List.drop_zero]; exact ⟨zs, rfl⟩)
    simpa using this
end Go.Proofs.Ybulkbqza
