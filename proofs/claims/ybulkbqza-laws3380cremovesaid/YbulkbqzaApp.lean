/-
  Seat b3380a. append, whether it grows or not, as a step of a region that draws.
-/
import Derived.Test.YbulkbqzaStep
import Derived.Laws.AppendOwn
namespace Go.Proofs.Ybulkbqza
open Go.RowKit
set_option linter.unusedVariables false

theorem zeroIds (k : Nat) : Builtin.zeroCells (Value.agg (idc 0).toArray).cells k = (ids (List.replicate k 0)).toArray := by
  rw [← made30]
  simp [Builtin.zeroCells, madeCells, Value.cells, idc_length]
theorem zeroPtrs (k : Nat) : Builtin.zeroCells (Value.pointer none).cells k = (List.replicate k (Value.pointer none)).toArray := by
  have := made32 k
  rw [← this]
  simp [Builtin.zeroCells, madeCells, Value.cells]

section
variable {ops : Array Oper} {o : Oper} {a : Act} {w : World} {K : Act → World → Prop} {Q : Exit → Act → World → Prop} {E : Prop}

theorem step_any30 (hg : o.guard = none) (s x : Operand) (hop : o.op = Op.call { callee := Callee.builtin Builtin.append, args := #[s, x], argTypes := #[28, 28] })
    (b n cap : Nat) (hs : a.eval s = .slice (some ⟨b, 0, none⟩) n cap) (ad : Addr) (m c : Nat) (xs ys : List Nat) (hB : Blk w b (ids xs) 30) (hx : a.eval x = .slice (some ad) m c) (hm : ys.length = m)
    (hc : ∀ j u, (ids ys)[j]? = some u → w.cell? (ad.add j) = some u) (hcap : xs.length = cap) (hn : n ≤ cap) (hsm : n + m < 10000)
    (h : ∀ w' b' cap' xs', Blk w' b' (ids xs') 30 → xs'.length = cap' → xs'.take (n + m) = xs.take n ++ ys → n + m ≤ cap' → (b' = b ∨ w.heap.size ≤ b') → Kept (· = b) w w' → (∀ z ∈ xs', z ∈ xs ∨ z ∈ ys ∨ z = 0) → (n + m ≤ cap → cap' = cap) → K (a.put o.dst (.slice (some ⟨b', 0, none⟩) (n + m) cap')) w') :
    if Region.wanted o (yielded ops a.tmps) = true then Oper.wp Yba.prog o a w K Q else E := by
  by_cases hroom : n + m ≤ cap
  · refine step_app30 hg s x hop b n cap hs ad m c xs ys hB hx hm hc hroom hcap.symm fun w' B' k' => h w' b cap _ B' ?_ ?_ hroom (.inl rfl) k' ?_ (fun _ => rfl)
    · rw [List.length_append, List.length_append, List.length_take, List.length_drop]; omega
    · rw [List.take_append_of_le_length (by rw [List.length_append, List.length_take]; omega), List.take_of_length_le (by rw [List.length_append, List.length_take]; omega)]
    · intro z hz
      rcases List.mem_append.1 hz with h1 | h1
      · rcases List.mem_append.1 h1 with h2 | h2
        · exact .inl (List.mem_of_mem_take h2)
        · exact .inr (.inl h2)
      · exact .inl (List.mem_of_mem_drop h1)
  · have hw : Region.wanted o (yielded ops a.tmps) = true := by simp [Region.wanted, hg]
    rw [if_pos hw]
    obtain ⟨i0, hi, h1, h2, hz⟩ := info30_parts
    subst hm
    have hlt : (xs.take n).length = n := by rw [List.length_take]; omega
    have hrun := run_append_grow (P := Yba.prog) w 28 o.type 30 i0 _ Yba.underlying28 hi hz ⟨b, 0, none⟩ n cap (ids (xs.take n)) (by rw [ids_length, hlt, h1])
      (fun j v hv => by rw [Addr.add_mid]; exact hB.sub (k := 0) (zs := xs.take n) (List.take_prefix _ _) j v hv) ad ys.length c (ids ys) (by rw [ids_length, h1]) hc (by omega) (by omega)
      (growslice_fits (by omega) (by rw [h2]; omega))
    have hge := grownCap_ge w (n + ys.length) cap 30
    generalize grownCap w (n + ys.length) cap 30 = G at *
    have harr : (ids (xs.take n)).toArray ++ (ids ys).toArray ++ Builtin.zeroCells (Value.agg (idc 0).toArray).cells (G - (n + ys.length)) = (ids (xs.take n ++ ys ++ List.replicate (G - (n + ys.length)) 0)).toArray := by
      rw [zeroIds, ids_append, ids_append]
      simp
    rw [harr] at hrun
    have hK := h _ w.heap.size G (xs.take n ++ ys ++ List.replicate (G - (n + ys.length)) 0) (Blk.new w.drew _ 30) ?_ ?_ hge (.inr (Nat.le_refl _)) (Kept.of_below ((Below.refl _ w).drew.alloc (Nat.le_refl _) _)) ?_ (fun h => absurd h hroom)
    · generalize xs.take n ++ ys ++ List.replicate (G - (n + ys.length)) 0 = X at hrun hK
      unfold Oper.wp
      simp [execOp, hop, resolve, invoke, builtin, hs, hx, hrun]
      exact hK
    · rw [List.length_append, List.length_append, hlt, List.length_replicate]; omega
    · rw [List.take_append_of_le_length (by rw [List.length_append, hlt]; omega), List.take_of_length_le (by rw [List.length_append, hlt]; omega)]
    · intro z hz
      rcases List.mem_append.1 hz with h1 | h1
      · rcases List.mem_append.1 h1 with h2 | h2
        · exact .inl (List.mem_of_mem_take h2)
        · exact .inr (.inl h2)
      · exact .inr (.inr (List.mem_replicate.1 h1).2)

theorem step_any57 (hg : o.guard = none) (s x : Operand) (hop : o.op = Op.call { callee := Callee.builtin Builtin.append, args := #[s, x], argTypes := #[57, 57] })
    (b n cap : Nat) (hs : a.eval s = .slice (some ⟨b, 0, none⟩) n cap) (ad : Addr) (m c : Nat) (xs ys : List Value) (hB : Blk w b xs 32) (hx : a.eval x = .slice (some ad) m c) (hm : ys.length = m)
    (h1x : ∀ u ∈ xs, u.oneCell' = true) (h1c : ∀ u ∈ ys, u.oneCell' = true)
    (hc : ∀ j u, ys[j]? = some u → w.cell? (ad.add j) = some u) (hcap : xs.length = cap) (hn : n ≤ cap) (hsm : n + m < 10000)
    (h : ∀ w' b' cap' xs', Blk w' b' xs' 32 → xs'.length = cap' → xs'.take (n + m) = xs.take n ++ ys → n + m ≤ cap' → (b' = b ∨ w.heap.size ≤ b') → Kept (· = b) w w' → (∀ u ∈ xs', u.oneCell' = true) → (n + m ≤ cap → cap' = cap) → K (a.put o.dst (.slice (some ⟨b', 0, none⟩) (n + m) cap')) w') :
    if Region.wanted o (yielded ops a.tmps) = true then Oper.wp Yba.prog o a w K Q else E := by
  by_cases hroom : n + m ≤ cap
  · refine step_app57 hg s x hop b n cap hs ad m c xs ys hB hx hm h1c hc hroom hcap.symm fun w' B' k' => h w' b cap _ B' ?_ ?_ hroom (.inl rfl) k' ?_ (fun _ => rfl)
    · rw [List.length_append, List.length_append, List.length_take, List.length_drop]; omega
    · rw [List.take_append_of_le_length (by rw [List.length_append, List.length_take]; omega), List.take_of_length_le (by rw [List.length_append, List.length_take]; omega)]
    · intro z hz
      rcases List.mem_append.1 hz with h1 | h1
      · rcases List.mem_append.1 h1 with h2 | h2
        · exact h1x z (List.mem_of_mem_take h2)
        · exact h1c z h2
      · exact h1x z (List.mem_of_mem_drop h1)
  · have hw : Region.wanted o (yielded ops a.tmps) = true := by simp [Region.wanted, hg]
    rw [if_pos hw]
    obtain ⟨i0, hi, h1, h2, hz⟩ := info32_parts
    subst hm
    have hlt : (xs.take n).length = n := by rw [List.length_take]; omega
    have hrun := run_append_grow (P := Yba.prog) w 57 o.type 32 i0 _ Yba.underlying57 hi hz ⟨b, 0, none⟩ n cap (xs.take n) (by rw [hlt, h1]; omega)
      (fun j v hv => by
        rw [Addr.add_mid, hB.cell, Nat.zero_add]
        rw [List.getElem?_take] at hv
        split at hv
        · exact hv
        · cases hv) ad ys.length c ys (by rw [h1]; omega) hc (by omega) (by omega)
      (growslice_fits (by omega) (by rw [h2]; omega))
    have hge := grownCap_ge w (n + ys.length) cap 32
    generalize grownCap w (n + ys.length) cap 32 = G at *
    have harr : (xs.take n).toArray ++ ys.toArray ++ Builtin.zeroCells (Value.pointer none).cells (G - (n + ys.length)) = (xs.take n ++ ys ++ List.replicate (G - (n + ys.length)) (Value.pointer none)).toArray := by
      rw [zeroPtrs]
      simp
    rw [harr] at hrun
    have hK := h _ w.heap.size G (xs.take n ++ ys ++ List.replicate (G - (n + ys.length)) (Value.pointer none)) (Blk.new w.drew _ 32) ?_ ?_ hge (.inr (Nat.le_refl _)) (Kept.of_below ((Below.refl _ w).drew.alloc (Nat.le_refl _) _)) ?_ (fun h => absurd h hroom)
    · generalize xs.take n ++ ys ++ List.replicate (G - (n + ys.length)) (Value.pointer none) = X at hrun hK
      unfold Oper.wp
      simp [execOp, hop, resolve, invoke, builtin, hs, hx, hrun]
      exact hK
    · rw [List.length_append, List.length_append, hlt, List.length_replicate]; omega
    · rw [List.take_append_of_le_length (by rw [List.length_append, hlt]; omega), List.take_of_length_le (by rw [List.length_append, hlt]; omega)]
    · intro z hz
      rcases List.mem_append.1 hz with h1 | h1
      · rcases List.mem_append.1 h1 with h2 | h2
        · exact h1x z (List.mem_of_mem_take h2)
        · exact h1c z h2
      · rw [(List.mem_replicate.1 h1).2]; rfl

/-- append(nil, nil...). -/
theorem step_nil57 (hg : o.guard = none) (s x : Operand) (hop : o.op = Op.call { callee := Callee.builtin Builtin.append, args := #[s, x], argTypes := #[57, 57] })
    (hs : a.eval s = .slice none 0 0) (hx : a.eval x = .slice none 0 0) (h : K (a.put o.dst (.slice none 0 0)) w) :
    if Region.wanted o (yielded ops a.tmps) = true then Oper.wp Yba.prog o a w K Q else E := by
  have hw : Region.wanted o (yielded ops a.tmps) = true := by simp [Region.wanted, hg]
  rw [if_pos hw]
  obtain ⟨i0, hi, h1, h2, hz⟩ := info32_parts
  have hrun : (Builtin.append_ #[57, 57] o.type #[.slice none 0 0, .slice none 0 0]).run Yba.prog w = .ok (.slice none 0 0) w := by
    simp [Builtin.append_, run_underlying Yba.underlying57, sizeOf, typeInfo, hi, Builtin.lenOf, Builtin.firstCells]
  unfold Oper.wp
  simp [execOp, hop, resolve, invoke, builtin, hs, hx, hrun]
  exact h
end
end Go.Proofs.Ybulkbqza
