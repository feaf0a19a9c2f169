/-
  Seat b3380a. slices.Delete over pointers to nodes.
-/
import Derived.Test.YbulkbqzaDel
namespace Go.Proofs.Ybulkbqza
open Go.RowKit
set_option linter.unusedVariables false
set_option maxRecDepth 100000
set_option linter.unusedSimpArgs false

theorem info32_parts : ∃ i0, Yba.prog.info? 32 = some i0 ∧ i0.size = 1 ∧ i0.bytes = 8 ∧ i0.zero = some (.pointer none) := by
  have h : (Yba.prog.info? 32).map (fun i => (i.size, i.bytes, i.zero)) = some (1, 8, some (.pointer none)) := by kernel_rfl
  cases e : Yba.prog.info? 32 with
  | none => simp [e] at h
  | some i => simp [e] at h; exact ⟨i, rfl, h.1, h.2.1, h.2.2⟩

theorem run_clear32 (w : World) (b o c : Nat) (ty : TypeId) (ht : w.there b o 1) : (Builtin.clear_ #[57] ty #[.slice (some ⟨b, o, none⟩) 1 c]).run Yba.prog w = .ok (.tuple #[]) (w.setCells b o [.pointer none]) := by
  obtain ⟨i0, hi, h1, h2, hz⟩ := info32_parts
  have := run_storeCells_cells (P := Yba.prog) b o [.pointer none] 0 w (fun j hj => by simpa using (ht j (by simpa using hj)).1) (fun j hj => by simpa using (ht j (by simpa using hj)).2) (by simp [Value.oneCell'])
  have e : (zeroValue 32).run Yba.prog w = .ok (.pointer none) w := by simp [zeroValue, typeInfo, hi, hz]
  have e2 : (Builtin.zeroCells #[Value.pointer none] 1).toList = [.pointer none] := by kernel_rfl
  simp only [Nat.add_zero] at this
  simp [Builtin.clear_, run_underlying Yba.underlying57, e, Value.cells, e2, this]

theorem erase_finV (A ys : List Value) (m : Nat) (hA : A.length = m) (z : Value) : (A ++ ys.drop m).take m ++ [z] ++ (A ++ ys.drop m).drop (m + 1) = A ++ z :: ys.drop (m + 1) := by
  subst hA
  rw [List.take_left, List.drop_append, List.drop_eq_nil_of_le (Nat.le_succ _), List.drop_drop, show A.length + (A.length + 1 - A.length) = A.length + 1 by omega]
  simp

theorem delp_calls (b n cap i : Nat) (ys : List Value) (w : World) (hB : Blk w b ys 32) (h1c : ∀ u ∈ ys, u.oneCell' = true) (hn : n ≤ ys.length) (hcap : cap = ys.length) (hi : i < n) (hlen : ys.length < 1000000) :
    Calls Yba.prog 53 #[.slice (some ⟨b, 0, none⟩) n cap, .int .i64 i, .int .i64 ((i : Int) + 1)] w fun e w' =>
      e = .returned (.slice (some ⟨b, 0, none⟩) (n - 1) cap) ∧ Blk w' b ((ys.take n).eraseIdx i ++ .pointer none :: ys.drop n) 32 ∧ Kept (· = b) w w' := by
  have h1 : (i : Int) < n := by omega
  have h2 : (i : Int) + 1 ≤ n := by omega
  have h3 : (n : Int) ≤ cap := by omega
  have h4 : ¬ (i : Int) = (i : Int) + 1 := by omega
  have h5 : (i : Int) ≤ (n : Int) := by omega
  have h6 : (i : Int) ≤ cap := by omega
  have h7 : (0 : Int) ≤ (i : Int) + 1 := by omega
  have h8 : (i : Int) + 1 ≤ cap := by omega
  obtain ⟨i0, hi0, hsz0, _, _⟩ := info32_parts
  have hnl : ((ys.take n).drop (i + 1)).length = (n - (i + 1)) * 1 := by rw [List.length_drop, List.length_take]; omega
  have key : ∀ j u, ((ys.take n).drop (i + 1))[j]? = some u → w.drew.cell? ((if cap = i + 1 then ⟨b, 0, none⟩ else ⟨b, i + 1, none⟩ : Addr).add j) = some u := by
    intro j u hu
    by_cases hl : cap = i + 1
    · rw [List.drop_eq_nil_of_le (by rw [List.length_take]; omega)] at hu
      simp at hu
    rw [if_neg hl, Addr.add_mid, hB.drew.cell]
    rw [List.drop_take, List.getElem?_take] at hu
    split at hu
    · rw [List.getElem?_drop] at hu; exact hu
    · cases hu
  have hsp : ∀ j, j < ((ys.take n).drop (i + 1)).length → (w.drew.cell? ⟨b, 0 + i * 1 + j, none⟩).isSome = true ∧ w.drew.frozen? ⟨b, 0 + i * 1 + j, none⟩ = false := by
    intro j hj
    exact hB.drew.there (o := 0 + i * 1) (n := n - (i + 1)) (by omega) j (by omega)
  have h1d : ∀ u ∈ (ys.take n).drop (i + 1), u.oneCell' = true := fun u hu => h1c u (List.mem_of_mem_take (List.mem_of_mem_drop hu))
  have hroom : i + (n - (i + 1)) ≤ cap := by omega
  have hlen1 : (ys.take i ++ (ys.take n).drop (i + 1)).length = n - 1 := by rw [List.length_append, List.length_drop, List.length_take, List.length_take]; omega
  have hB1 : Blk (w.drew.setCells b (0 + i * 1) ((ys.take n).drop (i + 1))) b ((ys.take i ++ (ys.take n).drop (i + 1)) ++ ys.drop (n - 1)) 32 := by
    have := hB.drew.setCells (o := 0 + i * 1) (vs := (ys.take n).drop (i + 1))
    rw [splice_eq _ _ _ (by rw [List.length_drop, List.length_take]; omega), List.length_drop, List.length_take, Nat.min_eq_left hn, show 0 + i * 1 + (n - (i + 1)) = n - 1 by omega, show 0 + i * 1 = i by omega] at this
    rw [show 0 + i * 1 = i by omega]
    exact this
  have hK1 : Kept (· = b) w (w.drew.setCells b (0 + i * 1) ((ys.take n).drop (i + 1))) := Kept.setCells (S := (· = b)) (Kept.refl _ w).drew (.inr rfl) _ _
  have hfin : Hid ((ys.take n).eraseIdx i ++ .pointer none :: ys.drop n = (ys.take i ++ (ys.take n).drop (i + 1) ++ ys.drop (n - 1)).take (n - 1) ++ [.pointer none] ++ (ys.take i ++ (ys.take n).drop (i + 1) ++ ys.drop (n - 1)).drop (n - 1 + 1)) := by
    show _ = _
    rw [erase_finV _ ys _ hlen1, List.eraseIdx_eq_take_drop_succ, List.take_take, Nat.min_eq_left (by omega), show n - 1 + 1 = n by omega]
  have hn1 : i + (n - (i + 1)) = n - 1 := by omega
  have g1 : ((n - 1 : Nat) : Int) ≤ n := by omega
  have g2 : (n : Int) ≤ cap := by omega
  have e1 : n - (n - 1) = 1 := by omega
  have e2 : ¬ cap = n - 1 := by omega
  have hls : n - 1 + 1 ≤ (ys.take i ++ (ys.take n).drop (i + 1) ++ ys.drop (n - 1)).length := by rw [List.length_append, List.length_drop, hlen1]; omega
  replace key := Hid.mk' key
  replace hsp := Hid.mk' hsp
  replace hB1 := Hid.mk' hB1
  replace hK1 := Hid.mk' hK1
  replace hnl := Hid.mk' hnl
  replace hls := Hid.mk' hls
  replace hlen1 := Hid.mk' hlen1
  replace h1d := Hid.mk' h1d
  clear hcap hB h1c
  go_enter Yba.func53, Yba.ntmps53
  go_wp2_with fail
  refine wp_region_held_drew (S := fun _ => True) (by kernel_rfl) (trivial) (fun hHeld => ?_)
  simp only [List.size_toArray, List.length_cons, List.length_nil, Nat.reduceAdd, Array.replicate_succ, Array.replicate_zero, List.push_toArray, List.append_toArray, List.nil_append, List.cons_append]
  refine wpAnyH_take (i := 0) (v := ?_) rfl (by kernel_rfl) (by kernel_rfl) (by kernel_rfl) (fun _ _ _ h => h) (Or.inl ⟨by rfl, ?_⟩) (by assumption) ?_
  rotate_left 1
  · intro w hSw; (try dsimp only at hSw); go_simp <;> with_reducible rfl
  try simp only [Act.put, List.setIfInBounds_toArray, List.set_cons_zero, List.set_cons_succ, List.getElem_toArray, List.getElem_cons_succ, List.getElem_cons_zero]
  refine wpAnyH_take (i := 1) (v := ?_) rfl (by kernel_rfl) (by kernel_rfl) (by kernel_rfl) (fun _ _ _ h => h) (Or.inl ⟨by rfl, ?_⟩) (by assumption) ?_
  rotate_left 1
  · intro w hSw; (try dsimp only at hSw); go_simp <;> with_reducible rfl
  try simp only [Act.put, List.setIfInBounds_toArray, List.set_cons_zero, List.set_cons_succ, List.getElem_toArray, List.getElem_cons_succ, List.getElem_cons_zero]
  refine wpAnyH_take (i := 2) (v := ?_) rfl (by kernel_rfl) (by kernel_rfl) (by kernel_rfl) (fun _ _ _ h => h) (Or.inl ⟨by rfl, ?_⟩) (by assumption) ?_
  rotate_left 1
  · intro w hSw; (try dsimp only at hSw); go_simp <;> with_reducible rfl
  try simp only [Act.put, List.setIfInBounds_toArray, List.set_cons_zero, List.set_cons_succ, List.getElem_toArray, List.getElem_cons_succ, List.getElem_cons_zero]
  refine wpAnyH_take (i := 3) (v := ?_) rfl (by kernel_rfl) (by kernel_rfl) (by kernel_rfl) (fun _ _ _ h => h) (Or.inl ⟨by rfl, ?_⟩) (by assumption) ?_
  rotate_left 1
  · intro w hSw; (try dsimp only at hSw); go_simp <;> with_reducible rfl
  try simp only [Act.put, List.setIfInBounds_toArray, List.set_cons_zero, List.set_cons_succ, List.getElem_toArray, List.getElem_cons_succ, List.getElem_cons_zero]
  refine wpAnyH_take (i := 4) (v := ?_) rfl (by kernel_rfl) (by kernel_rfl) (by kernel_rfl) (fun _ _ _ h => h) (Or.inl ⟨by rfl, ?_⟩) (by assumption) ?_
  rotate_left 1
  · intro w hSw; (try dsimp only at hSw); go_simp <;> with_reducible rfl
  try simp only [Act.put, List.setIfInBounds_toArray, List.set_cons_zero, List.set_cons_succ, List.getElem_toArray, List.getElem_cons_succ, List.getElem_cons_zero]
  refine wpAnyH_take (i := 5) (v := ?_) rfl (by kernel_rfl) (by kernel_rfl) (by kernel_rfl) (fun _ _ _ h => h) (Or.inl ⟨by rfl, ?_⟩) (by assumption) ?_
  rotate_left 1
  · intro w hSw; (try dsimp only at hSw); go_simp <;> with_reducible rfl
  try simp only [Act.put, List.setIfInBounds_toArray, List.set_cons_zero, List.set_cons_succ, List.getElem_toArray, List.getElem_cons_succ, List.getElem_cons_zero]
  refine wpAnyH_ready (rs := [6]) (by kernel_rfl) (by simp) ?_
  refine AllReadyH.cons rfl (fun K hK => ?_) AllReadyH.nil
  refine step_append_room rfl (.tmp 22) (.tmp 25) 57 rfl 32 i0 1 Yba.underlying57 hi0 hsz0 b 0 i cap rfl (if cap = i + 1 then ⟨b, 0, none⟩ else ⟨b, i + 1, none⟩) (n - (i + 1)) (cap - (i + 1)) _ ?_ hnl.out key.out h1d.out hroom hsp.out ?_
  · show Value.slice _ _ _ = _
    congr 1
    split <;> rfl
  refine hK.out _ _ (trivial) (fun hHeld => ?_)
  clear hK K
  try simp only [Act.put, List.setIfInBounds_toArray, List.set_cons_zero, List.set_cons_succ, List.getElem_toArray, List.getElem_cons_succ, List.getElem_cons_zero]
  refine wpAnyH_take (i := 7) (v := ?_) rfl (by kernel_rfl) (by kernel_rfl) (by kernel_rfl) (fun _ _ _ h => h) (Or.inl ⟨by rfl, ?_⟩) (by assumption) ?_
  rotate_left 1
  · intro w hSw; (try dsimp only at hSw); go_simp <;> with_reducible rfl
  try simp only [Act.put, List.setIfInBounds_toArray, List.set_cons_zero, List.set_cons_succ, List.getElem_toArray, List.getElem_cons_succ, List.getElem_cons_zero]
  refine wpAnyH_done (by kernel_rfl) ?_ _
  generalize w.drew.setCells b (0 + i * 1) ((ys.take n).drop (i + 1)) = W at *
  have T1 : W.there b (n - 1) 1 := hB1.out.there hls.out
  have hB2 : Blk (W.setCells b (n - 1) [.pointer none]) b ((ys.take i ++ (ys.take n).drop (i + 1) ++ ys.drop (n - 1)).take (n - 1) ++ [.pointer none] ++ (ys.take i ++ (ys.take n).drop (i + 1) ++ ys.drop (n - 1)).drop (n - 1 + 1)) 32 := by
    have := hB1.out.setCells (o := n - 1) (vs := [.pointer none])
    rwa [splice_eq _ _ _ hls.out] at this
  have hK2 : Kept (· = b) w (W.setCells b (n - 1) [.pointer none]) := Kept.setCells (S := (· = b)) hK1.out (.inr rfl) _ _
  clear key hsp hroom hnl hB1 hK1 hls hlen1
  rw [← hfin.out] at hB2
  clear hfin
  rw [hn1]
  generalize (if cap = i + 1 then some (⟨b, 0, none⟩ : Addr) else some (⟨b, i + 1, none⟩ : Addr)) = q
  go_wp2_with fail
  rw [run_clear32 W b _ _ _ T1]
  go_wp2_with fail
  go_ret
  exact ⟨rfl, hB2, hK2⟩
end Go.Proofs.Ybulkbqza
