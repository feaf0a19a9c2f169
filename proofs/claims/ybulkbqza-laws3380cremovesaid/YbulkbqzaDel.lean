/-
  Seat b3380a. A block of ids; slices.Delete over ids.
-/
import Derived.Test.YbulkbqzaBsf
import Derived.Deep.RegionLaw
namespace Go.Proofs.Ybulkbqza
open Go.RowKit
set_option linter.unusedVariables false
set_option maxRecDepth 100000
set_option linter.unusedSimpArgs false

/-- The cells of a row of ids. -/
def ids (xs : List Nat) : List Value := xs.flatMap idc
theorem ids_nil : ids [] = [] := rfl
theorem ids_cons (x : Nat) (xs : List Nat) : ids (x :: xs) = idc x ++ ids xs := rfl
theorem ids_append (xs ys : List Nat) : ids (xs ++ ys) = ids xs ++ ids ys := by simp [ids]
theorem ids_length : ∀ xs : List Nat, (ids xs).length = xs.length * 20
  | [] => rfl
  | x :: xs => by rw [ids_cons, List.length_append, idc_length, ids_length xs, List.length_cons]; omega
theorem ids_one (xs : List Nat) : ∀ u ∈ ids xs, u.oneCell' = true := fun u hu => by
  simp only [ids, List.mem_flatMap] at hu
  obtain ⟨x, _, h⟩ := hu
  exact idc_one x u h
theorem ids_split (xs : List Nat) (k : Nat) : ids xs = ids (xs.take k) ++ ids (xs.drop k) := by rw [← ids_append, List.take_append_drop]
theorem ids_take (xs : List Nat) (k : Nat) : (ids xs).take (k * 20) = ids (xs.take k) := by
  rcases Nat.lt_or_ge xs.length k with h | h
  · rw [List.take_of_length_le (by rw [ids_length]; omega), List.take_of_length_le (by omega)]
  · conv => lhs; rw [ids_split xs k]
    rw [List.take_append_of_le_length (by rw [ids_length, List.length_take]; omega), List.take_of_length_le (by rw [ids_length, List.length_take]; omega)]
theorem ids_drop (xs : List Nat) (k : Nat) : (ids xs).drop (k * 20) = ids (xs.drop k) := by
  rcases Nat.lt_or_ge xs.length k with h | h
  · rw [List.drop_eq_nil_of_le (by rw [ids_length]; omega), List.drop_eq_nil_of_le (by omega)]; rfl
  · conv => lhs; rw [ids_split xs k]
    rw [List.drop_append_of_le_length (by rw [ids_length, List.length_take]; omega), List.drop_eq_nil_of_le (by rw [ids_length, List.length_take]; omega), List.nil_append]

theorem ids_splice (xs ys : List Nat) (k : Nat) (h : k + ys.length ≤ xs.length) : splice (ids xs) (k * 20) (ids ys) = ids (xs.take k ++ ys ++ xs.drop (k + ys.length)) := by
  rw [splice_eq _ _ _ (by rw [ids_length, ids_length]; omega), ids_length, ids_take, show k * 20 + ys.length * 20 = (k + ys.length) * 20 by omega, ids_drop, ids_append, ids_append]

/-- The cells from the k-th id on. -/
theorem ids_range {xs : List Nat} {k : Nat} {zs : List Nat} (hz : zs <+: xs.drop k) : ∀ j u, (ids zs)[j]? = some u → (ids xs)[k * 20 + j]? = some u := by
  intro j u hu
  obtain ⟨r, hr⟩ := hz
  have hj := (List.getElem?_eq_some_iff.1 hu).1
  rw [← List.getElem?_drop, ids_drop, ← hr, ids_append, List.getElem?_append_left hj]
  exact hu

theorem Blk.sub {w : World} {b : Nat} {xs : List Nat} {t : TypeId} (h : Blk w b (ids xs) t) {k : Nat} {zs : List Nat} (hz : zs <+: xs.drop k) : w.rangeAt b (k * 20) (ids zs) := h.range (ids_range hz)
theorem Blk.ids {w : World} {b : Nat} {xs : List Nat} {t : TypeId} (h : Blk w b (ids xs) t) (k : Nat) {zs : List Nat} (hz : zs <+: xs.drop k) : Ids w b (k * 20) zs := by
  intro i x hx
  rw [show k * 20 + i * 20 = (k + i) * 20 by omega]
  have : [x] <+: xs.drop (k + i) := by
    obtain ⟨r, hr⟩ := hz
    rw [← List.drop_drop, ← hr, List.drop_append_of_le_length (Nat.le_of_lt (List.getElem?_eq_some_iff.1 hx).1)]
    obtain ⟨h1, rfl⟩ := List.getElem?_eq_some_iff.1 hx
    rw [List.drop_eq_getElem_cons h1]
    exact ⟨_, rfl⟩
  have := h.sub this
  simpa [Go.Proofs.Ybulkbqza.ids] using this
theorem Blk.idsT {w : World} {b : Nat} {xs : List Nat} {t : TypeId} (h : Blk w b (Go.Proofs.Ybulkbqza.ids xs) t) {k n : Nat} (hk : k + n ≤ xs.length) : w.there b (k * 20) (n * 20) := h.there (by rw [ids_length]; omega)
theorem Blk.idsS {w : World} {b : Nat} {xs : List Nat} {t : TypeId} (h : Blk w b (Go.Proofs.Ybulkbqza.ids xs) t) {k : Nat} {ys : List Nat} (hk : k + ys.length ≤ xs.length) :
    Blk (w.setCells b (k * 20) (Go.Proofs.Ybulkbqza.ids ys)) b (Go.Proofs.Ybulkbqza.ids (xs.take k ++ ys ++ xs.drop (k + ys.length))) t := by
  have := h.setCells (vs := Go.Proofs.Ybulkbqza.ids ys) (o := k * 20)
  rwa [ids_splice _ _ _ hk] at this

theorem info30_parts : ∃ i0, Yba.prog.info? 30 = some i0 ∧ i0.size = 20 ∧ i0.bytes = 20 ∧ i0.zero = some (.agg (idc 0).toArray) := by
  have h : (Yba.prog.info? 30).map (fun i => (i.size, i.bytes, i.zero)) = some (20, 20, some (.agg (idc 0).toArray)) := by kernel_rfl
  cases e : Yba.prog.info? 30 with
  | none => simp [e] at h
  | some i => simp [e] at h; exact ⟨i, rfl, h.1, h.2.1, h.2.2⟩

theorem run_clear30 (w : World) (b o c : Nat) (ty : TypeId) (ht : w.there b o 20) : (Builtin.clear_ #[28] ty #[.slice (some ⟨b, o, none⟩) 1 c]).run Yba.prog w = .ok (.tuple #[]) (w.setCells b o (idc 0)) := by
  obtain ⟨i0, hi, h1, h2, hz⟩ := info30_parts
  have := run_storeCells_cells (P := Yba.prog) b o (idc 0) 0 w (fun j hj => by simpa using (ht j (by rw [idc_length] at hj; exact hj)).1) (fun j hj => by simpa using (ht j (by rw [idc_length] at hj; exact hj)).2) (idc_one 0)
  have e : (zeroValue 30).run Yba.prog w = .ok (.agg (idc 0).toArray) w := by simp [zeroValue, typeInfo, hi, hz]
  have e2 : (Builtin.zeroCells (idc 0).toArray 1).toList = idc 0 := by kernel_rfl
  simp only [Nat.add_zero] at this
  simp [Builtin.clear_, run_underlying Yba.underlying28, e, Value.cells, e2, this]

theorem erase_fin (A ys : List Nat) (m : Nat) (hA : A.length = m) : (A ++ ys.drop m).take m ++ [0] ++ (A ++ ys.drop m).drop (m + 1) = A ++ 0 :: ys.drop (m + 1) := by
  subst hA
  rw [List.take_left, List.drop_append, List.drop_eq_nil_of_le (Nat.le_succ _), List.drop_drop, show A.length + (A.length + 1 - A.length) = A.length + 1 by omega]
  simp
theorem Hid.mk' {p : Prop} (h : p) : Hid p := h

theorem del_calls (b n cap i : Nat) (ys : List Nat) (w : World) (hB : Blk w b (ids ys) 30) (hn : n ≤ ys.length) (hcap : cap = ys.length) (hi : i < n) (hlen : ys.length < 1000000) :
    Calls Yba.prog 14 #[.slice (some ⟨b, 0, none⟩) n cap, .int .i64 i, .int .i64 ((i : Int) + 1)] w fun e w' =>
      e = .returned (.slice (some ⟨b, 0, none⟩) (n - 1) cap) ∧ Blk w' b (ids ((ys.take n).eraseIdx i ++ 0 :: ys.drop n)) 30 ∧ Kept (· = b) w w' := by
  have h1 : (i : Int) < n := by omega
  have h2 : (i : Int) + 1 ≤ n := by omega
  have h3 : (n : Int) ≤ cap := by omega
  have h4 : ¬ (i : Int) = (i : Int) + 1 := by omega
  have h5 : (i : Int) ≤ (n : Int) := by omega
  have h6 : (i : Int) ≤ cap := by omega
  have h7 : (0 : Int) ≤ (i : Int) + 1 := by omega
  have h8 : (i : Int) + 1 ≤ cap := by omega
  obtain ⟨i0, hi0, hsz0, _, _⟩ := info30_parts
  have hnl : (ids ((ys.take n).drop (i + 1))).length = (n - (i + 1)) * 20 := by rw [ids_length, List.length_drop, List.length_take]; congr 1; omega
  have key : ∀ j u, (ids ((ys.take n).drop (i + 1)))[j]? = some u → w.drew.cell? ((if cap = i + 1 then ⟨b, 0, none⟩ else ⟨b, (i + 1) * 20, none⟩ : Addr).add j) = some u := by
    intro j u hu
    by_cases hl : cap = i + 1
    · rw [List.drop_eq_nil_of_le (by rw [List.length_take]; omega)] at hu
      simp [ids] at hu
    rw [if_neg hl, Addr.add_mid]
    refine hB.drew.sub (k := i + 1) (zs := (ys.take n).drop (i + 1)) ?_ j u hu
    rw [List.drop_take]
    exact List.take_prefix _ _
  have hsp : ∀ j, j < (ids ((ys.take n).drop (i + 1))).length → (w.drew.cell? ⟨b, 0 + i * 20 + j, none⟩).isSome = true ∧ w.drew.frozen? ⟨b, 0 + i * 20 + j, none⟩ = false := by
    intro j hj
    rw [Nat.zero_add]
    exact hB.drew.idsT (k := i) (n := n - (i + 1)) (by omega) j (by omega)
  have hroom : i + (n - (i + 1)) ≤ cap := by omega
  have hlen1 : (ys.take i ++ (ys.take n).drop (i + 1)).length = n - 1 := by rw [List.length_append, List.length_drop, List.length_take, List.length_take]; omega
  have hB1 : Blk (w.drew.setCells b (0 + i * 20) (ids ((ys.take n).drop (i + 1)))) b (ids ((ys.take i ++ (ys.take n).drop (i + 1)) ++ ys.drop (n - 1))) 30 := by
    have := hB.drew.idsS (k := i) (ys := (ys.take n).drop (i + 1)) (by rw [List.length_drop, List.length_take]; omega)
    rw [List.length_drop, List.length_take, Nat.min_eq_left hn, show i + (n - (i + 1)) = n - 1 by omega] at this
    rw [Nat.zero_add]
    exact this
  have hK1 : Kept (· = b) w (w.drew.setCells b (0 + i * 20) (ids ((ys.take n).drop (i + 1)))) := Kept.setCells (S := (· = b)) (Kept.refl _ w).drew (.inr rfl) _ _
  have hfin : Hid ((ys.take n).eraseIdx i ++ 0 :: ys.drop n = (ys.take i ++ (ys.take n).drop (i + 1) ++ ys.drop (n - 1)).take (n - 1) ++ [0] ++ (ys.take i ++ (ys.take n).drop (i + 1) ++ ys.drop (n - 1)).drop (n - 1 + 1)) := by
    show _ = _
    rw [erase_fin _ ys _ hlen1, List.eraseIdx_eq_take_drop_succ, List.take_take, Nat.min_eq_left (by omega), show n - 1 + 1 = n by omega]
  have hn1 : i + (n - (i + 1)) = n - 1 := by omega
  have g1 : ((n - 1 : Nat) : Int) ≤ n := by omega
  have g2 : (n : Int) ≤ cap := by omega
  have e1 : n - (n - 1) = 1 := by omega
  have e2 : ¬ cap = n - 1 := by omega
  have hls : n - 1 + 1 ≤ (ys.take i ++ (ys.take n).drop (i + 1) ++ ys.drop (n - 1)).length := by rw [List.length_append, List.length_drop, hlen1]; omega
  replace key := Hid.mk' key
  replace hsp := Hid.mk' hsp
  replace hB1 := Hid.mk' hB1
  replace hK1 := Hid.mk' hK1
  replace hnl := Hid.mk' hnl
  replace hls := Hid.mk' hls
  replace hlen1 := Hid.mk' hlen1
  clear hcap hB
  go_enter Yba.func14, Yba.ntmps14
  go_wp2_with fail
  refine wp_region_held_drew (S := fun _ => True) (by kernel_rfl) (trivial) (fun hHeld => ?_)
  simp only [List.size_toArray, List.length_cons, List.length_nil, Nat.reduceAdd, Array.replicate_succ, Array.replicate_zero, List.push_toArray, List.append_toArray, List.nil_append, List.cons_append]
  refine wpAnyH_take (i := 0) (v := ?_) rfl (by kernel_rfl) (by kernel_rfl) (by kernel_rfl) (fun _ _ _ h => h) (Or.inl ⟨by rfl, ?_⟩) (by assumption) ?_
  rotate_left 1
  · intro w hSw; (try dsimp only at hSw); go_simp <;> with_reducible rfl
  try simp only [Act.put, List.setIfInBounds_toArray, List.set_cons_zero, List.set_cons_succ, List.getElem_toArray, List.getElem_cons_succ, List.getElem_cons_zero]
  refine wpAnyH_take (i := 1) (v := ?_) rfl (by kernel_rfl) (by kernel_rfl) (by kernel_rfl) (fun _ _ _ h => h) (Or.inl ⟨by rfl, ?_⟩) (by assumption) ?_
  rotate_left 1
  · intro w hSw; (try dsimp only at hSw); go_simp <;> with_reducible rfl
  try simp only [Act.put, List.setIfInBounds_toArray, List.set_cons_zero, List.set_cons_succ, List.getElem_toArray, List.getElem_cons_succ, List.getElem_cons_zero]
  refine wpAnyH_take (i := 2) (v := ?_) rfl (by kernel_rfl) (by kernel_rfl) (by kernel_rfl) (fun _ _ _ h => h) (Or.inl ⟨by rfl, ?_⟩) (by assumption) ?_
  rotate_left 1
  · intro w hSw; (try dsimp only at hSw); go_simp <;> with_reducible rfl
  try simp only [Act.put, List.setIfInBounds_toArray, List.set_cons_zero, List.set_cons_succ, List.getElem_toArray, List.getElem_cons_succ, List.getElem_cons_zero]
  refine wpAnyH_take (i := 3) (v := ?_) rfl (by kernel_rfl) (by kernel_rfl) (by kernel_rfl) (fun _ _ _ h => h) (Or.inl ⟨by rfl, ?_⟩) (by assumption) ?_
  rotate_left 1
  · intro w hSw; (try dsimp only at hSw); go_simp <;> with_reducible rfl
  try simp only [Act.put, List.setIfInBounds_toArray, List.set_cons_zero, List.set_cons_succ, List.getElem_toArray, List.getElem_cons_succ, List.getElem_cons_zero]
  refine wpAnyH_take (i := 4) (v := ?_) rfl (by kernel_rfl) (by kernel_rfl) (by kernel_rfl) (fun _ _ _ h => h) (Or.inl ⟨by rfl, ?_⟩) (by assumption) ?_
  rotate_left 1
  · intro w hSw; (try dsimp only at hSw); go_simp <;> with_reducible rfl
  try simp only [Act.put, List.setIfInBounds_toArray, List.set_cons_zero, List.set_cons_succ, List.getElem_toArray, List.getElem_cons_succ, List.getElem_cons_zero]
  refine wpAnyH_take (i := 5) (v := ?_) rfl (by kernel_rfl) (by kernel_rfl) (by kernel_rfl) (fun _ _ _ h => h) (Or.inl ⟨by rfl, ?_⟩) (by assumption) ?_
  rotate_left 1
  · intro w hSw; (try dsimp only at hSw); go_simp <;> with_reducible rfl
  try simp only [Act.put, List.setIfInBounds_toArray, List.set_cons_zero, List.set_cons_succ, List.getElem_toArray, List.getElem_cons_succ, List.getElem_cons_zero]
  refine wpAnyH_ready (rs := [6]) (by kernel_rfl) (by simp) ?_
  refine AllReadyH.cons rfl (fun K hK => ?_) AllReadyH.nil
  refine step_append_room rfl (.tmp 22) (.tmp 25) 28 rfl 30 i0 20 Yba.underlying28 hi0 hsz0 b 0 i cap rfl (if cap = i + 1 then ⟨b, 0, none⟩ else ⟨b, (i + 1) * 20, none⟩) (n - (i + 1)) (cap - (i + 1)) _ ?_ hnl.out key.out (ids_one _) hroom hsp.out ?_
  · show Value.slice _ _ _ = _
    congr 1
    split <;> rfl
  refine hK.out _ _ (trivial) (fun hHeld => ?_)
  clear hK K
  try simp only [Act.put, List.setIfInBounds_toArray, List.set_cons_zero, List.set_cons_succ, List.getElem_toArray, List.getElem_cons_succ, List.getElem_cons_zero]
  refine wpAnyH_take (i := 7) (v := ?_) rfl (by kernel_rfl) (by kernel_rfl) (by kernel_rfl) (fun _ _ _ h => h) (Or.inl ⟨by rfl, ?_⟩) (by assumption) ?_
  rotate_left 1
  · intro w hSw; (try dsimp only at hSw); go_simp <;> with_reducible rfl
  try simp only [Act.put, List.setIfInBounds_toArray, List.set_cons_zero, List.set_cons_succ, List.getElem_toArray, List.getElem_cons_succ, List.getElem_cons_zero]
  refine wpAnyH_done (by kernel_rfl) ?_ _
  generalize w.drew.setCells b (0 + i * 20) (ids ((ys.take n).drop (i + 1))) = W at *
  have T1 : W.there b ((n - 1) * 20) 20 := hB1.out.idsT (k := n - 1) (n := 1) hls.out
  have hB2 : Blk (W.setCells b ((n - 1) * 20) (idc 0)) b (ids ((ys.take i ++ (ys.take n).drop (i + 1) ++ ys.drop (n - 1)).take (n - 1) ++ [0] ++ (ys.take i ++ (ys.take n).drop (i + 1) ++ ys.drop (n - 1)).drop (n - 1 + 1))) 30 := by
    have := hB1.out.idsS (k := n - 1) (ys := [0]) hls.out
    simpa [ids] using this
  have hK2 : Kept (· = b) w (W.setCells b ((n - 1) * 20) (idc 0)) := Kept.setCells (S := (· = b)) hK1.out (.inr rfl) _ _
  clear key hsp hroom hnl hB1 hK1 hls hlen1
  rw [← hfin.out] at hB2
  clear hfin
  rw [hn1]
  generalize (if cap = i + 1 then some (⟨b, 0, none⟩ : Addr) else some (⟨b, (i + 1) * 20, none⟩ : Addr)) = q
  go_wp2_with fail
  rw [run_clear30 W b _ _ _ T1]
  go_wp2_with fail
  go_ret
  exact ⟨rfl, hB2, hK2⟩
end Go.Proofs.Ybulkbqza
