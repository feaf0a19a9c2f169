/-
  Seat b3380a. Laws for the walk of the law: make and append at uint32, a row of uint16, remove whole.
-/
import Derived.Test.YbulkbqzaTof
import Derived.Test.YbulkbqzaEqc
import Derived.Test.YbulkbqzaCpt
import Derived.Test.YbulkbqzaKt
namespace Go.Proofs.Ybulkbqza
open Go.RowKit
set_option linter.unusedVariables false
set_option maxRecDepth 100000
set_option linter.unusedSimpArgs false

theorem info25_parts : ∃ i0, Yba.prog.info? 25 = some i0 ∧ i0.size = 1 ∧ i0.bytes = 4 ∧ i0.zero = some (.int .u32 0) := by
  have h : (Yba.prog.info? 25).map (fun i => (i.size, i.bytes, i.zero)) = some (1, 4, some (.int .u32 0)) := by kernel_rfl
  cases e : Yba.prog.info? 25 with
  | none => simp [e] at h
  | some i => simp [e] at h; exact ⟨i, rfl, h.1, h.2.1, h.2.2⟩
theorem info25_q : ∃ i, Yba.prog.info? 25 = some i ∧ i.size = 1 := by
  obtain ⟨i, h1, h2, _⟩ := info25_parts
  exact ⟨i, h1, h2⟩
theorem made25 (c : Nat) : madeCells (Value.int .u32 0).cells (c * 1) = (List.replicate c (Value.int .u32 0)).toArray := by
  apply Array.ext
  · simp [madeCells]
  · intro i h1 h2
    simp [madeCells, Value.cells, Nat.mod_one]

theorem mk24 {ops : Array Oper} {rest : List Oper} {op : Oper} {a : Act} {w : World} {Q : Exit → Act → World → Prop} (hgd : op.guard = none) (l c : Operand) (ho : op.op = Op.makeSlice 24 l c) (kl kc : IntKind) (L C : Int) (ln n : Nat) (hl : a.eval l = .int kl L) (hc : a.eval c = .int kc C) (eL : L = ln) (eC : C = n) (hln : ln ≤ n) (hn : n < 1000000)
    (h : ∀ w', Blk w' w.heap.size (List.replicate n (Value.int .u32 0)) 25 → Below w.heap.size w w' → w'.heap.size = w.heap.size + 1 → wpList Yba.prog ops Q rest (a.put op.dst (.slice (some ⟨w.heap.size, 0, none⟩) ln n)) w') : wpList Yba.prog ops Q (op :: rest) a w := by
  refine wpList_plain hgd fun K hK => ?_
  obtain ⟨i0, hi, h1, h2, hz⟩ := info25_parts
  subst eL
  subst eC
  have hrun := run_make (P := Yba.prog) w 24 25 i0 _ Yba.underlying24 hi hz kl kc (ln : Int) (n : Int) (by omega) (by omega) (by rw [h2]; omega) (by omega)
  simp only [Int.toNat_natCast, h1, made25] at hrun
  have hK' := hK _ _ (h _ (Blk.new w _ _) ((Below.refl _ w).alloc (Nat.le_refl _) _) (by simp))
  unfold Oper.wp
  simp [execOp, ho, hl, hc, hrun]
  exact hK'

theorem run_build24 (v : Int) (w : World) : (Instr.buildSlice 24 1 #[(0, .int .u32 v)]).run Yba.prog w = .ok (.slice (some ⟨w.heap.size, 0, none⟩) 1 1) (w.alloc (.cells #[.int .u32 v] 25)) := by
  obtain ⟨i0, hi, h1, h2, hz⟩ := info25_parts
  have e : ∀ w, (zeroValue 25).run Yba.prog w = .ok (.int .u32 0) w := fun w => by simp [zeroValue, typeInfo, hi, hz]
  have e1 : ∀ w, (sizeOf 25).run Yba.prog w = .ok 1 w := fun w => by simp [sizeOf, typeInfo, hi, h1]
  have hf : Instr.fill (fun i => some (i, 1)) (Array.map (fun x => [Value.int .u32 0][x % 1]?.getD default) (Array.range 1)) [(0, .int .u32 v)] = some #[.int .u32 v] := by kernel_rfl
  simp [Instr.buildSlice, run_underlying Yba.underlying24, e, e1, Value.cells, newRow, hf]

/-- Cells of uint32. -/
def us (vs : List Nat) : List Value := vs.map fun (v : Nat) => .int .u32 (v : Int)
theorem us_length (vs : List Nat) : (us vs).length = vs.length := by simp [us]
/-- The array of vals: what is in use, and room behind it. -/
def Vals (w : World) (vb C : Nat) (vs : List Nat) : Prop := vs.length ≤ C ∧ Blk w vb (us vs ++ List.replicate (C - vs.length) (.int .u32 0)) 25

theorem Vals.below {w w' : World} {vb C : Nat} {vs : List Nat} (h : Vals w vb C vs) (b : Below w.heap.size w w') : Vals w' vb C vs := ⟨h.1, h.2.below b⟩
theorem Vals.lt {w : World} {vb C : Nat} {vs : List Nat} (h : Vals w vb C vs) : vb < w.heap.size := h.2.lt
theorem Vals.room {w : World} {vb C : Nat} {vs : List Nat} (h : Vals w vb C vs) (hl : vs.length < C) : w.there vb (0 + vs.length * 1) (1 * 1) := h.2.there (by simp [us_length]; omega)
theorem Vals.push {w : World} {vb C : Nat} {vs : List Nat} (h : Vals w vb C vs) (hl : vs.length < C) (v : Nat) : Vals (w.setCells vb (0 + vs.length * 1) [.int .u32 (v : Int)]) vb C (vs ++ [v]) := by
  refine ⟨by simp; omega, ?_⟩
  have h1 := h.2.setCells (o := 0 + vs.length * 1) (vs := [.int .u32 (v : Int)])
  rw [splice_eq _ _ _ (by simp [us_length]; omega)] at h1
  have e : (us vs ++ List.replicate (C - vs.length) (Value.int .u32 0)).take (0 + vs.length * 1) ++ [.int .u32 (v : Int)] ++ (us vs ++ List.replicate (C - vs.length) (Value.int .u32 0)).drop (0 + vs.length * 1 + [Value.int .u32 (v : Int)].length) = us (vs ++ [v]) ++ List.replicate (C - (vs ++ [v]).length) (.int .u32 0) := by
    have hu := us_length vs
    rw [show 0 + vs.length * 1 = (us vs).length by omega, List.take_left, List.drop_append, List.drop_eq_nil_of_le (by simp)]
    simp [us]
    omega
  rw [e] at h1
  exact h1
theorem Vals.zero {w : World} {vb C : Nat} (h : Blk w vb (List.replicate C (.int .u32 0)) 25) : Vals w vb C [] := ⟨by simp, by simpa [us] using h⟩

theorem Vals.row {w : World} {vb C : Nat} {vs : List Nat} (h : Vals w vb C vs) : Row32 vb 0 (vs.map fun (v : Nat) => (v : Int)).toArray w := by
  refine ⟨h.lt, fun t ht => ?_, fun t ht => ?_⟩
  · have ht' : t < vs.length := by simpa using ht
    rw [h.2.cell, Nat.zero_add, List.getElem?_append_left (by rw [us_length]; exact ht')]
    simp [us, List.getElem?_eq_getElem ht', getElem!_pos, ht]
  · exact h.2.frozen _

/-- A row of uint16. -/
def Row16 (w : World) (a : Option Addr) (zs : List Nat) : Prop := (∀ z ∈ zs, z < 65536) ∧ ∀ (i z : Nat), zs[i]? = some z → ∃ b o, a = some ⟨b, o, none⟩ ∧ b < w.heap.size ∧ w.cell? ⟨b, o + i, none⟩ = some (.int .u16 (z : Int))

/-- The tree's remove, whole. -/
theorem kremove_any (w : World) (tb v : Nat) (ks own : List Nat) (h : KT w tb ks own) (hv : v < 4294967296) (hsum : ks.sum < 18446744073709551616) (hcnt : ks.length < 1099511627776) :
    Calls Yba.prog 13 #[.pointer (some ⟨tb, 0, none⟩), .agg (idc v).toArray] w fun e w' => e = .returned (.bool (decide (v ∈ ks))) ∧ ∃ own', KT w' tb (ks.erase v) own' ∧ (∀ x ∈ own', x ∈ own ∨ w.heap.size ≤ x) ∧ Kept (fun b => b = tb ∨ b ∈ own) w w' := by
  obtain ⟨h1, h2, ⟨rfl, rfl, B⟩ | ⟨d, nb, n, hd, B, T, h3⟩⟩ := h
  · refine (kremove_nil w tb v B).mono ?_
    rintro e w' ⟨rfl, hb⟩
    exact ⟨by simp, [], ⟨by simp, Nat.lt_of_lt_of_le h2 hb.size, .inl ⟨by simp, rfl, B.below hb⟩⟩, by simp, Kept.of_below hb⟩
  · exact kremove w tb d nb n v ks own hd B T h3 h1 hv hsum hcnt

theorem KT.kept {U : Nat → Prop} {w w' : World} {tb : Nat} {ks own : List Nat} (h : KT w tb ks own) (k : Kept U w w') (h1 : ¬ U tb) (h2 : ∀ b ∈ own, ¬ U b) : KT w' tb ks own := by
  obtain ⟨q1, q2, ⟨rfl, rfl, B⟩ | ⟨d, nb, n, hd, B, T, h3⟩⟩ := h
  · exact ⟨q1, Nat.lt_of_lt_of_le q2 k.size, .inl ⟨rfl, rfl, B.kept k h1⟩⟩
  · exact ⟨q1, Nat.lt_of_lt_of_le q2 k.size, .inr ⟨d, nb, n, hd, B.kept k h1, T.kept k h2, h3⟩⟩
theorem KT.below {w w' : World} {tb : Nat} {ks own : List Nat} (h : KT w tb ks own) (k : Below w.heap.size w w') : KT w' tb ks own := h.kept (U := fun _ => False) (Kept.of_below k) (fun h => h) (fun _ _ h => h)
theorem KT.lt {w : World} {tb : Nat} {ks own : List Nat} (h : KT w tb ks own) : ∀ b ∈ own, b < w.heap.size := by
  obtain ⟨q1, q2, ⟨rfl, rfl, B⟩ | ⟨d, nb, n, hd, B, T, h3⟩⟩ := h
  · simp
  · exact T.lt

/-- The model: the slice (mb, 0) of n ids. -/
def Model (w : World) (mb N : Nat) (ms : List Nat) : Prop := ∃ ys, Blk w mb (ids ys) 30 ∧ ys.length = N ∧ ys.take ms.length = ms ∧ ms.length ≤ N

theorem Model.ids {w : World} {mb N : Nat} {ms : List Nat} (h : Model w mb N ms) : Ids w mb 0 ms := by
  obtain ⟨ys, B, h1, h2, h3⟩ := h
  have := B.ids 0 (zs := ms) (by rw [List.drop_zero, ← h2]; exact List.take_prefix _ _)
  simpa using this
theorem Model.lt {w : World} {mb N : Nat} {ms : List Nat} (h : Model w mb N ms) : mb < w.heap.size := by
  obtain ⟨ys, B, _⟩ := h
  exact B.lt
theorem Model.sl {w : World} {mb N : Nat} {ms : List Nat} (h : Model w mb N ms) : SlIds w (some ⟨mb, 0, none⟩) ms := .inr ⟨mb, 0, rfl, h.lt, h.ids⟩
theorem Model.kept {U : Nat → Prop} {w w' : World} {mb N : Nat} {ms : List Nat} (h : Model w mb N ms) (k : Kept U w w') (h1 : ¬ U mb) : Model w' mb N ms := by
  obtain ⟨ys, B, h⟩ := h
  exact ⟨ys, B.kept k h1, h⟩
theorem Model.below {w w' : World} {mb N : Nat} {ms : List Nat} (h : Model w mb N ms) (k : Below w.heap.size w w') : Model w' mb N ms := h.kept (U := fun _ => False) (Kept.of_below k) (fun h => h)

/-- A key taken out of the model. -/
theorem Model.delete {w : World} {mb N v : Nat} {ms : List Nat} (h : Model w mb N ms) (hs : ms.Pairwise (· < ·)) (hv : v ∈ ms) (hN : N < 1000000) :
    Calls Yba.prog 14 #[.slice (some ⟨mb, 0, none⟩) ms.length N, .int .i64 (lo ms v : Nat), .int .i64 ((lo ms v : Nat) + 1 : Int)] w fun e w' => e = .returned (.slice (some ⟨mb, 0, none⟩) (ms.erase v).length N) ∧ Model w' mb N (ms.erase v) ∧ Kept (· = mb) w w' := by
  obtain ⟨ys, B, h1, h2, h3⟩ := h
  obtain ⟨f1, f2, f3, f4⟩ := erase_facts hs hv
  refine (del_calls mb ms.length N (lo ms v) ys w B (by omega) h1.symm f4 (by omega)).mono ?_
  rintro e w' ⟨rfl, B', k⟩
  refine ⟨by rw [show ms.length - 1 = (ms.erase v).length by omega], ⟨_, B', ?_, ?_, by omega⟩, k⟩
  · rw [h2, f1]
    simp
    omega
  · rw [h2, f1]
    exact List.take_left

/-- What the loop over the removes keeps. -/
structure Run (w : World) (vb mb tb N : Nat) (ms own : List Nat) (wr : World) : Prop where
  model : Model wr mb N ms
  tree : KT wr tb ms own
  ne : mb ≠ tb
  mbo : mb ∉ own
  new : ∀ b ∈ own, vb ≤ b
  mbn : vb ≤ mb
  tbn : vb ≤ tb
  bel : Below vb w wr
  srt : ms.Pairwise (· < ·)
  small : ∀ x ∈ ms, x < 4294967296
  len : ms.length ≤ N

section
variable {w wr w' w'' : World} {vb mb tb N v : Nat} {ms own own' : List Nat}
theorem Run.below (h : Run w vb mb tb N ms own wr) (k : Below wr.heap.size wr w') : Run w vb mb tb N ms own w' :=
  { h with model := h.model.below k, tree := h.tree.below k, bel := h.bel.trans (k.mono (Nat.le_trans h.mbn (Nat.le_of_lt h.model.lt))) }
theorem Run.sum (h : Run w vb mb tb N ms own wr) (hN : N < 10000) : ms.sum < 18446744073709551616 := sum_small ms h.small (by have := h.len; omega)

theorem Run.keep (h : Run w vb mb tb N ms own wr) (hv : v ∉ ms) (hT : KT w' tb (ms.erase v) own') (hn : ∀ x ∈ own', x ∈ own ∨ wr.heap.size ≤ x) (k : Kept (fun b => b = tb ∨ b ∈ own) wr w') : Run w vb mb tb N ms own' w' := by
  have hlt := h.model.lt
  rw [List.erase_of_not_mem hv] at hT
  refine { h with model := h.model.kept k ?_, tree := hT, mbo := ?_, new := ?_, bel := h.bel.trans (k.below (Nat.le_trans h.mbn (Nat.le_of_lt hlt)) ?_) }
  · rintro (e | e)
    · exact h.ne e
    · exact h.mbo e
  · intro hm
    rcases hn _ hm with e | e
    · exact h.mbo e
    · omega
  · intro b hb
    have := h.mbn
    rcases hn _ hb with e | e
    · exact h.new b e
    · omega
  · rintro b hb (e | e)
    · have := h.tbn; omega
    · have := h.new b e; omega

theorem Run.del (h : Run w vb mb tb N ms own wr) (hT : KT w' tb (ms.erase v) own') (hn : ∀ x ∈ own', x ∈ own ∨ wr.heap.size ≤ x) (k : Kept (fun b => b = tb ∨ b ∈ own) wr w') (hM : Model w'' mb N (ms.erase v)) (k2 : Kept (· = mb) w' w'') :
    Run w vb mb tb N (ms.erase v) own' w'' := by
  have hlt := h.model.lt
  have hno : mb ∉ own' := by
    intro hm
    rcases hn _ hm with e | e
    · exact h.mbo e
    · omega
  have hmn := h.mbn
  refine { h with model := hM, tree := hT.kept k2 (fun e => h.ne e.symm) (fun b hb e => hno (e ▸ hb)), mbo := hno, new := ?_, bel := (h.bel.trans (k.below (Nat.le_trans h.mbn (Nat.le_of_lt hlt)) ?_)).trans (k2.below (by have := k.size; omega) (fun b hb e => by omega)), srt := h.srt.sublist List.erase_sublist, small := fun x hx => h.small x (List.mem_of_mem_erase hx), len := Nat.le_trans (List.erase_sublist).length_le h.len }
  · intro b hb
    rcases hn _ hb with e | e
    · exact h.new b e
    · omega
  · rintro b hb (e | e)
    · have := h.tbn; omega
    · have := h.new b e; omega
theorem Run.model1 (h : Run w vb mb tb N ms own wr) (k : Kept (fun b => b = tb ∨ b ∈ own) wr w') : Model w' mb N ms := h.model.kept k (by
  rintro (e | e)
  · exact h.ne e
  · exact h.mbo e)
end

/-- treeOf's two endings as one. -/
theorem tree_any {w w' : World} {xs : List Nat} {e : Ending} (h : TreeOut w xs e w') : ∃ p own, e = .returned (.agg #[.pointer p, .func (.func 10) #[] #[]]) ∧ Below w.heap.size w w' ∧ (∀ x ∈ own, w.heap.size ≤ x) ∧
    ∀ W tb, Blk W tb [.pointer p, .func (.func 10) #[] #[]] 36 → w'.heap.size ≤ tb → Below w'.heap.size w' W → KT W tb xs own := by
  obtain ⟨hb, ⟨rfl, rfl⟩ | ⟨d, nb, n, own, hd, rfl, T, h2, hn⟩⟩ := h
  · exact ⟨none, [], rfl, hb, by simp, fun W tb B _ _ => ⟨by simp, B.lt, .inl ⟨rfl, rfl, B⟩⟩⟩
  · exact ⟨some ⟨nb, 0, none⟩, own, rfl, hb, hn, fun W tb B ht k => ⟨fun hm => by have := T.lt _ hm; omega, B.lt, .inr ⟨d, nb, n, hd, B, T.below k, h2⟩⟩⟩

theorem blk_fill {w : World} {mb i k x : Nat} {xs : List Nat} (h : Blk w mb (ids (xs.take i ++ List.replicate (k + 1) 0)) 30) (hx : xs[i]? = some x) :
    w.there mb (i * 20) 20 ∧ Blk (w.setCells mb (i * 20) (idc x)) mb (ids (xs.take (i + 1) ++ List.replicate k 0)) 30 := by
  have hi := (List.getElem?_eq_some_iff.1 hx).1
  have hl9 : (xs.take i).length = i := by rw [List.length_take]; omega
  have T : w.there mb (i * 20) (1 * 20) := h.idsT (k := i) (n := 1) (by rw [List.length_append, hl9, List.length_replicate]; omega)
  have B := h.idsS (k := i) (ys := [x]) (by rw [List.length_append, hl9, List.length_replicate, List.length_singleton]; omega)
  refine ⟨T, ?_⟩
  rw [ids_cons, ids_nil, List.append_nil] at B
  have e9 : (xs.take i ++ List.replicate (k + 1) 0).take i ++ [x] ++ (xs.take i ++ List.replicate (k + 1) 0).drop (i + [x].length) = xs.take (i + 1) ++ List.replicate k 0 := by
    rw [List.take_left' hl9, List.drop_append, hl9, List.drop_eq_nil_of_le (by rw [hl9]; omega), List.drop_replicate, List.take_add_one, hx]
    simp
  rw [e9] at B
  exact B

theorem perm_all {d d' : Array Int} {K : Nat} (hd : d.size = K) (hp : Go.Sort.PermIn 0 K d d') (P : Int → Prop) (h : ∀ x ∈ d.toList, P x) : ∀ j, j < d'.size → P d'[j]! := by
  intro j hj
  obtain ⟨h1, _, h3⟩ := hp
  subst hd
  have e1 : d.extract 0 d.size = d := by simp
  have e2 : d'.extract 0 d.size = d' := by rw [← h1]; simp
  rw [e1, e2] at h3
  refine h _ (h3.mem_iff.1 ?_)
  rw [getElem!_pos _ j hj]
  simp

theorem nat_list : ∀ (ys : List Int), (∀ y ∈ ys, 0 ≤ y ∧ y < 4294967296) → ∃ xs : List Nat, ys = xs.map (fun (x : Nat) => (x : Int)) ∧ ∀ x ∈ xs, x < 4294967296
  | [], _ => ⟨[], rfl, by simp⟩
  | y :: ys, h => by
    obtain ⟨xs, rfl, h2⟩ := nat_list ys (fun z hz => h z (by simp [hz]))
    have hy := h y (by simp)
    refine ⟨y.toNat :: xs, by simp; omega, fun x hx => ?_⟩
    rcases List.mem_cons.1 hx with rfl | hx
    · omega
    · exact h2 x hx

theorem nat_sorted : ∀ {xs : List Nat}, (xs.map (fun (x : Nat) => (x : Int))).Pairwise (· < ·) → xs.Pairwise (· < ·)
  | [], _ => List.Pairwise.nil
  | a :: xs, h => by
    rw [List.map_cons, List.pairwise_cons] at h
    exact List.pairwise_cons.2 ⟨fun b hb => by have := h.1 (b : Int) (List.mem_map.2 ⟨b, hb, rfl⟩); omega, nat_sorted h.2⟩
end Go.Proofs.Ybulkbqza
