/-
  Seat b3380a. make, append, a node; nodeOf at a leaf.
-/
import Derived.Test.YbulkbqzaTree
import Derived.OwnWalk
import Derived.Laws.MakeOwn
namespace Go.Proofs.Ybulkbqza
open Go.RowKit
set_option linter.unusedVariables false
set_option maxRecDepth 100000
set_option linter.unusedSimpArgs false

theorem idc_zero : idc 0 = List.replicate 20 (Value.int .u8 0) := rfl
theorem ids_zeros : ∀ c : Nat, ids (List.replicate c 0) = List.replicate (c * 20) (Value.int .u8 0)
  | 0 => rfl
  | c + 1 => by rw [List.replicate_succ, ids_cons, ids_zeros c, idc_zero, List.replicate_append_replicate]; congr 1; omega

theorem made30 (c : Nat) : madeCells (Value.agg (idc 0).toArray).cells (c * 20) = (ids (List.replicate c 0)).toArray := by
  rw [ids_zeros]
  apply Array.ext
  · simp [madeCells]
  · intro i h1 h2
    have e : ∀ k, k < 20 → (idc 0)[k]? = some (Value.int .u8 0) := by
      intro k hk
      rw [idc_zero, List.getElem?_replicate, if_pos hk]
    have e1 := e (i % 20) (Nat.mod_lt _ (by decide))
    simp [madeCells, Value.cells, idc_length, getElem!_def, e1]

theorem made32 (c : Nat) : madeCells (Value.pointer none).cells (c * 1) = (List.replicate c (Value.pointer none)).toArray := by
  apply Array.ext
  · simp [madeCells]
  · intro i h1 h2
    simp [madeCells, Value.cells, Nat.mod_one]

section
variable {ops : Array Oper} {rest : List Oper} {op : Oper} {a : Act} {w : World} {Q : Exit → Act → World → Prop}
theorem mk30 (hgd : op.guard = none) (l c : Operand) (ho : op.op = Op.makeSlice 28 l c) (kl kc : IntKind) (L C : Int) (ln n : Nat) (hl : a.eval l = .int kl L) (hc : a.eval c = .int kc C) (eL : L = ln) (eC : C = n) (hln : ln ≤ n) (hn : n < 1000000)
    (h : ∀ w', Blk w' w.heap.size (ids (List.replicate n 0)) 30 → Below w.heap.size w w' → w'.heap.size = w.heap.size + 1 → wpList Yba.prog ops Q rest (a.put op.dst (.slice (some ⟨w.heap.size, 0, none⟩) ln n)) w') : wpList Yba.prog ops Q (op :: rest) a w := by
  refine wpList_plain hgd fun K hK => ?_
  obtain ⟨i0, hi, h1, h2, hz⟩ := info30_parts
  subst eL
  subst eC
  have hrun := run_make (P := Yba.prog) w 28 30 i0 _ Yba.underlying28 hi hz kl kc (ln : Int) (n : Int) (by omega) (by omega) (by rw [h2]; omega) (by omega)
  simp only [Int.toNat_natCast, h1, made30] at hrun
  have hK' := hK _ _ (h _ (Blk.new w _ _) ((Below.refl _ w).alloc (Nat.le_refl _) _) (by simp))
  unfold Oper.wp
  simp [execOp, ho, hl, hc, hrun]
  exact hK'
theorem mk57 (hgd : op.guard = none) (l c : Operand) (ho : op.op = Op.makeSlice 57 l c) (kl kc : IntKind) (L C : Int) (ln n : Nat) (hl : a.eval l = .int kl L) (hc : a.eval c = .int kc C) (eL : L = ln) (eC : C = n) (hln : ln ≤ n) (hn : n < 1000000)
    (h : ∀ w', Blk w' w.heap.size (List.replicate n (Value.pointer none)) 32 → Below w.heap.size w w' → w'.heap.size = w.heap.size + 1 → wpList Yba.prog ops Q rest (a.put op.dst (.slice (some ⟨w.heap.size, 0, none⟩) ln n)) w') : wpList Yba.prog ops Q (op :: rest) a w := by
  refine wpList_plain hgd fun K hK => ?_
  obtain ⟨i0, hi, h1, h2, hz⟩ := info32_parts
  subst eL
  subst eC
  have hrun := run_make (P := Yba.prog) w 57 32 i0 _ Yba.underlying57 hi hz kl kc (ln : Int) (n : Int) (by omega) (by omega) (by rw [h2]; omega) (by omega)
  simp only [Int.toNat_natCast, h1, made32] at hrun
  have hK' := hK _ _ (h _ (Blk.new w _ _) ((Below.refl _ w).alloc (Nat.le_refl _) _) (by simp))
  unfold Oper.wp
  simp [execOp, ho, hl, hc, hrun]
  exact hK'

/-- A value of many cells in a box of its own. -/
theorem bx {P : Program} {ty : TypeId} (hgd : op.guard = none) (x : Operand) (ho : op.op = .box ty x) (cs : List Value) (n : Nat) (hx : a.eval x = .agg cs.toArray) (hn : w.heap.size = n)
    (h : ∀ w', Blk w' n cs ty → Below n w w' → w'.heap.size = n + 1 → wpList P ops Q rest (a.put op.dst (.pointer (some ⟨n, 0, none⟩))) w') : wpList P ops Q (op :: rest) a w := by
  subst hn
  refine wpList_plain hgd fun K hK => ?_
  have hK' := hK _ _ (h _ (Blk.new w cs ty) ((Below.refl _ w).alloc (Nat.le_refl _) _) (by simp))
  unfold Oper.wp
  simp [execOp, ho, hx, Value.cells]
  exact hK'

/-- append where there is room, at a plain region. -/
theorem app_room {P : Program} (hgd : op.guard = none) (s x : Operand) (t : TypeId) (hop : op.op = Op.call { callee := Callee.builtin Builtin.append, args := #[s, x], argTypes := #[t, t] })
    (e : TypeId) (size : Nat) (h1 : P.underlying t = some (.slice e)) (h2 : ∃ i, P.info? e = some i ∧ i.size = size)
    (b off n cap : Nat) (hs : a.eval s = .slice (some ⟨b, off, none⟩) n cap)
    (ad : Addr) (m c : Nat) (news : List Value) (hx : a.eval x = .slice (some ad) m c) (hn : news.length = m * size) (hc : ∀ j u, news[j]? = some u → w.cell? (ad.add j) = some u) (h1c : ∀ u ∈ news, u.oneCell' = true)
    (hroom : n + m ≤ cap) (hspare : w.there b (off + n * size) (m * size))
    (h : wpList P ops Q rest (a.put op.dst (.slice (some ⟨b, off, none⟩) (n + m) cap)) (w.setCells b (off + n * size) news)) : wpList P ops Q (op :: rest) a w := by
  refine wpList_plain hgd fun K hK => ?_
  obtain ⟨i, h2, rfl⟩ := h2
  have hrun := run_append_room_cells (P := P) w t op.type e i h1 h2 b off n cap ad m c news hn hc h1c hroom (fun j hj => (hspare j (by omega)).1) (fun j hj => (hspare j (by omega)).2)
  have hK' := hK _ _ h
  unfold Oper.wp
  simp [execOp, hop, resolve, invoke, builtin, hs, hx, hrun]
  exact hK'
end

theorem equalIn_nil (d : Nat) (o : Option Addr) (n c : Nat) (w : World) : (Op.equalIn (d + 1) 57 (.slice o n c) (.slice none 0 0)).run Yba.prog w = .ok o.isNone w := by
  cases o <;> simp [Op.equalIn, run_underlying Yba.underlying57]
theorem equal_nil (o : Option Addr) (n c : Nat) (w : World) : (Op.equal 57 (.slice o n c) (.slice none 0 0)).run Yba.prog w = .ok o.isNone w := equalIn_nil 9999 o n c w
theorem eql_nil (o : Option Addr) (n c : Nat) (w : World) : (binOp .eql 57 (.slice o n c) (.slice none 0 0)).run Yba.prog w = .ok (.bool o.isNone) w := by
  simp only [binOp]
  simp [equal_nil]
theorem neq_nil (o : Option Addr) (n c : Nat) (w : World) : (binOp .neq 57 (.slice o n c) (.slice none 0 0)).run Yba.prog w = .ok (.bool (!o.isNone)) w := by
  simp only [binOp]
  simp [equal_nil]

theorem nd_zero_lit (k : Value) : (#[k, Value.slice none 0 0, Value.int IntKind.i64 0, Value.int IntKind.u8 0, Value.int IntKind.u8 0, Value.int IntKind.u8 0, Value.int IntKind.u8 0, Value.int IntKind.u8 0, Value.int IntKind.u8 0, Value.int IntKind.u8 0, Value.int IntKind.u8 0, Value.int IntKind.u8 0, Value.int IntKind.u8 0, Value.int IntKind.u8 0, Value.int IntKind.u8 0, Value.int IntKind.u8 0, Value.int IntKind.u8 0, Value.int IntKind.u8 0, Value.int IntKind.u8 0, Value.int IntKind.u8 0, Value.int IntKind.u8 0, Value.int IntKind.u8 0, Value.int IntKind.u8 0, Value.int IntKind.u8 0, Value.int IntKind.u8 0, Value.int IntKind.u8 0, Value.int IntKind.u8 0, Value.int IntKind.u8 0, Value.int IntKind.u8 0, Value.int IntKind.u8 0, Value.int IntKind.u8 0, Value.int IntKind.u8 0, Value.int IntKind.u8 0, Value.int IntKind.u8 0, Value.int IntKind.u8 0] : Array Value) = (nd k (.slice none 0 0) 0 0).toArray := rfl

theorem Ids.cells {w : World} {b off : Nat} {xs : List Nat} (h : Ids w b off xs) : ∀ j u, (ids xs)[j]? = some u → w.cell? ((⟨b, off, none⟩ : Addr).add j) = some u := by
  intro j u hu
  rw [Addr.add_mid]
  have hj := (List.getElem?_eq_some_iff.1 hu).1
  rw [ids_length] at hj
  obtain ⟨x, hx⟩ : ∃ x, xs[j / 20]? = some x := ⟨_, List.getElem?_eq_getElem (by omega)⟩
  have h1 := h (j / 20) x hx (j % 20) u
  rw [show off + j = off + j / 20 * 20 + j % 20 by omega]
  apply h1
  have h2 := ids_range (xs := xs) (k := j / 20) (zs := [x]) (by
    obtain ⟨hl, rfl⟩ := List.getElem?_eq_some_iff.1 hx
    rw [List.drop_eq_getElem_cons hl]
    exact ⟨_, rfl⟩) (j % 20)
  have h3 : (ids [x]).length = 20 := by rw [ids_length]; rfl
  have h4 := h2 _ (List.getElem?_eq_getElem (by omega))
  rw [show j / 20 * 20 + j % 20 = j by omega, hu] at h4
  rw [h4, ← List.getElem?_eq_getElem]
  simp [ids]

theorem splice_nd (k q : Value) (c s t : Nat) : splice (nd k q c s) 3 (dgc t) = nd k q c t := by
  rw [splice_eq _ _ _ (by rw [dgc_length, nd_length]; omega), List.drop_eq_nil_of_le (by rw [dgc_length, nd_length]; omega)]
  simp [nd]
theorem Blk.setCount {w : World} {b : Nat} {k q : Value} {c s : Nat} {t : TypeId} (h : Blk w b (nd k q c s) t) (c' : Nat) : Blk (w.setCell ⟨b, 2, none⟩ (.int .i64 c')) b (nd k q c' s) t := h.set 2 _
theorem Blk.setKeys {w : World} {b : Nat} {k q : Value} {c s : Nat} {t : TypeId} (h : Blk w b (nd k q c s) t) (k' : Value) : Blk (w.setCell ⟨b, 0, none⟩ k') b (nd k' q c s) t := h.set 0 _
theorem Blk.setKids {w : World} {b : Nat} {k q : Value} {c s : Nat} {t : TypeId} (h : Blk w b (nd k q c s) t) (q' : Value) : Blk (w.setCell ⟨b, 1, none⟩ q') b (nd k q' c s) t := h.set 1 _
theorem Blk.setDig {w : World} {b : Nat} {k q : Value} {c s : Nat} {t : TypeId} (h : Blk w b (nd k q c s) t) (s' : Nat) : Blk (w.setCells b 3 (dgc s')) b (nd k q c s') t := by
  have := h.setCells (o := 3) (vs := dgc s')
  rwa [splice_nd] at this
theorem Blk.digT {w : World} {b : Nat} {k q : Value} {c s : Nat} {t : TypeId} (h : Blk w b (nd k q c s) t) : w.there b 3 32 := h.there (by rw [nd_length]; omega)
theorem Blk.digR {w : World} {b : Nat} {k q : Value} {c s : Nat} {t : TypeId} (h : Blk w b (nd k q c s) t) : w.rangeAt b 3 (dgc s) := h.range (fun j v hj => by rw [Nat.add_comm]; simpa [nd] using hj)

theorem info30_q : ∃ i, Yba.prog.info? 30 = some i ∧ i.size = 20 := by obtain ⟨i, h1, h2, _⟩ := info30_parts; exact ⟨i, h1, h2⟩
theorem info32_q : ∃ i, Yba.prog.info? 32 = some i ∧ i.size = 1 := by obtain ⟨i, h1, h2, _⟩ := info32_parts; exact ⟨i, h1, h2⟩

theorem nodeOf_leaf (b off c : Nat) (xs : List Nat) (w : World) (hb : b < w.heap.size) (hI : Ids w b off xs) (hlen : xs.length ≤ 33) (hx : ∀ x ∈ xs, x < 4294967296) (hs : xs.Pairwise (· < ·)) (hsum : xs.sum < 18446744073709551616) :
    Calls Yba.prog 22 #[.slice (some ⟨b, off, none⟩) xs.length c, .slice none 0 0, .func (.func 10) #[] #[]] w fun e w' => ∃ nb own, e = .returned (ptr nb) ∧ Tree 0 33 33 w' nb xs xs.length own ∧ (∀ x ∈ own, w.heap.size ≤ x) ∧ Below w.heap.size w w' := by
  have en := eql_nil
  go_enter Yba.func22, Yba.ntmps22
  go_wp2_with (first
    | (refine mk30 rfl _ _ rfl .i64 .i64 0 33 0 33 ?_ ?_ rfl rfl (by decide) (by decide) ?_; rfl; rfl; intro w1 B1 b1 s1; have T1 : w1.there w.heap.size (0 + 0 * 20) (xs.length * 20) := B1.idsT (k := 0) (by simpa using hlen); have hc1 := (hI.below hb b1).cells)
    | (at_builtin; refine app_room rfl (.tmp 10) (.tmp 11) 28 rfl 30 20 Yba.underlying28 info30_q w.heap.size 0 0 33 ?_ ⟨b, off, none⟩ xs.length c (ids xs) ?_ (ids_length xs) hc1 (ids_one xs) (by omega) T1 ?_; rfl; rfl
       have B2 := B1.idsS (k := 0) (ys := xs) (by simpa using hlen)
       have b2 : Below w.heap.size w (w1.setCells w.heap.size (0 + 0 * 20) (ids xs)) := Below.setCells b1 (Nat.le_refl _) _ _
       have s2 : (w1.setCells w.heap.size (0 + 0 * 20) (ids xs)).heap.size = w.heap.size + 1 := by rw [size_setCells, s1]
       simp only [Nat.zero_mul, Nat.zero_add, Nat.add_zero] at B2 b2 s2 ⊢
       generalize w1.setCells w.heap.size 0 (ids xs) = w2 at *)
    | (refine bx rfl (.tmp 13) rfl (nd (.slice (some ⟨w.heap.size, 0, none⟩) xs.length 33) (.slice none 0 0) 0 0) (w.heap.size + 1) ?_ s2 ?_; rfl; intro w3 N3 b3 s3; have h3 := b2.trans (b3.mono (Nat.le_succ _)); have B3 := B2.of_block (b3.block _ (Nat.lt_succ_self _)))
    | (go_at_call 10; refine (csum_calls _ xs c _ ?_ hx hsum (by omega)).mono ?_; exact .inr ⟨b, off, rfl, by omega, hI.below hb h3⟩; rintro e w4 ⟨rfl, b4⟩
       have N4 := N3.below b4
       have c4 : w4.cell? ⟨w.heap.size + 1, 2, none⟩ = some (.int .i64 ((0 : Nat) : Int)) := N4.cell 2
       have f4 := N4.frozen 2
       have N5 := N4.setCount xs.length
       have T5 := N5.digT)
    | (refine st47 rfl rfl (.tmp 27) (.tmp 23) rfl (w.heap.size + 1) 3 xs.sum ?_ ?_ ?_ ?_; rfl; rfl; exact T5))
  go_ret
  have hsz4 := b4.size
  have B4 := B3.below b4
  have N6 := N5.setDig xs.sum
  refine ⟨w.heap.size + 1, [w.heap.size + 1, w.heap.size], rfl, ⟨w.heap.size, xs ++ List.replicate (33 - xs.length) 0, ?_⟩, ?_, ?_⟩
  · refine { hOwn := rfl, hNe := by omega, hN := rfl, hXs := by simp; omega, hTake := by simp, hLe := hlen, hNode := N6, hKeys := ?_, hSorted := hs, hSmall := hx }
    have := (B4.setOther (p := ⟨w.heap.size + 1, 2, none⟩) (by simp) (.int .i64 xs.length)).setCellsOther (b' := w.heap.size + 1) (by omega) 3 (dgc xs.sum)
    rwa [List.take_zero, List.nil_append, List.drop_replicate] at this
  · intro x hx
    simp at hx
    rcases hx with rfl | rfl <;> omega
  · exact Below.setCells ((h3.trans (b4.mono (by omega))).setCell (p := ⟨w.heap.size + 1, 2, none⟩) (Nat.le_succ _) _) (Nat.le_succ _) _ _
end Go.Proofs.Ybulkbqza
