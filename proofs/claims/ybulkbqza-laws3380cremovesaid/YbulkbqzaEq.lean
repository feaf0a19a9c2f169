/-
  Seat b3380a. Digests and ids compared; the slice that is grown by append.
-/
import Derived.Test.YbulkbqzaKt
import Derived.Stop.BytesEq
import Derived.Deep.AppendSrc
namespace Go.Proofs.Ybulkbqza
open Go.RowKit
open Extern.Stop (cell)
set_option linter.unusedVariables false

theorem dgc_cell (s : Nat) : dgc s = ((Lib.beBytes 8 0 ++ Lib.beBytes 8 s ++ Lib.beBytes 8 0 ++ Lib.beBytes 8 0).map cell) := by
  simp [dgc, lb, Lib.byteCells]
  rfl
theorem idc_cell (v : Nat) : idc v = (([UInt8.ofNat (v / 16777216 % 256), UInt8.ofNat (v / 65536 % 256), UInt8.ofNat (v / 256 % 256), UInt8.ofNat (v % 256)] ++ List.replicate 16 0).map cell) := by
  simp [idc, idz, cell]

theorem size5 (w : World) : (sizeOf 5).run Yba.prog w = .ok 1 w := by
  have h : (Yba.prog.info? 5).map (·.size) = some 1 := by kernel_rfl
  cases e : Yba.prog.info? 5 with
  | none => simp [e] at h
  | some i => simp [e] at h; simp [sizeOf, typeInfo, e, h]

theorem neq47 (s : Nat) (w : World) : (binOp .neq 47 (.agg (dgc s).toArray) (.agg (dgc s).toArray)).run Yba.prog w = .ok (.bool false) w := by
  rw [run_neq_struct, dgc_cell, run_equalIn_bytes w 9998 47 5 32 Yba.underlying47 Yba.underlying5 size5 _ _ (by simp [Lib.beBytes_length]) (by simp [Lib.beBytes_length])]
  simp [Result.andThen]
theorem eql30 (v : Nat) (w : World) : (binOp .eql 30 (.agg (idc v).toArray) (.agg (idc v).toArray)).run Yba.prog w = .ok (.bool true) w := by
  rw [run_eql_struct, idc_cell, run_equalIn_bytes w 9998 30 5 20 Yba.underlying30 Yba.underlying5 size5 _ _ (by simp) (by simp)]
  simp [Result.andThen]
theorem neq30 (v : Nat) (w : World) : (binOp .neq 30 (.agg (idc v).toArray) (.agg (idc v).toArray)).run Yba.prog w = .ok (.bool false) w := by
  rw [run_neq_struct, idc_cell, run_equalIn_bytes w 9998 30 5 20 Yba.underlying30 Yba.underlying5 size5 _ _ (by simp) (by simp)]
  simp [Result.andThen]

/-- The slice of ids acc that lies in the variable at block ob, its array a block from base on. -/
def Out (base : Nat) (w : World) (ob : Nat) (acc : List Nat) : Prop :=
  (acc = [] ∧ Blk w ob [.slice none 0 0] 28) ∨ (acc ≠ [] ∧ ∃ g cap ys, Blk w ob [.slice (some ⟨g, 0, none⟩) acc.length cap] 28 ∧ base ≤ g ∧ g ≠ ob ∧ Blk w g (ids ys) 30 ∧ ys.length = cap ∧ ys.take acc.length = acc ∧ acc.length ≤ cap)

/-- Block b is the array of the slice in the variable at block ob. -/
def Arr (w : World) (ob b : Nat) : Prop := ∃ n cap, Blk w ob [.slice (some ⟨b, 0, none⟩) n cap] 28
theorem Arr.of_block {w w' : World} {ob b : Nat} (h : Arr w' ob b) (e : w'.heap[ob]? = w.heap[ob]?) : Arr w ob b := by
  obtain ⟨n, cap, h⟩ := h
  exact ⟨n, cap, h.of_block e.symm⟩
theorem Out.arr {base : Nat} {w : World} {ob : Nat} {acc : List Nat} (h : Out base w ob acc) {b : Nat} (hb : Arr w ob b) : base ≤ b ∧ b ≠ ob ∧ b < w.heap.size := by
  obtain ⟨n, cp, hb⟩ := hb
  rcases h with ⟨rfl, B⟩ | ⟨_, g, cap, ys, B, h1, h2, BG, h3, h4, h5⟩
  · have := (hb.inj B).1; simp at this
  · have := (hb.inj B).1
    simp at this
    obtain ⟨rfl, _⟩ := this
    exact ⟨h1, h2, BG.lt⟩

theorem Out.value {base : Nat} {w : World} {ob : Nat} {acc : List Nat} (h : Out base w ob acc) : ∃ a cap, Blk w ob [.slice a acc.length cap] 28 ∧ SlIds w a acc ∧ (∀ x, a = some x → base ≤ x.block ∧ x.block ≠ ob ∧ x.block < w.heap.size) := by
  rcases h with ⟨rfl, B⟩ | ⟨_, g, cap, ys, B, h1, h2, BG, h3, h4, h5⟩
  · exact ⟨none, 0, B, .inl rfl, fun x h => by cases h⟩
  · refine ⟨some ⟨g, 0, none⟩, cap, B, .inr ⟨g, 0, rfl, BG.lt, ?_⟩, fun x h => by cases h; exact ⟨h1, h2, BG.lt⟩⟩
    have := BG.ids 0 (zs := acc) (by rw [List.drop_zero]; exact ⟨ys.drop acc.length, (by have := List.take_append_drop acc.length ys; rw [h4] at this; exact this)⟩)
    simpa using this

theorem Out.kept {base : Nat} {w w' : World} {ob : Nat} {acc : List Nat} {S : Nat → Prop} (h : Out base w ob acc) (k : Kept S w w') (h1 : ¬ S ob) (h2 : ∀ g, base ≤ g → g ≠ ob → ¬ S g) : Out base w' ob acc := by
  rcases h with ⟨rfl, B⟩ | ⟨q0, g, cap, ys, B, q1, q2, BG, q3, q4, q5⟩
  · exact .inl ⟨rfl, B.kept k h1⟩
  · exact .inr ⟨q0, g, cap, ys, B.kept k h1, q1, q2, BG.kept k (h2 g q1 q2), q3, q4, q5⟩

section
variable {ops : Array Oper} {o : Oper} {a : Act} {w : World} {K : Act → World → Prop} {Q : Exit → Act → World → Prop} {E : Prop}

/-- append onto it, as a step of a region that draws: the value; it has not been stored yet. -/
theorem step_out (hg : o.guard = none) (s x : Operand) (hop : o.op = Op.call { callee := Callee.builtin Builtin.append, args := #[s, x], argTypes := #[28, 28] })
    (base ob : Nat) (acc : List Nat) (hO : Out base w ob acc) (hob : ob < w.heap.size) (hbase : base ≤ w.heap.size) (v : Value) (hv : Blk w ob [v] 28) (hs : a.eval s = v) (ad : Addr) (m c : Nat) (ys : List Nat) (hx : a.eval x = .slice (some ad) m c) (hm : ys.length = m) (hmp : 0 < m)
    (hc : ∀ j u, (ids ys)[j]? = some u → w.cell? (ad.add j) = some u) (hsm : acc.length + m < 10000)
    (h : ∀ w' g cap zs, Blk w' g (ids zs) 30 → zs.length = cap → zs.take (acc.length + m) = acc ++ ys → acc.length + m ≤ cap → base ≤ g → g ≠ ob → Blk w' ob [v] 28 → Kept (Arr w ob) w w' → (Arr w ob g ∨ w.heap.size ≤ g) → K (a.put o.dst (.slice (some ⟨g, 0, none⟩) (acc.length + m) cap)) w') :
    if Region.wanted o (yielded ops a.tmps) = true then Oper.wp Yba.prog o a w K Q else E := by
  subst hm
  have hw : Region.wanted o (yielded ops a.tmps) = true := by simp [Region.wanted, hg]
  rcases hO with ⟨rfl, B⟩ | ⟨_, g, cap, zs, B, q1, q2, BG, q3, q4, q5⟩
  · have hv2 := (hv.inj B).1
    simp at hv2
    subst hv2
    rw [if_pos hw]
    obtain ⟨i0, hi, h1, h2, hz⟩ := info30_parts
    have hsrc : Src Yba.prog i0.size 28 (.slice (some ad) ys.length c) ys.length (ids ys) w := Src.ofSlice w Yba.underlying28 ad ys.length c (ids ys) (by rw [ids_length, h1]) hc (ids_one ys)
    have hrun := run_append_grow_src (P := Yba.prog) w 28 28 o.type 30 i0 _ Yba.underlying28 hi hz none 0 0 [] (run_firstCells_none w.drew i0.size 0 0 0) (.slice (some ad) ys.length c) ys.length (ids ys) hsrc (by omega) (by simp at hsm; omega)
      (growslice_fits (by omega) (by rw [h2]; simp at hsm; omega))
    have hge := grownCap_ge w (0 + ys.length) 0 30
    generalize grownCap w (0 + ys.length) 0 30 = G at *
    have harr : (([] : List Value) ++ ids ys).toArray ++ Builtin.zeroCells (Value.agg (idc 0).toArray).cells (G - (0 + ys.length)) = (ids (ys ++ List.replicate (G - (0 + ys.length)) 0)).toArray := by
      rw [zeroIds, ids_append]
      simp
    rw [harr] at hrun
    have hK := h _ w.heap.size G (ys ++ List.replicate (G - (0 + ys.length)) 0) (Blk.new w.drew _ 30) (by rw [List.length_append, List.length_replicate]; omega) (by simp) (by simpa using hge) hbase (by omega) (hv.drew.alloc _) (Kept.of_below ((Below.refl _ w).drew.alloc (Nat.le_refl _) _)) (.inr (Nat.le_refl _))
    generalize ys ++ List.replicate (G - (0 + ys.length)) 0 = X at hrun hK
    unfold Oper.wp
    simp [execOp, hop, resolve, invoke, builtin, hs, hx] at hrun hK ⊢
    rw [hrun]
    exact hK
  · have hv2 := (hv.inj B).1
    simp at hv2
    subst hv2
    refine step_any30 hg s x hop g acc.length cap hs ad ys.length c zs ys BG hx rfl hc q3 q5 (by omega) ?_
    intro w' b' cap' xs' B' p1 p2 p3 p4 k' _ _
    refine h w' b' cap' xs' B' p1 (by rw [p2, q4]) p3 ?_ ?_ (hv.kept k' (fun e => q2 e.symm)) (k'.mono (fun b _ e => by subst e; exact ⟨_, _, B⟩)) ?_
    · rcases p4 with rfl | p4
      · exact q1
      · omega
    · rcases p4 with rfl | p4
      · exact q2
      · omega
    · rcases p4 with rfl | p4
      · exact .inl ⟨_, _, B⟩
      · exact .inr p4
end
end Go.Proofs.Ybulkbqza
