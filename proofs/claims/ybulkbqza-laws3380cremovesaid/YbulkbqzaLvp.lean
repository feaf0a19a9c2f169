/-
  Seat b3380a. A slice of nodes that grows by append.
-/
import Derived.Test.YbulkbqzaLev
namespace Go.Proofs.Ybulkbqza
open Go.RowKit
set_option linter.unusedVariables false

theorem run_build57 (b : Nat) (w : World) : (Instr.buildSlice 57 1 #[(0, .pointer (some ⟨b, 0, none⟩))]).run Yba.prog w = .ok (.slice (some ⟨w.heap.size, 0, none⟩) 1 1) (w.alloc (.cells #[.pointer (some ⟨b, 0, none⟩)] 32)) := by
  obtain ⟨i0, hi, h1, h2, hz⟩ := info32_parts
  have e : ∀ w, (zeroValue 32).run Yba.prog w = .ok (.pointer none) w := fun w => by simp [zeroValue, typeInfo, hi, hz]
  have e1 : ∀ w, (sizeOf 32).run Yba.prog w = .ok 1 w := fun w => by simp [sizeOf, typeInfo, hi, h1]
  have hf : Instr.fill (fun i => some (i, 1)) (Array.map (fun x => [Value.pointer none][x % 1]?.getD default) (Array.range 1)) [(0, .pointer (some ⟨b, 0, none⟩))] = some #[.pointer (some ⟨b, 0, none⟩)] := by kernel_rfl
  simp [Instr.buildSlice, run_underlying Yba.underlying57, e, e1, Value.cells, newRow, hf]

section
variable {ops : Array Oper} {o : Oper} {a : Act} {w : World} {K : Act → World → Prop} {Q : Exit → Act → World → Prop} {E : Prop}
theorem step_build57 (hg : o.guard = none) (x : Operand) (ho : o.op = Op.buildSlice 57 1 #[(0, x)]) (b : Nat) (hx : a.eval x = .pointer (some ⟨b, 0, none⟩))
    (h : ∀ w', Blk w' w.heap.size [ptr b] 32 → Below w.heap.size w w' → w'.heap.size = w.heap.size + 1 → K (a.put o.dst (.slice (some ⟨w.heap.size, 0, none⟩) 1 1)) w') :
    if Region.wanted o (yielded ops a.tmps) = true then Oper.wp Yba.prog o a w K Q else E := by
  have hw : Region.wanted o (yielded ops a.tmps) = true := by simp [Region.wanted, hg]
  rw [if_pos hw]
  have hK' := h _ (Blk.new w _ _) ((Below.refl _ w).alloc (Nat.le_refl _) _) (by simp)
  unfold Oper.wp
  simp [execOp, ho, hx, run_build57]
  exact hK'

/-- The slice p (n, c) holds the nodes ns; its array is one of the blocks T. -/
def Ptrs (T : Nat → Prop) (w : World) (p : Option Addr) (n c : Nat) (ns : List Nat) : Prop :=
  n = ns.length ∧ ((ns = [] ∧ p = none ∧ c = 0) ∨ ∃ gb ps, p = some ⟨gb, 0, none⟩ ∧ T gb ∧ Blk w gb ps 32 ∧ ps.length = c ∧ ns.length ≤ c ∧ ps.take ns.length = ns.map ptr ∧ ∀ u ∈ ps, u.oneCell' = true)

theorem Ptrs.of_blocks {T T' : Nat → Prop} {w w' : World} {p : Option Addr} {n c : Nat} {ns : List Nat} (h : Ptrs T w p n c ns) (hT : ∀ k, T k → k < w.heap.size → T' k ∧ w'.heap[k]? = w.heap[k]?) : Ptrs T' w' p n c ns := by
  obtain ⟨h0, h | ⟨gb, ps, h1, h2, h3, h4⟩⟩ := h
  · exact ⟨h0, .inl h⟩
  · exact ⟨h0, .inr ⟨gb, ps, h1, (hT gb h2 h3.lt).1, h3.of_block (hT gb h2 h3.lt).2, h4⟩⟩

theorem step_ptrs (hg : o.guard = none) (s x : Operand) (hop : o.op = Op.call { callee := Callee.builtin Builtin.append, args := #[s, x], argTypes := #[57, 57] })
    (T T' : Nat → Prop) (p : Option Addr) (n c : Nat) (ns : List Nat) (b1 nb : Nat) (hP : Ptrs T w p n c ns) (hs : a.eval s = .slice p n c) (hx : a.eval x = .slice (some ⟨b1, 0, none⟩) 1 1) (B1 : Blk w b1 [ptr nb] 32) (hsm : ns.length < 5000)
    (hT : ∀ k, T k → k < w.heap.size → T' k) (hT2 : ∀ k, w.heap.size ≤ k → T' k)
    (h : ∀ w' gb c', Ptrs T' w' (some ⟨gb, 0, none⟩) (n + 1) c' (ns ++ [nb]) → Kept T w w' → K (a.put o.dst (.slice (some ⟨gb, 0, none⟩) (n + 1) c')) w') :
    if Region.wanted o (yielded ops a.tmps) = true then Oper.wp Yba.prog o a w K Q else E := by
  obtain ⟨h0, ⟨h1, h2, h3⟩ | ⟨gb, ps, h1, h2, h3, h4, h5, h6, h7⟩⟩ := hP
  · subst h0 h1 h2 h3
    have hw : Region.wanted o (yielded ops a.tmps) = true := by simp [Region.wanted, hg]
    rw [if_pos hw]
    obtain ⟨i0, hi, h1, h2, hz⟩ := info32_parts
    have hrun := run_append_nil (P := Yba.prog) w 57 o.type 32 i0 _ Yba.underlying57 hi hz ⟨b1, 0, none⟩ 1 1 [ptr nb] (by rw [h1]; rfl) (fun j v hv => by rw [Addr.add_mid, B1.cell, Nat.zero_add]; exact hv) (by omega) (by omega) (by rw [h2]; omega)
    have hge := grownCap_ge w 1 0 32
    generalize grownCap w 1 0 32 = G at *
    have harr : [ptr nb].toArray ++ Builtin.zeroCells (Value.pointer none).cells (G - 1) = ([ptr nb] ++ List.replicate (G - 1) (Value.pointer none)).toArray := by
      rw [zeroPtrs]
      simp
    rw [harr] at hrun
    have hK := h _ w.heap.size G ⟨rfl, .inr ⟨w.heap.size, [ptr nb] ++ List.replicate (G - 1) (Value.pointer none), rfl, hT2 _ (Nat.le_refl _), Blk.new w.drew _ 32, by simp; omega, by simpa using hge, by simp, ?_⟩⟩ (Kept.of_below ((Below.refl _ w).drew.alloc (Nat.le_refl _) _))
    · generalize [ptr nb] ++ List.replicate (G - 1) (Value.pointer none) = X at hrun hK
      unfold Oper.wp
      simp [execOp, hop, resolve, invoke, builtin, hs, hx, hrun] at hK ⊢
      exact hK
    · intro u hu
      rcases List.mem_append.1 hu with hu | hu
      · rw [List.mem_singleton.1 hu]; rfl
      · rw [(List.mem_replicate.1 hu).2]; rfl
  · subst h0 h1
    refine step_any57 hg s x hop gb ns.length c hs ⟨b1, 0, none⟩ 1 1 ps [ptr nb] h3 hx rfl h7 (fun u hu => by rw [List.mem_singleton.1 hu]; rfl) (fun j v hv => by rw [Addr.add_mid, B1.cell, Nat.zero_add]; exact hv) h4 h5 (by omega) ?_
    intro w' b' cap' xs' B' hl ht hle hb hk h1c _
    refine h w' b' cap' ⟨by simp, .inr ⟨b', xs', rfl, ?_, B', hl, by simpa using hle, ?_, h1c⟩⟩ (hk.mono (fun k _ e => e ▸ h2))
    · rcases hb with rfl | hb
      · exact hT _ h2 h3.lt
      · exact hT2 _ hb
    · rw [List.length_append, List.map_append, ← h6]
      exact ht
end
end Go.Proofs.Ybulkbqza
