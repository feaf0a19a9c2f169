/-
  Seat b3380a. make as a step of a region that draws; a node's parts.
-/
import Derived.Test.YbulkbqzaChild
namespace Go.Proofs.Ybulkbqza
open Go.RowKit
set_option linter.unusedVariables false

section
variable {ops : Array Oper} {o : Oper} {a : Act} {w : World} {K : Act → World → Prop} {Q : Exit → Act → World → Prop} {E : Prop}
theorem step_mk30 (hg : o.guard = none) (l c : Operand) (ho : o.op = Op.makeSlice 28 l c) (kl kc : IntKind) (ln n : Nat) (hl : a.eval l = .int kl (ln : Nat)) (hc : a.eval c = .int kc (n : Nat)) (hln : ln ≤ n) (hn : n < 1000000) (nb : Nat) (hnb : w.heap.size = nb)
    (h : ∀ w', Blk w' nb (ids (List.replicate n 0)) 30 → Below nb w w' → w'.heap.size = nb + 1 → K (a.put o.dst (.slice (some ⟨nb, 0, none⟩) ln n)) w') :
    if Region.wanted o (yielded ops a.tmps) = true then Oper.wp Yba.prog o a w K Q else E := by
  have hw : Region.wanted o (yielded ops a.tmps) = true := by simp [Region.wanted, hg]
  rw [if_pos hw]
  subst hnb
  obtain ⟨i0, hi, h1, h2, hz⟩ := info30_parts
  have hrun := run_make (P := Yba.prog) w 28 30 i0 _ Yba.underlying28 hi hz kl kc (ln : Int) (n : Int) (by omega) (by omega) (by rw [h2]; omega) (by omega)
  simp only [Int.toNat_natCast, h1, made30] at hrun
  have hK' := h _ (Blk.new w _ _) ((Below.refl _ w).alloc (Nat.le_refl _) _) (by simp)
  unfold Oper.wp
  simp [execOp, ho, hl, hc, hrun]
  exact hK'
theorem step_mk57 (hg : o.guard = none) (l c : Operand) (ho : o.op = Op.makeSlice 57 l c) (kl kc : IntKind) (ln n : Nat) (hl : a.eval l = .int kl (ln : Nat)) (hc : a.eval c = .int kc (n : Nat)) (hln : ln ≤ n) (hn : n < 1000000) (nb : Nat) (hnb : w.heap.size = nb)
    (h : ∀ w', Blk w' nb (List.replicate n (Value.pointer none)) 32 → Below nb w w' → w'.heap.size = nb + 1 → K (a.put o.dst (.slice (some ⟨nb, 0, none⟩) ln n)) w') :
    if Region.wanted o (yielded ops a.tmps) = true then Oper.wp Yba.prog o a w K Q else E := by
  have hw : Region.wanted o (yielded ops a.tmps) = true := by simp [Region.wanted, hg]
  rw [if_pos hw]
  subst hnb
  obtain ⟨i0, hi, h1, h2, hz⟩ := info32_parts
  have hrun := run_make (P := Yba.prog) w 57 32 i0 _ Yba.underlying57 hi hz kl kc (ln : Int) (n : Int) (by omega) (by omega) (by rw [h2]; omega) (by omega)
  simp only [Int.toNat_natCast, h1, made32] at hrun
  have hK' := h _ (Blk.new w _ _) ((Below.refl _ w).alloc (Nat.le_refl _) _) (by simp)
  unfold Oper.wp
  simp [execOp, ho, hl, hc, hrun]
  exact hK'

/-- append where there is room, as a step: the ids ys behind the first n. -/
theorem step_app30 (hg : o.guard = none) (s x : Operand) (hop : o.op = Op.call { callee := Callee.builtin Builtin.append, args := #[s, x], argTypes := #[28, 28] })
    (b n cap : Nat) (hs : a.eval s = .slice (some ⟨b, 0, none⟩) n cap) (ad : Addr) (m c : Nat) (xs ys : List Nat) (hB : Blk w b (ids xs) 30) (hx : a.eval x = .slice (some ad) m c) (hm : ys.length = m)
    (hc : ∀ j u, (ids ys)[j]? = some u → w.cell? (ad.add j) = some u) (hroom : n + m ≤ cap) (hcap : cap = xs.length)
    (h : ∀ w', Blk w' b (ids (xs.take n ++ ys ++ xs.drop (n + m))) 30 → Kept (· = b) w w' → K (a.put o.dst (.slice (some ⟨b, 0, none⟩) (n + m) cap)) w') :
    if Region.wanted o (yielded ops a.tmps) = true then Oper.wp Yba.prog o a w K Q else E := by
  subst hm
  obtain ⟨i0, hi, h1, _⟩ := info30_parts
  have T : w.there b (n * 20) (ys.length * 20) := hB.idsT (by omega)
  refine step_append_room hg s x 28 hop 30 i0 20 Yba.underlying28 hi h1 b 0 n cap hs ad ys.length c (ids ys) hx (ids_length ys) hc (ids_one ys) hroom (fun j hj => by rw [Nat.zero_add]; exact T j (by rw [ids_length] at hj; exact hj)) ?_
  rw [Nat.zero_add]
  exact h _ (hB.idsS (by omega)) (Kept.setCells (S := (· = b)) (Kept.refl _ w) (.inr rfl) _ _)
theorem step_app57 (hg : o.guard = none) (s x : Operand) (hop : o.op = Op.call { callee := Callee.builtin Builtin.append, args := #[s, x], argTypes := #[57, 57] })
    (b n cap : Nat) (hs : a.eval s = .slice (some ⟨b, 0, none⟩) n cap) (ad : Addr) (m c : Nat) (xs ys : List Value) (hB : Blk w b xs 32) (hx : a.eval x = .slice (some ad) m c) (hm : ys.length = m) (h1c : ∀ u ∈ ys, u.oneCell' = true)
    (hc : ∀ j u, ys[j]? = some u → w.cell? (ad.add j) = some u) (hroom : n + m ≤ cap) (hcap : cap = xs.length)
    (h : ∀ w', Blk w' b (xs.take n ++ ys ++ xs.drop (n + m)) 32 → Kept (· = b) w w' → K (a.put o.dst (.slice (some ⟨b, 0, none⟩) (n + m) cap)) w') :
    if Region.wanted o (yielded ops a.tmps) = true then Oper.wp Yba.prog o a w K Q else E := by
  subst hm
  obtain ⟨i0, hi, h1, _⟩ := info32_parts
  refine step_append_room hg s x 57 hop 32 i0 1 Yba.underlying57 hi h1 b 0 n cap hs ad ys.length c ys hx (by omega) hc h1c hroom (fun j hj => by
    have := hB.there (o := n) (n := ys.length) (by omega) j hj
    rwa [show 0 + n * 1 + j = n + j by omega]) ?_
  rw [show 0 + n * 1 = n by omega]
  have := hB.setCells (o := n) (vs := ys)
  rw [splice_eq _ _ _ (by omega)] at this
  exact h _ this (Kept.setCells (S := (· = b)) (Kept.refl _ w) (.inr rfl) _ _)
end

theorem Kept.of_below_ge {S : Nat → Prop} {w w' : World} {n : Nat} (h : Below n w w') (hn : w.heap.size ≤ n) : Kept S w w' := Kept.of_below (h.mono hn)
end Go.Proofs.Ybulkbqza
