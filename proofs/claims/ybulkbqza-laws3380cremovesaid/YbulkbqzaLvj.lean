/-
  Seat b3380a. What treeOf's second loop keeps; laws of 20 cells within a round.
-/
import Derived.Test.YbulkbqzaLvi
namespace Go.Proofs.Ybulkbqza
open Go.RowKit
set_option linter.unusedVariables false

section
variable {ops : Array Oper} {rest : List Oper} {op : Oper} {a : Act} {w : World} {Q : Exit → Act → World → Prop} {l n : Nat}
theorem ld30In (hgd : op.guard = none) (x : Operand) (ho : op.op = .load 30 x) (b o : Nat) (hx : a.eval x = .pointer (some ⟨b, o, none⟩)) (v : Nat) (hc : w.rangeAt b o (idc v))
    (h : wpListIn (Fence.wide.inRound l) n Yba.prog ops Q rest (a.put op.dst (.agg (idc v).toArray)) w) : wpListIn (Fence.wide.inRound l) n Yba.prog ops Q (op :: rest) a w :=
  wpListIn_plain hgd fun K hK => oper_round (fun c h => by rw [ho] at h; cases h) (wp_load_mid 30 x ho b o hx (idc v) _ hc Yba.underlying30 rfl (by rw [idc_length]; exact info30) (hK _ _ h))
theorem st30In (hgd : op.guard = none) (hd : op.dst = none) (x y : Operand) (ho : op.op = .store 30 x y) (b o : Nat) (v : Nat) (hx : a.eval x = .pointer (some ⟨b, o, none⟩)) (hy : a.eval y = .agg (idc v).toArray) (hT : w.there b o 20)
    (h : wpListIn (Fence.wide.inRound l) n Yba.prog ops Q rest a (w.setCells b o (idc v))) : wpListIn (Fence.wide.inRound l) n Yba.prog ops Q (op :: rest) a w :=
  wpListIn_plain hgd fun K hK => oper_round (fun c h => by rw [ho] at h; cases h) (wp_store_mid 30 x y ho b o (idc v).toArray hx hy (by simpa [idc_length] using hT) (by simpa [idc_length] using info30) (all_oneCell_toArray (idc_one v)) (by rw [hd]; exact hK _ _ h))
theorem mk30In (hgd : op.guard = none) (x y : Operand) (ho : op.op = Op.makeSlice 28 x y) (kl kc : IntKind) (ln m : Nat) (hl : a.eval x = .int kl (ln : Nat)) (hc : a.eval y = .int kc (m : Nat)) (hln : ln ≤ m) (hn : m < 1000000) (nb : Nat) (hnb : w.heap.size = nb)
    (h : ∀ w', Blk w' nb (ids (List.replicate m 0)) 30 → Below nb w w' → w'.heap.size = nb + 1 → wpListIn (Fence.wide.inRound l) n Yba.prog ops Q rest (a.put op.dst (.slice (some ⟨nb, 0, none⟩) ln m)) w') : wpListIn (Fence.wide.inRound l) n Yba.prog ops Q (op :: rest) a w :=
  wpListIn_plain hgd fun K hK => oper_round (fun c h => by rw [ho] at h; cases h) (by
    have := step_mk30 (ops := ops) (o := op) (a := a) (w := w) (K := K) (Q := Q) (E := True) hgd x y ho kl kc ln m hl hc hln hn nb hnb (fun w' h1 h2 h3 => hK _ _ (h w' h1 h2 h3))
    rwa [if_pos (by simp [Region.wanted, hgd])] at this)
end

def mk (D : Nat) : Deferred := { target := .collected D, args := #[] }
/-- What is left behind by the loops done. -/
structure Marks (k0 : Nat) (W : World) (Ds : List Nat) : Prop where
  nodup : Ds.Nodup
  all : ∀ D ∈ Ds, W.heap[D]? = some (.deferred (some []))
  ge : ∀ D ∈ Ds, k0 ≤ D

theorem Marks.kept {U : Nat → Prop} {k0 : Nat} {W W' : World} {Ds : List Nat} (h : Marks k0 W Ds) (k : Kept U W W') (hU : ∀ D ∈ Ds, ¬ U D) : Marks k0 W' Ds :=
  ⟨h.nodup, fun D hD => (k.block D (Array.getElem?_eq_some_iff.1 (h.all D hD)).1 (hU D hD)).trans (h.all D hD), h.ge⟩

theorem leaves_marks {F : Fence} {n : Nat} {P : Program} {fn : Func} {tmps : Array Value} {R : Ending → World → Prop} : ∀ (Ds : List Nat) (W : World), Ds.Nodup → (∀ D ∈ Ds, W.heap[D]? = some (.deferred (some []))) → (∀ W', Kept (· ∈ Ds) W W' → LeavesInM F n P fn tmps R [] .returning W') → LeavesInM F n P fn tmps R (Ds.map mk) .returning W
  | [], W, _, _, h => h W (Kept.refl _ _)
  | D :: Ds, W, hn, ha, h => by
    refine ⟨by simp, .inl ⟨D, _, rfl, run_takeDeferred (ha D (by simp)), ?_⟩⟩
    rw [List.nodup_cons] at hn
    have k1 : Kept (· ∈ D :: Ds) W (W.putObj D (.deferred none)) := ⟨rfl, rfl, rfl, by simp, fun k _ hk => World.putObj_heap_other (fun e => hk (by simp [e]))⟩
    refine leaves_marks Ds _ hn.2 (fun D' hD' => (World.putObj_heap_other (by intro e; subst e; exact hn.1 hD')).trans (ha D' (by simp [hD']))) (fun W' k => h W' (k1.trans (k.mono (fun b _ hb => by simp [hb]))))

/-- Between two rounds of the second loop: a level whole. -/
structure L2 (w : World) (k0 g cap : Nat) (xs : List Nat) (W : World) (Ds : List Nat) (p : Option Addr) (n c d : Nat) (es : List Kid) : Prop where
  bx : Bx w k0 g cap xs.length W
  box : Blk W (k0 + 3) [.slice p n c] 57
  sz : k0 + 4 < W.heap.size
  ptrs : Ptrs (fun k => k0 + 4 < k ∧ k ∉ ownOf es) W p n c (es.map Kid.nb)
  lev : Lev d W es xs
  pos : 1 ≤ es.length
  dep : d + es.length < 600
  new : ∀ b ∈ ownOf es, k0 + 4 < b
  marks : Marks k0 W Ds

theorem L1.done {w : World} {k0 g cap : Nat} {xs : List Nat} {r : Nat} {pre : List (Fin r)} {W : World} {p : Option Addr} {n c : Nat} {L : List Kid} (h : L1 w k0 g cap xs r pre W p n c L) (hr : Runs xs.length r) (hpos : 1 ≤ xs.length) (hl : xs.length < 4000)
    (hp : pre.map (·.1) = List.range r) {D : Nat} (hD : W.heap[D]? = some (.deferred (some []))) (hk : k0 ≤ D) : L2 w k0 g cap xs W [D] p n c 0 L := by
  have hlen : L.length = r := by
    have h1 := congrArg List.length h.ks
    have h2 := congrArg List.length hp
    simp at h1 h2
    omega
  have h3 := hr.le (by omega)
  exact ⟨h.bx, h.box, h.sz, h.ptrs, lev_zero hr hpos pre hp h.ks h.good h.len h.nodup, by have := hr.pos; omega, by omega, h.new, ⟨by simp, by simpa using hD, by simpa using hk⟩⟩

/-- Within a round of the second loop: the inner nodes so far. -/
structure L3 (u : Nat) (W0 : World) (es : List Kid) (r : Nat) (pre : List (Fin r)) (W : World) (p : Option Addr) (n c : Nat) (L : List Kid) : Prop where
  bel : Below u W0 W
  box : Blk W u [.slice p n c] 57
  sz : u + 1 < W.heap.size
  ptrs : Ptrs (fun k => u + 1 < k ∧ k ∉ ownOf L) W p n c (L.map Kid.nb)
  len : L.length = pre.length
  made : ∀ q ∈ L.zip pre, Made W q.1 (seg es (es.length * q.2.1 / r) (es.length * (q.2.1 + 1) / r))
  nodup : (ownOf L).Nodup
  new : ∀ b ∈ ownOf L, u + 1 < b

theorem mem_zip_left {β γ : Type} : ∀ {L : List β} {M : List γ}, L.length = M.length → ∀ {x : β}, x ∈ L → ∃ y, (x, y) ∈ L.zip M
  | [], _, _, _, hx => by cases hx
  | a :: L, [], h, _, _ => by simp at h
  | a :: L, b :: M, h, x, hx => by
    rcases List.mem_cons.1 hx with rfl | hx
    · exact ⟨b, by simp⟩
    · obtain ⟨y, hy⟩ := mem_zip_left (M := M) (by simpa using h) hx
      exact ⟨y, by simp [hy]⟩

theorem L3.ownMade {u : Nat} {W0 : World} {es : List Kid} {r : Nat} {pre : List (Fin r)} {W : World} {p : Option Addr} {n c : Nat} {L : List Kid} (h : L3 u W0 es r pre W p n c L) : ∀ b ∈ ownOf L, ∃ q ∈ L.zip pre, b ∈ q.1.own := by
  intro b hb
  obtain ⟨e, he, hb⟩ := List.mem_flatMap.1 hb
  obtain ⟨y, hy⟩ := mem_zip_left h.len he
  exact ⟨_, hy, hb⟩
theorem L3.lt {u : Nat} {W0 : World} {es : List Kid} {r : Nat} {pre : List (Fin r)} {W : World} {p : Option Addr} {n c : Nat} {L : List Kid} (h : L3 u W0 es r pre W p n c L) : ∀ b ∈ ownOf L, b < W.heap.size := fun b hb => by
  obtain ⟨q, hq, hb⟩ := h.ownMade b hb
  exact (h.made q hq).lt b hb
theorem mem_own_zip {r : Nat} {L : List Kid} {pre : List (Fin r)} {q : Kid × Fin r} (hq : q ∈ L.zip pre) {b : Nat} (hb : b ∈ q.1.own) : b ∈ ownOf L := mem_ownOf (List.of_mem_zip hq).1 hb

theorem L3.own {u : Nat} {W0 : World} {es : List Kid} {r : Nat} (B : Nat) (hu : W0.heap.size = u) (hB : u ≤ B) : OwnFrom B (fun (pre : List (Fin r)) W => ∃ p n c L, L3 u W0 es r pre W p n c L) := by
  rintro pre W W' row ⟨p, n, c, L, h⟩ hg hr
  have k := kept_grown hg hr
  refine ⟨p, n, c, L, h.bel.trans (k.below (by have := h.sz; omega) (fun b hb h' => by omega)), h.box.kept k (fun h' => h'.2 h.box.cel), Nat.lt_of_lt_of_le h.sz k.size, ?_, h.len, ?_, h.nodup, h.new⟩
  · obtain ⟨h0, h1 | ⟨gb, ps, h1, h2, h3, h4⟩⟩ := h.ptrs
    · exact ⟨h0, .inl h1⟩
    · exact ⟨h0, .inr ⟨gb, ps, h1, h2, h3.kept k (fun h' => h'.2 h3.cel), h4⟩⟩
  · intro q hq
    exact (h.made q hq).of_blocks (fun b hb => k.block b ((h.made q hq).lt b hb) (fun h' => h'.2 ((h.made q hq).cel b hb)))

/-- One inner node more. -/
theorem L3.next {u : Nat} {W0 : World} {es : List Kid} {r : Nat} {pre : List (Fin r)} {W W1 W2 W3 : World} {p : Option Addr} {n c : Nat} {L : List Kid} (h : L3 u W0 es r pre W p n c L)
    (x : Fin r) (hk1 : Below W.heap.size W W1) {e : Kid} {sub : List Kid} (hsub : sub = seg es (es.length * x.1 / r) (es.length * (x.1 + 1) / r)) (hM : Made W1 e sub) (hnew : ∀ b ∈ e.own, W.heap.size ≤ b)
    (hk2 : Below W1.heap.size W1 W2)
    (hk3 : Kept (fun k => (u + 1 < k ∧ k ∉ ownOf L) ∧ p = some ⟨k, 0, none⟩ ∧ Cel W k) W2 W3) {gb c' : Nat} (hP : Ptrs (fun k => u + 1 < k ∧ k ∉ ownOf L ∧ k ∉ e.own) W3 (some ⟨gb, 0, none⟩) (n + 1) c' (L.map Kid.nb ++ [e.nb])) (B : Nat) :
    KeepsFrom B W (W3.setCell ⟨u, 0, none⟩ (.slice (some ⟨gb, 0, none⟩) (n + 1) c')) ∧ (W3.setCell ⟨u, 0, none⟩ (.slice (some ⟨gb, 0, none⟩) (n + 1) c')).heap[u + 1]? = W.heap[u + 1]? ∧
      ∃ p' n' c'' L', L3 u W0 es r (pre ++ [x]) (W3.setCell ⟨u, 0, none⟩ (.slice (some ⟨gb, 0, none⟩) (n + 1) c')) p' n' c'' L' := by
  have hz1 := hk1.size
  have hsz := h.sz
  have k3 : Kept (fun k => ((u + 1 < k ∧ k ∉ ownOf L) ∧ p = some ⟨k, 0, none⟩ ∧ Cel W k) ∨ k = u) W2 (W3.setCell ⟨u, 0, none⟩ (.slice (some ⟨gb, 0, none⟩) (n + 1) c')) := Kept.setCell (hk3.mono (fun _ _ h => .inl h)) (p := ⟨u, 0, none⟩) (.inr (.inr rfl)) _
  have k1 : Kept (fun k => ((u + 1 < k ∧ k ∉ ownOf L) ∧ p = some ⟨k, 0, none⟩ ∧ Cel W k) ∨ k = u) W1 (W3.setCell ⟨u, 0, none⟩ (.slice (some ⟨gb, 0, none⟩) (n + 1) c')) := (Kept.of_below hk2).trans k3
  have k : Kept (fun k => ((u + 1 < k ∧ k ∉ ownOf L) ∧ p = some ⟨k, 0, none⟩ ∧ Cel W k) ∨ k = u) W (W3.setCell ⟨u, 0, none⟩ (.slice (some ⟨gb, 0, none⟩) (n + 1) c')) := (Kept.of_below hk1).trans k1
  have hb3 : Blk W3 u [.slice p n c] 57 := ((h.box.below hk1).below hk2).kept hk3 (fun h' => by omega)
  have k4 : Kept (· = u) W3 (W3.setCell ⟨u, 0, none⟩ (.slice (some ⟨gb, 0, none⟩) (n + 1) c')) := Kept.setCell (S := (· = u)) (Kept.refl _ _) (p := ⟨u, 0, none⟩) (.inr rfl) _
  generalize hW4 : W3.setCell ⟨u, 0, none⟩ (.slice (some ⟨gb, 0, none⟩) (n + 1) c') = W4 at *
  have hown : ∀ b ∈ e.own, ¬ (((u + 1 < b ∧ b ∉ ownOf L) ∧ p = some ⟨b, 0, none⟩ ∧ Cel W b) ∨ b = u) := by
    rintro b hb (⟨_, _, cs, t, hc⟩ | rfl)
    · have := hnew b hb; have := hc.lt; omega
    · have := hnew _ hb; omega
  have hold : ∀ b ∈ ownOf L, ¬ (((u + 1 < b ∧ b ∉ ownOf L) ∧ p = some ⟨b, 0, none⟩ ∧ Cel W b) ∨ b = u) := by
    rintro b hb (⟨⟨_, h'⟩, _⟩ | rfl)
    · exact h' hb
    · have := h.new _ hb; omega
  have hnde : e.own.Nodup := by
    obtain ⟨kb, cb, ys, ps, hI, ho, _⟩ := hM
    rw [ho]
    have := hI.hNodup
    exact this.sublist (by simp)
  refine ⟨keepsFrom_of k ?_, k.block _ hsz (by rintro (⟨⟨h', _⟩, _⟩ | h') <;> omega), some ⟨gb, 0, none⟩, n + 1, c', L ++ [e], ?_⟩
  · rintro b (⟨_, _, h'⟩ | rfl)
    · exact h'
    · exact h.box.cel
  · have hap : ownOf (L ++ [e]) = ownOf L ++ e.own := by
      rw [ownOf_append]
      simp [ownOf]
    refine ⟨h.bel.trans (k.below (by omega) (by rintro b hb (⟨⟨h', _⟩, _⟩ | h') <;> omega)), ?_, Nat.lt_of_lt_of_le hsz k.size, ?_, by simp [h.len], ?_, ?_, ?_⟩
    · rw [← hW4]
      exact hb3.set 0 _
    · rw [hap, List.map_append]
      refine (hP.kept k4 (fun b hb e => by omega)).mono ?_
      intro b hb
      exact ⟨hb.1, by rw [List.mem_append]; exact fun h' => h'.elim hb.2.1 hb.2.2⟩
    · intro q hq
      rw [List.zip_append h.len] at hq
      rcases List.mem_append.1 hq with hq | hq
      · exact (h.made q hq).of_blocks (fun b hb => k.block b ((h.made q hq).lt b hb) (hold b (mem_own_zip hq hb)))
      · obtain rfl : q = (e, x) := by simpa using hq
        dsimp only
        rw [← hsub]
        exact hM.of_blocks (fun b hb => k1.block b (hM.lt b hb) (hown b hb))
    · rw [hap, List.nodup_append]
      refine ⟨h.nodup, hnde, fun a ha b hb e => ?_⟩
      have := h.lt a ha
      have := hnew b hb
      omega
    · intro b hb
      rw [hap] at hb
      rcases List.mem_append.1 hb with hb | hb
      · exact h.new b hb
      · have := hnew b hb; omega

/-- A level more. -/
theorem L2.next {w : World} {k0 g cap : Nat} {xs : List Nat} {W0 W : World} {Ds : List Nat} {p0 : Option Addr} {n0 c0 d : Nat} {es : List Kid} (h : L2 w k0 g cap xs W0 Ds p0 n0 c0 d es) (h1 : 1 < es.length) {u : Nat} (hu : W0.heap.size = u)
    {r : Nat} {pre : List (Fin r)} {p : Option Addr} {n c : Nat} {L : List Kid} (h3 : L3 u W0 es r pre W p n c L) (hr : Runs es.length r) (hp : pre.map (·.1) = List.range r) {D : Nat} (hD : W.heap[D]? = some (.deferred (some []))) (hk : u ≤ D) :
    ∃ es', L2 w k0 g cap xs (W.setCell ⟨k0 + 3, 0, none⟩ (.slice p n c)) (D :: Ds) p n c (d + 1) es' ∧ es'.length = r := by
  subst hu
  have hsz := h.sz
  obtain ⟨es', hL, hlen, hnb, hsub⟩ := lev_succ (h.lev.below h3.bel) h1 hr pre hp h3.len h3.made h3.nodup (fun b hb hb' => by have := h3.new b hb; have := h.lev.lt b hb'; omega)
  have k : Kept (· = k0 + 3) W (W.setCell ⟨k0 + 3, 0, none⟩ (.slice p n c)) := Kept.setCell (S := (· = k0 + 3)) (Kept.refl _ _) (p := ⟨k0 + 3, 0, none⟩) (.inr rfl) _
  have hnew : ∀ b ∈ ownOf es', k0 + 4 < b := fun b hb => by
    rcases hsub b hb with hb | hb
    · have := h3.new b hb; omega
    · exact h.new b hb
  have hbx : Bx w k0 g cap xs.length W := h.bx.kept (U := fun _ => False) (Kept.of_below h3.bel) (fun _ _ h => h)
  have hs3 := h3.sz
  refine ⟨es', ⟨hbx.kept k (by intro b hb e; omega), (h.box.below h3.bel).set 0 _, Nat.lt_of_lt_of_le (by omega) k.size, ?_, hL.kept k (fun b hb e => by have := hnew b hb; omega), by have := hr.pos; omega, by have := hr.lt h1; have := h.dep; omega, hnew, ?_⟩, hlen⟩
  · rw [hnb]
    refine (h3.ptrs.kept k (fun b hb e => by omega)).mono ?_
    intro b hb
    exact ⟨by omega, fun hm => by
      rcases hsub b hm with hm | hm
      · exact hb.2 hm
      · have := h.lev.lt b hm; omega⟩
  · have hm : Marks k0 W (D :: Ds) := by
      refine ⟨List.nodup_cons.2 ⟨fun hm => ?_, h.marks.nodup⟩, fun D' hD' => ?_, fun D' hD' => ?_⟩
      · have := (Array.getElem?_eq_some_iff.1 (h.marks.all D hm)).1; omega
      · rcases List.mem_cons.1 hD' with rfl | hD'
        · exact hD
        · exact (h3.bel.block _ (Array.getElem?_eq_some_iff.1 (h.marks.all D' hD')).1).trans (h.marks.all D' hD')
      · rcases List.mem_cons.1 hD' with rfl | hD'
        · omega
        · exact h.marks.ge D' hD'
    refine hm.kept k (fun D' hD' e => ?_)
    subst e
    exact (h.box.below h3.bel).cel.not (hm.all _ hD') rfl
end Go.Proofs.Ybulkbqza
