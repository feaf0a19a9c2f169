/-
  Seat b3381a. The world inside newHosts' first loop.
-/
import Derived.Test.YbulkbqzoPlain
import Derived.Test.YbulkbqzoMap
import Derived.Deep.OwnRows
import Derived.Deep.RegionLaw
namespace Go
/-- append onto a slice of the call's own, as one step of a region that draws. -/
theorem step_append_own {P : Program} {ops : Array Oper} {o : Oper} {a : Act} {w : World} {K : Act → World → Prop} {Q : Exit → Act → World → Prop} {E : Prop}
    (hg : o.guard = none) (s x : Operand) (t : TypeId) (hop : o.op = Op.call { callee := Callee.builtin Builtin.append, args := #[s, x], argTypes := #[t, t] })
    (base : Nat) (e : TypeId) (i : TypeInfo) (z : Value) (size bytes : Nat) (h1 : P.underlying t = some (.slice e)) (h2 : P.info? e = some i) (h3 : i.zero = some z) (h4 : i.size = size) (h5 : i.bytes = bytes) (h6 : z.cells.size = size) (h7 : 0 < size)
    (v : Value) (n : Nat) (xs : List Value) (hs : a.eval s = v) (hown : w.ownsRow base e size v n xs)
    (ad : Addr) (m c : Nat) (news : List Value) (hx : a.eval x = .slice (some ad) m c) (hn : news.length = m * size) (hc : ∀ j u, news[j]? = some u → w.cell? (ad.add j) = some u) (h1c : ∀ u ∈ news, u.oneCell' = true)
    (b1 : n + m ≤ maxLen) (b2 : (n + m) * bytes ≤ 140737488355328) (hbase : base ≤ w.heap.size)
    (hK : ∀ v' w', w'.ownsRow base e size v' (n + m) (xs ++ news) → w.grownBy w' v.ownBlock → K (a.put o.dst v') w') :
    if Region.wanted o (yielded ops a.tmps) = true then Oper.wp P o a w K Q else E := by
  have hw : Region.wanted o (yielded ops a.tmps) = true := by simp [Region.wanted, hg]
  rw [if_pos hw]
  obtain ⟨v', w', hrun, r1, r2, _⟩ := run_append_own (P := P) w base t o.type e i z size bytes h1 h2 h3 h4 h5 h6 h7 v n xs hown ad m c news hn hc h1c b1 b2 hbase
  unfold Oper.wp
  simp [execOp, hop, resolve, invoke, builtin, hs, hx, hrun, Result.andThen]
  exact hK v' w' r1 r2
end Go

namespace Go.Proofs.Ybulkbqzo
open Go.RowKit Go.Maps
open Go.ChangeMaps (setBlock)
set_option linter.unusedVariables false

/-- The four cells of *Run: hosts, events, index, clocks. -/
def runCell (vh vev : Value) (mb : Nat) : Nat → Value
  | 0 => vh
  | 1 => vev
  | 2 => .map (some mb)
  | _ => .pointer none

/-- The cells of a []Event whose i-th event has the host 'hs i' and the line i + 1. -/
def evCell (hs : Nat → ByteArray) (i : Nat) : Value :=
  if i % 4 = 0 then .string (hs (i / 4)) else if i % 4 = 1 then .slice none 0 0 else if i % 4 = 2 then .string ByteArray.empty else .int .i64 ((i / 4 + 1 : Nat) : Int)

theorem evCell0 (hs : Nat → ByteArray) (k : Nat) : evCell hs (k * 4) = .string (hs k) := by
  unfold evCell; rw [if_pos (by omega), show k * 4 / 4 = k by omega]
theorem evCell1 (hs : Nat → ByteArray) (k : Nat) : evCell hs (k * 4 + 1) = .slice none 0 0 := by
  unfold evCell; rw [if_neg (by omega), if_pos (by omega)]
theorem evCell2 (hs : Nat → ByteArray) (k : Nat) : evCell hs (k * 4 + 2) = .string ByteArray.empty := by
  unfold evCell; rw [if_neg (by omega), if_neg (by omega), if_pos (by omega)]
theorem evCell3 (hs : Nat → ByteArray) (k : Nat) : evCell hs (k * 4 + 3) = .int .i64 ((k : Int) + 1) := by
  unfold evCell; rw [if_neg (by omega), if_neg (by omega), if_neg (by omega), show (k * 4 + 3) / 4 = k by omega]; simp

/-- The map at block m0, *Run at m0 + 1, both arrays from m0 + 2 on. -/
structure Lw (w0 : World) (m0 : Nat) (f : List UInt8 → Option Nat) (nm : Nat) (hl : List ByteArray) (cl : List Nat) (vh vc : Value) (w : World) : Prop where
  map : MapIs w m0 f nm
  run : w.rowIs (m0 + 1) 37 4 (runCell vh (.slice none 0 0) m0)
  own1 : w.ownsRow (m0 + 2) 9 1 vh hl.length (hl.map Value.string)
  own2 : w.ownsRow (m0 + 2) 3 1 vc cl.length (cl.map fun (n : Nat) => Value.int .i64 n)
  below : Below m0 w0 w

theorem ownsRow_of_block {w w' : World} {base : Nat} {e : TypeId} {size : Nat} {v : Value} {n : Nat} {xs : List Value} (h : w.ownsRow base e size v n xs) (hb : ∀ b, v.ownBlock = some b → w'.heap[b]? = w.heap[b]?) : w'.ownsRow base e size v n xs := by
  obtain ⟨h1, h2⟩ := h
  refine ⟨h1, ?_⟩
  rcases h2 with h2 | ⟨g, cap, cur, hv, hg, hh, r⟩
  · exact Or.inl h2
  · exact Or.inr ⟨g, cap, cur, hv, hg, by rw [hb g (by rw [hv]; rfl)]; exact hh, r⟩

variable {w0 w w' : World} {m0 nm : Nat} {f : List UInt8 → Option Nat} {hl : List ByteArray} {cl : List Nat} {vh vc : Value}

theorem Lw.ne (h : Lw w0 m0 f nm hl cl vh vc w) : ∀ b, vh.ownBlock = some b → vc.ownBlock ≠ some b := fun b h1 h2 => by
  obtain ⟨_, r1⟩ := h.own1
  obtain ⟨_, r2⟩ := h.own2
  rcases r1 with ⟨r1, _⟩ | ⟨g, cap, cur, hv, hg, hh, _⟩
  · rw [r1] at h1; cases h1
  · rcases r2 with ⟨r2, _⟩ | ⟨g', cap', cur', hv', hg', hh', _⟩
    · rw [r2] at h2; cases h2
    · rw [hv] at h1; rw [hv'] at h2
      simp [Value.ownBlock] at h1 h2
      rw [h1] at hh; rw [h2] at hh'
      rw [hh] at hh'
      simp at hh'

theorem Lw.lt (h : Lw w0 m0 f nm hl cl vh vc w) : m0 + 2 ≤ w.heap.size := by have := h.run.lt; omega

theorem Lw.of_below (h : Lw w0 m0 f nm hl cl vh vc w) (b : Below w.heap.size w w') : Lw w0 m0 f nm hl cl vh vc w' :=
  ⟨h.map.of_block (b.block _ h.map.lt), h.run.of_block (b.block _ h.run.lt), ownsRow_of_block h.own1 (fun k hk => b.block k (h.own1.lt k hk).2), ownsRow_of_block h.own2 (fun k hk => b.block k (h.own2.lt k hk).2), 
    h.below.trans (b.mono (by have := h.lt; omega))⟩

theorem Lw.store (h : Lw w0 m0 f nm hl cl vh vc w) (hn : nm < maxLen) (s : ByteArray) (hs : s.size ≤ maxLen) (v : Nat) (hv : v ≤ 9223372036854775807) :
    ∃ w', (Instr.mapUpdate 34 (.map (some m0)) (.string s) (.int .i64 v)).run Yba.prog w = .ok () w' ∧ w'.heap.size = w.heap.size ∧ (∀ k, k ≠ m0 → w'.heap[k]? = w.heap[k]?) ∧
      Lw w0 m0 (fun l => if l = s.data.toList then some v else f l) (if (f s.data.toList).isSome then nm else nm + 1) hl cl vh vc w' := by
  obtain ⟨w', hrun, hm, ht⟩ := h.map.store hn s hs v hv
  obtain ⟨es, clock, es', clock', hb, rfl⟩ := ht
  have hk : ∀ k, k ≠ m0 → (setBlock w m0 (.map es' clock')).heap[k]? = w.heap[k]? := fun k hk => by
    simp [setBlock, Ne.symm hk]
  refine ⟨_, hrun, by simp [setBlock], hk, hm, h.run.of_block (hk _ (by omega)), ownsRow_of_block h.own1 (fun k e => hk k (by have := (h.own1.lt k e).1; omega)), ownsRow_of_block h.own2 (fun k e => hk k (by have := (h.own2.lt k e).1; omega)), ?_⟩
  exact h.below.trans ⟨rfl, rfl, rfl, by simp [setBlock], fun k hk' => hk k (by omega)⟩

theorem ownsRow_form1 {w : World} {base : Nat} {e : TypeId} {v : Value} {n : Nat} {xs : List Value} (h : w.ownsRow base e 1 v n xs) (hn : 0 < n) : ∃ g cap, v = .slice (some ⟨g, 0, none⟩) n cap ∧ base ≤ g ∧ g < w.heap.size ∧ n ≤ cap ∧ cap ≤ maxLen ∧
    (∀ j u, xs[j]? = some u → w.cell? ⟨g, j, none⟩ = some u) ∧ (∀ j, w.frozen? ⟨g, j, none⟩ = false) := by
  obtain ⟨h1, h2⟩ := h
  rcases h2 with ⟨_, h2⟩ | ⟨g, cap, cur, hv, hg, hh, hc1, hc2, hsz, htk⟩
  · omega
  · refine ⟨g, cap, hv, hg, ?_, hc1, hc2, fun j u hj => ?_, fun j => by simp [World.frozen?, hh]⟩
    · obtain ⟨hlt, _⟩ := Array.getElem?_eq_some_iff.1 hh; exact hlt
    · rw [← htk, List.getElem?_take] at hj
      split at hj
      · simp [World.cell?, hh]
        simpa using hj
      · cases hj

theorem ownsRow_set1 {w : World} {base : Nat} {e : TypeId} {g cap n : Nat} {xs : List Value} (h : w.ownsRow base e 1 (.slice (some ⟨g, 0, none⟩) n cap) n xs) (j : Nat) (hj : j < n) (v : Value) :
    (w.setCell ⟨g, j, none⟩ v).ownsRow base e 1 (.slice (some ⟨g, 0, none⟩) n cap) n (xs.set j v) := by
  obtain ⟨h1, h2⟩ := h
  refine ⟨by simpa using h1, ?_⟩
  rcases h2 with ⟨h2, _⟩ | ⟨g', cap', cur, hv, hg, hh, hc1, hc2, hsz, htk⟩
  · cases h2
  · simp at hv
    obtain ⟨rfl, rfl⟩ := hv
    refine Or.inr ⟨g, cap, cur.setIfInBounds j v, rfl, hg, by simp [World.setCell, Array.getElem?_modify, hh], hc1, hc2, by simpa using hsz, ?_⟩
    rw [← htk]
    simp [List.take_set]

/-- counts[j]++ -/
theorem Lw.bump (h : Lw w0 m0 f nm hl cl vh vc w) {g cap : Nat} (hv : vc = .slice (some ⟨g, 0, none⟩) cl.length cap) (hg : m0 + 2 ≤ g) (j : Nat) (hj : j < cl.length) (c : Nat) :
    Lw w0 m0 f nm hl (cl.set j c) vh vc (w.setCell ⟨g, j, none⟩ (.int .i64 c)) := by
  subst hv
  have hne : ∀ k, k ≠ g → (w.setCell ⟨g, j, none⟩ (.int .i64 c)).heap[k]? = w.heap[k]? := fun k hk => Below.heap_setCell _ _ _ _ hk
  refine ⟨h.map.of_block (hne _ (by omega)), h.run.of_block (hne _ (by omega)), ownsRow_of_block h.own1 (fun k hk => hne k (fun e => h.ne k hk (by rw [e]; rfl))), ?_, ?_⟩
  · have := ownsRow_set1 h.own2 j hj (.int .i64 c)
    simpa [List.map_set] using this
  · exact h.below.setCell (by simpa using (show m0 ≤ g by omega)) _

/-- The new host: what append leaves, and the store into r.Hosts. -/
theorem Lw.host (h : Lw w0 m0 f nm hl cl vh vc w) (hg : w.grownBy w' vh.ownBlock) (s : ByteArray) {vh' : Value} (ho : w'.ownsRow (m0 + 2) 9 1 vh' (hl.length + 1) (hl.map Value.string ++ [.string s])) :
    Lw w0 m0 f nm (hl ++ [s]) cl vh' vc (w'.setCell ⟨m0 + 1, 0, none⟩ vh') := by
  have hne : ∀ k, k ≠ m0 + 1 → (w'.setCell ⟨m0 + 1, 0, none⟩ vh').heap[k]? = w'.heap[k]? := fun k hk => Below.heap_setCell _ _ _ _ hk
  have hgb : ∀ k, k < w.heap.size → vh.ownBlock ≠ some k → w'.heap[k]? = w.heap[k]? := fun k hk hn => hg.block k hk (fun e => hn e.symm)
  have l1 := fun b hb => (h.own1.lt b hb)
  have hvh : ∀ k, k < m0 + 2 → vh.ownBlock ≠ some k := fun k hk e => by have := (l1 k e).1; omega
  have hsz := h.lt
  refine ⟨h.map.of_block ((hne _ (by omega)).trans (hgb _ h.map.lt (hvh _ (by omega)))), ?_, ?_, ?_, ?_⟩
  · have r := (h.run.of_block (w' := w') (hgb _ h.run.lt (hvh _ (by omega)))).set 0 vh'
    refine r.congr fun i hi => ?_
    match i with
    | 0 => rfl
    | 1 => rfl
    | 2 => rfl
    | 3 => rfl
  · have := ownsRow_of_block (w' := w'.setCell ⟨m0 + 1, 0, none⟩ vh') ho (fun b hb => hne b (by have := (ho.lt b hb).1; omega))
    simpa using this
  · exact ownsRow_of_block h.own2 (fun b hb => (hne b (by have := (h.own2.lt b hb).1; omega)).trans (hgb b (h.own2.lt b hb).2 (fun e => h.ne b e hb)))
  · exact (h.below.grown hg (by omega) (fun k hk => by have := (l1 k hk).1; omega)).setCell (by show m0 ≤ m0 + 1; omega) _

/-- The new count: what append leaves. -/
theorem Lw.count (h : Lw w0 m0 f nm hl cl vh vc w) (hg : w.grownBy w' vc.ownBlock) (c : Nat) {vc' : Value} (ho : w'.ownsRow (m0 + 2) 3 1 vc' (cl.length + 1) ((cl.map fun (n : Nat) => Value.int .i64 n) ++ [.int .i64 c])) :
    Lw w0 m0 f nm hl (cl ++ [c]) vh vc' w' := by
  have hgb : ∀ k, k < w.heap.size → vc.ownBlock ≠ some k → w'.heap[k]? = w.heap[k]? := fun k hk hn => hg.block k hk (fun e => hn e.symm)
  have l1 := fun b hb => (h.own2.lt b hb)
  have hvh : ∀ k, k < m0 + 2 → vc.ownBlock ≠ some k := fun k hk e => by have := (l1 k e).1; omega
  have hsz := h.lt
  refine ⟨h.map.of_block (hgb _ h.map.lt (hvh _ (by omega))), h.run.of_block (hgb _ h.run.lt (hvh _ (by omega))), ownsRow_of_block h.own1 (fun b hb => hgb b (h.own1.lt b hb).2 (h.ne b hb)), by simpa using ho, ?_⟩
  · exact h.below.grown hg (by omega) (fun k hk => by have := (l1 k hk).1; omega)

theorem Lw.run_after (h : Lw w0 m0 f nm hl cl vh vc w) (hg : w.grownBy w' vh.ownBlock) : w'.rowIs (m0 + 1) 37 4 (runCell vh (.slice none 0 0) m0) :=
  h.run.of_block (hg.block _ h.run.lt (fun e => by have := (h.own1.lt _ e.symm).1; omega))

/-- As the first loop begins. -/
theorem lw_start (w : World) : Lw w w.heap.size (fun _ => none) 0 [] [] (.slice none 0 0) (.slice none 0 0)
    ((w.alloc (Obj.map #[] 0)).alloc (Obj.cells #[Value.slice none 0 0, Value.slice none 0 0, Value.map (some w.heap.size), Value.pointer none] 37)) := by
  refine ⟨(MapIs.made w).of_block (Below.heap_alloc _ _ _ (by simp)), ?_, World.ownsRow_nil _ _ _ _, World.ownsRow_nil _ _ _ _, ((Below.refl _ _).alloc (Nat.le_refl _) _).alloc (by simp) _⟩
  have h := World.rowIs_alloc (w.alloc (Obj.map #[] 0)) #[Value.slice none 0 0, Value.slice none 0 0, Value.map (some w.heap.size), Value.pointer none] 37 (runCell (.slice none 0 0) (.slice none 0 0) w.heap.size)
    (fun i hi => by
      have : i < 4 := hi
      match i with
      | 0 => rfl
      | 1 => rfl
      | 2 => rfl
      | 3 => rfl)
  simpa using h

theorem map_fst_set (P : List (ByteArray × Nat)) (j : Nat) (hj : j < P.length) (c : Nat) : (P.set j (P[j].1, c)).map (·.1) = P.map (·.1) := by
  rw [List.map_set]
  apply List.ext_getElem (by simp)
  intro n h1 h2
  rw [List.getElem_set]
  split
  · rename_i hh; subst hh; simp
  · rfl

/-- The round in which the name is known. -/
theorem lw_hit {hs : Nat → ByteArray} {k : Nat} {P : List (ByteArray × Nat)} (inv : Inv hs k P) (idx : Idx (P.map (·.1)) f) {g cap : Nat}
    (lw : Lw w0 m0 f P.length (P.map (·.1)) (P.map (·.2)) vh (.slice (some ⟨g, 0, none⟩) P.length cap) w) (hg : m0 + 2 ≤ g) (j : Nat) (hj : j < P.length) (e : P[j].1 = hs k) {x : Int} (hx : x = (P[j].2 : Int) + 1) :
    ∃ P', Inv hs (k + 1) P' ∧ Idx (P'.map (·.1)) f ∧ Lw w0 m0 f P'.length (P'.map (·.1)) (P'.map (·.2)) vh (.slice (some ⟨g, 0, none⟩) P.length cap) (w.setCell ⟨g, j, none⟩ (.int .i64 x)) := by
  refine ⟨P.set j (P[j].1, P[j].2 + 1), inv.hit j hj e, by rw [map_fst_set]; exact idx, ?_⟩
  rw [map_fst_set, List.map_set, List.length_set]
  have := lw.bump (g := g) (cap := cap) (by simp) hg j (by simpa using hj) (P[j].2 + 1)
  rw [hx]
  simpa using this

/-- The round in which the name is new. -/
theorem lw_miss {hs : Nat → ByteArray} {k : Nat} {P : List (ByteArray × Nat)} (inv : Inv hs k P) (idx : Idx (P.map (·.1)) f) (hm : hs k ∉ P.map (·.1)) {vh' vc' : Value}
    (lw : Lw w0 m0 (fun l => if l = (hs k).data.toList then some P.length else f l) (P.length + 1) (P.map (·.1) ++ [hs k]) (P.map (·.2) ++ [1]) vh' vc' w) :
    ∃ P' f', Inv hs (k + 1) P' ∧ Idx (P'.map (·.1)) f' ∧ Lw w0 m0 f' P'.length (P'.map (·.1)) (P'.map (·.2)) vh' vc' w := by
  refine ⟨P ++ [(hs k, 1)], fun l => if l = (hs k).data.toList then some P.length else f l, inv.miss hm, ?_, ?_⟩
  · have := idx.snoc (hs k) hm
    simpa using this
  · simpa using lw

end Go.Proofs.Ybulkbqzo
