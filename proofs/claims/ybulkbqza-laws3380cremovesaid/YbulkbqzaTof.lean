/-
  Seat b3380a. treeOf.
-/
import Derived.Test.YbulkbqzaLvj
import Derived.Sort.LoopGhostIn
namespace Go.Proofs.Ybulkbqza
open Go.RowKit
set_option linter.unusedVariables false
set_option maxRecDepth 100000
set_option linter.unusedSimpArgs false
attribute [local go_sem] Oper.semAt_some

def TreeOut (w : World) (xs : List Nat) (e : Ending) (w' : World) : Prop :=
  Below w.heap.size w w' ∧ ((xs = [] ∧ e = .returned (.agg #[.pointer none, .func (.func 10) #[] #[]])) ∨
    ∃ d nb n own, d < 1000 ∧ e = .returned (.agg #[.pointer (some ⟨nb, 0, none⟩), .func (.func 10) #[] #[]]) ∧ Tree d 33 33 w' nb xs n own ∧ (0 < d → 2 ≤ n) ∧ ∀ x ∈ own, w.heap.size ≤ x)

theorem wp_calm {P : Program} {c : Code} {K : Act → World → Prop} {Q : Exit → Act → World → Prop} {a : Act} {w : World} (h : c.wp P (Exit.then K (fun _ _ _ => False)) a w) : c.wp P (Exit.then K Q) a w :=
  Code.wp_mono (fun e a w q => by cases e <;> first | exact q | exact q.elim) h

/-- How long the level is. -/
def lvl (k : Nat) (w : World) : Nat := match w.cell? ⟨k, 0, none⟩ with | some (.slice _ n _) => n | _ => 0
theorem lvl_eq {k : Nat} {w : World} {p : Option Addr} {n c : Nat} {t : TypeId} (h : Blk w k [.slice p n c] t) : lvl k w = n := by
  have : w.cell? ⟨k, 0, none⟩ = some (.slice p n c) := h.cell 0
  simp [lvl, this]

theorem info36 : (Yba.prog.info? 36).map (·.size) = some 2 := by kernel_rfl
theorem step_st36 {ops : Array Oper} {o : Oper} {a : Act} {w : World} {K : Act → World → Prop} {Q : Exit → Act → World → Prop} {E : Prop} (hg : o.guard = none) (hd : o.dst = none) (x y : Operand) (ho : o.op = .store 36 x y) (b off : Nat) (v1 v2 : Value)
    (hx : a.eval x = .pointer (some ⟨b, off, none⟩)) (hy : a.eval y = .agg #[v1, v2]) (hT : w.there b off 2) (h1 : v1.oneCell' = true) (h2 : v2.oneCell' = true) (hK : K a (w.setCells b off [v1, v2])) :
    if Region.wanted o (yielded ops a.tmps) = true then Oper.wp Yba.prog o a w K Q else E := by
  have hw : Region.wanted o (yielded ops a.tmps) = true := by simp [Region.wanted, hg]
  rw [if_pos hw]
  exact wp_store_mid 36 x y ho b off #[v1, v2] hx hy hT info36 (by simp [h1, h2]) (by rw [hd]; exact hK)
theorem st36 {ops : Array Oper} {rest : List Oper} {o : Oper} {a : Act} {w : World} {Q : Exit → Act → World → Prop} (hg : o.guard = none) (hd : o.dst = none) (x y : Operand) (ho : o.op = .store 36 x y) (b off : Nat) (v1 v2 : Value)
    (hx : a.eval x = .pointer (some ⟨b, off, none⟩)) (hy : a.eval y = .agg #[v1, v2]) (hT : w.there b off 2) (h1 : v1.oneCell' = true) (h2 : v2.oneCell' = true) (h : wpList Yba.prog ops Q rest a (w.setCells b off [v1, v2])) : wpList Yba.prog ops Q (o :: rest) a w :=
  wpList_plain hg fun _ hK => wp_store_mid 36 x y ho b off #[v1, v2] hx hy hT info36 (by simp [h1, h2]) (by rw [hd]; exact hK _ _ h)

theorem sum_le : ∀ (ks : List Nat), (∀ v ∈ ks, v < 4294967296) → ks.sum ≤ ks.length * 4294967296
  | [], _ => by simp
  | v :: ks, h => by
    have := sum_le ks (fun x hx => h x (by simp [hx]))
    have := h v (by simp)
    simp
    omega
theorem sum_small (ks : List Nat) (h : ∀ v ∈ ks, v < 4294967296) (hl : ks.length < 4294967296) : ks.sum < 18446744073709551616 := by
  have := sum_le ks h
  omega

theorem flat_sublist {α β : Type} (f : α → List β) : ∀ {l l' : List α}, l.Sublist l' → (l.flatMap f).Sublist (l'.flatMap f)
  | _, _, .slnil => List.Sublist.refl _
  | _, _, .cons a h => by rw [List.flatMap_cons]; exact (flat_sublist f h).trans (List.sublist_append_right _ _)
  | _, _, .cons_cons a h => by rw [List.flatMap_cons, List.flatMap_cons]; exact List.Sublist.append (List.Sublist.refl _) (flat_sublist f h)

set_option maxHeartbeats 1000000 in
theorem treeOf_calls (g cap : Nat) (xs : List Nat) (w : World) (hg : g < w.heap.size) (hI : Ids w g 0 xs) (hcap : xs.length ≤ cap) (hs : xs.Pairwise (· < ·)) (hx : ∀ x ∈ xs, x < 4294967296) (hlen : xs.length < 4000) :
    Calls Yba.prog 8 #[.slice (some ⟨g, 0, none⟩) xs.length cap, .func (.func 10) #[] #[]] w (TreeOut w xs) := by
  refine (callsIn_wide (n := 9)).1 (callsIn_of_wp_marks Yba.func8 rfl trivial (wpIn_wide.2 ?_) rfl)
  simp only [Yba.ntmps8, List.size_toArray, List.length_cons, List.length_nil, Nat.reduceAdd, Nat.reduceSub, Array.replicate_succ, Array.replicate_zero, List.push_toArray, List.append_toArray, List.nil_append, List.cons_append]
  have B0 := Blk.new w [.slice (some ⟨g, 0, none⟩) xs.length cap] 28
  have B1 := Blk.new (w.alloc (.cells #[.slice (some ⟨g, 0, none⟩) xs.length cap] 28)) [.func (.func 10) #[] #[]] 34
  have B2 := Blk.new ((w.alloc (.cells #[.slice (some ⟨g, 0, none⟩) xs.length cap] 28)).alloc (.cells #[.func (.func 10) #[] #[]] 34)) [.pointer none, .nilFunc] 36
  have B3 := Blk.new (((w.alloc (.cells #[.slice (some ⟨g, 0, none⟩) xs.length cap] 28)).alloc (.cells #[.func (.func 10) #[] #[]] 34)).alloc (.cells #[.pointer none, .nilFunc] 36)) [.slice none 0 0] 57
  have hb4 : Below w.heap.size w ((((w.alloc (.cells #[.slice (some ⟨g, 0, none⟩) xs.length cap] 28)).alloc (.cells #[.func (.func 10) #[] #[]] 34)).alloc (.cells #[.pointer none, .nilFunc] 36)).alloc (.cells #[.slice none 0 0] 57)) := ((((Below.refl _ w).alloc (Nat.le_refl _) _).alloc (by simp) _).alloc (by simp; omega) _).alloc (by simp; omega) _
  simp only [World.size_alloc] at B1 B2 B3
  have B0' := ((B0.alloc (.cells #[.func (.func 10) #[] #[]] 34)).alloc (.cells #[.pointer none, .nilFunc] 36)).alloc (.cells #[.slice none 0 0] 57)
  have B1' := (B1.alloc (.cells #[.pointer none, .nilFunc] 36)).alloc (.cells #[.slice none 0 0] 57)
  have B2' := B2.alloc (.cells #[.slice none 0 0] 57)
  by_cases h0 : xs = []
  · subst h0
    clear B0' B1' B2' B3 hb4
    have T4 := B2.there (o := 0) (n := 2) (by simp)
    have hb3 : Below w.heap.size w (((w.alloc (.cells #[.slice (some ⟨g, 0, none⟩) 0 cap] 28)).alloc (.cells #[.func (.func 10) #[] #[]] 34)).alloc (.cells #[.pointer none, .nilFunc] 36)) := (((Below.refl _ w).alloc (Nat.le_refl _) _).alloc (by simp) _).alloc (by simp; omega) _
    go_wp2_with (refine st36 rfl rfl (.tmp 4) (.tmp 19) rfl (w.heap.size + 1 + 1) 0 (.pointer none) (.func (.func 10) #[] #[]) ?_ ?_ T4 rfl rfl ?_; rfl; rfl)
    have B4 := B2.setCells (o := 0) (vs := [.pointer none, .func (.func 10) #[] #[]])
    exact ⟨_, results_cell_row rfl _ _ (w.heap.size + 1 + 1) 36 _ _ _ rfl B4 Yba.underlying36 rfl info36, Below.setCells hb3 (by omega) _ _, .inl ⟨rfl, rfl⟩⟩
  · have hne : ¬ xs.length = 0 := by simpa using h0
    have hni : ¬ (xs.length : Int) = 0 := by omega
    go_wp2_with (go_at_call 21; refine (evenly_calls xs.length _).mono ?_; rintro e V ⟨rfl, Bn, hbV, hsV⟩)
    simp only [World.size_alloc] at Bn hbV hsV
    replace B0 := B0'.below (by simpa using hbV)
    replace B1 := B1'.below (by simpa using hbV)
    replace B2 := B2'.below (by simpa using hbV)
    replace B3 := B3.below (by simpa using hbV)
    have hV := hb4.trans (hbV.mono (by omega))
    clear hb4 hbV B0' B1' B2'
    obtain ⟨k0, hk0⟩ : ∃ k0, w.heap.size = k0 := ⟨_, rfl⟩
    rw [hk0] at hg B0 B1 B2 B3 hV Bn hsV
    simp only [hk0, Nat.add_assoc, Nat.reduceAdd] at B0 B1 B2 B3 hV Bn hsV ⊢
    obtain ⟨r, hr⟩ := runs_ex xs.length
    have hpos : 1 ≤ xs.length := by omega
    refine (wpIn_wide (n := 5)).1 (wpIn_rangeFunc_ownG rfl (by decide) (gf := 37) (lb := #[.pointer (some ⟨k0 + 4, 0, none⟩)]) rfl trivial (enters_of Yba.func37 (by kernel_rfl) rfl) (evenly_stops 4 (k0 + 4) xs.length r V Bn hr (by omega)) (fun h k => k.trans h)
      (fun W l o o' hl ho h1 h2 => World.putObj_heap_other (by omega)) (Below.refl _ _) (fun _ => rfl) (fun pre W => ∃ p n c L, L1 w k0 g cap xs r pre W p n c L) (fun _ _ _ => False) (L1.own _ (by omega)) (fun _ _ _ _ _ hs _ _ => hs)
      ⟨none, 0, 0, [], ⟨B0, B1, B2, hV⟩, B3, by omega, ⟨rfl, .inl ⟨rfl, rfl, rfl⟩⟩, rfl, by simp, by simp, List.Pairwise.nil, by simp [ownOf]⟩
      (fun x => { tmps := #[.slice (some ⟨g, 0, none⟩) xs.length cap, .func (.func 10) #[] #[], .pointer (some ⟨k0, 0, none⟩), .pointer (some ⟨k0 + 1, 0, none⟩), .pointer (some ⟨k0 + 2, 0, none⟩), .pointer (some ⟨k0 + 3, 0, none⟩), .int .i64 (loOf xs.length r x.1 : Nat), .int .i64 (loOf xs.length r (x.1 + 1) : Nat), undef, undef, undef, undef, undef, undef, undef, .slice (some ⟨g, 0, none⟩) xs.length cap, .int .i64 (xs.length : Int), .bool false, undef, undef, .slice (some ⟨g, 0, none⟩) xs.length cap, .int .i64 (xs.length : Int), .func (.func 37) #[] #[.pointer (some ⟨k0 + 4, 0, none⟩)], .int .i64 (loOf xs.length r x.1 : Nat), .int .i64 (loOf xs.length r (x.1 + 1) : Nat), undef, undef, undef, undef, undef, undef, undef, undef, undef, undef, undef, undef, undef, undef, undef, undef, undef, undef, undef, undef, undef, undef, undef, undef, undef, undef, undef, undef, undef, undef, undef, undef, undef, undef, undef, undef, undef, undef, undef, undef, undef, undef, undef, undef, undef, undef, undef, undef, undef, undef, undef, undef, undef, undef], defers := [] }) ?assign ?body ?done ?stop)
    case assign =>
      intro l x W K hK
      clear hI hx hs
      gi_wp2
      exact hK
    case body =>
      rintro l pre x W ⟨p, n, c, L, h⟩ hpre
      have hsg := hr.seg hpos x.2
      have hkl := seg_length xs (xs.length * x.1 / r) (xs.length * (x.1 + 1) / r) hsg.2.1
      have hLl : L.length = pre.length := by have := congrArg List.length h.ks; simpa using this
      have hrl := hr.le (by omega)
      have IdW : Ids W.drew g (0 + xs.length * x.1 / r * 20) (seg xs (xs.length * x.1 / r) (xs.length * (x.1 + 1) / r)) := by
        intro i v hv
        rw [seg_get] at hv
        split at hv
        · have h1 := (hI.of_block (w' := W.drew) (h.bx.bel.block _ hg)) _ v hv
          rw [show 0 + xs.length * x.1 / r * 20 + i * 20 = 0 + (xs.length * x.1 / r + i) * 20 by omega]
          exact h1
        · cases hv
      obtain ⟨lo, hlo⟩ : ∃ lo, loOf xs.length r x.1 = lo := ⟨_, rfl⟩
      obtain ⟨hi, hhi⟩ : ∃ hi, loOf xs.length r (x.1 + 1) = hi := ⟨_, rfl⟩
      rw [hlo, hhi]
      rw [show xs.length * x.1 / r = lo from hlo, show xs.length * (x.1 + 1) / r = hi from hhi] at hsg hkl IdW
      have hlh : (lo : Int) ≤ hi := by omega
      have hhc : (hi : Int) ≤ cap := by omega
      have hlc : ¬ cap = lo := by omega
      obtain ⟨ks, hks⟩ : ∃ ks, ks = seg xs lo hi := ⟨_, rfl⟩
      rw [← hks] at IdW hkl
      have hsub : ks.Sublist xs := by rw [hks]; exact seg_sublist _ _ _
      have hsum : ks.sum < 18446744073709551616 := sum_small ks (fun v hv => hx v (hsub.mem hv)) (by omega)
      have hC := nodeOf_leaf g (0 + lo * 20) (cap - lo) ks W.drew (by have := h.sz; simp; omega) IdW (by omega) (fun v hv => hx v (hsub.mem hv)) (hs.sublist hsub) hsum
      rw [hkl, Nat.zero_add] at hC
      have c3 : W.cell? ⟨k0 + 3, 0, none⟩ = some (.slice p n c) := h.box.cell 0
      have c0 : W.cell? ⟨k0, 0, none⟩ = some (.slice (some ⟨g, 0, none⟩) xs.length cap) := h.bx.keys.cell 0
      have c1 : W.cell? ⟨k0 + 1, 0, none⟩ = some (.func (.func 10) #[] #[]) := h.bx.sum.cell 0
      have hPt := h.ptrs.exact
      have hnn := hPt.1
      rw [List.length_map] at hnn
      have hszW := h.sz
      clear B0 B1 B2 B3 Bn hV IdW
      replace hlo := Hid.mk' hlo
      replace hhi := Hid.mk' hhi
      replace hks := Hid.mk' hks
      replace hkl := Hid.mk' hkl
      replace hnn := Hid.mk' hnn
      refine wpIn_block (round_B (fun w' => w'.cell? ⟨k0 + 3, 0, none⟩ = some (.slice p n c) ∧ w'.cell? ⟨k0, 0, none⟩ = some (.slice (some ⟨g, 0, none⟩) xs.length cap) ∧ w'.cell? ⟨k0 + 1, 0, none⟩ = some (.func (.func 10) #[] #[])) (fun j => j != 9) (by rintro ⟨_, _, h⟩; exact h) (by kernel_rfl) (by kernel_rfl) ⟨c3, c0, c1⟩ (fun hHeld => ?_))
      simp only [List.size_toArray, List.length_cons, List.length_nil, Nat.reduceAdd, Array.replicate_succ, Array.replicate_zero, List.push_toArray, List.append_toArray, List.nil_append, List.cons_append]
      refine wpAnyB_take (i := 0) (v := ?_) rfl (by kernel_rfl) (by kernel_rfl) (by kernel_rfl) (by kernel_rfl) (fun _ _ _ h => h) (Or.inl ⟨by rfl, ?_⟩) hHeld ?_
      rotate_left 1
      · intro w hSw; (try dsimp only at hSw); obtain ⟨q1, q2, q3⟩ := hSw; go_simp <;> with_reducible rfl
      try simp only [Act.put, List.setIfInBounds_toArray, List.set_cons_zero, List.set_cons_succ, List.getElem_toArray, List.getElem_cons_succ, List.getElem_cons_zero]
      refine wpAnyB_take (i := 1) (v := ?_) rfl (by kernel_rfl) (by kernel_rfl) (by kernel_rfl) (by kernel_rfl) (fun _ _ _ h => h) (Or.inl ⟨by rfl, ?_⟩) hHeld ?_
      rotate_left 1
      · intro w hSw; (try dsimp only at hSw); obtain ⟨q1, q2, q3⟩ := hSw; go_simp <;> with_reducible rfl
      try simp only [Act.put, List.setIfInBounds_toArray, List.set_cons_zero, List.set_cons_succ, List.getElem_toArray, List.getElem_cons_succ, List.getElem_cons_zero]
      refine wpAnyB_takeW (i := 2) (v := ?_) rfl (by kernel_rfl) (by kernel_rfl) (by kernel_rfl) (fun _ _ _ h => h) (Or.inl ⟨by rfl, ?_⟩) ?_
      rotate_left 1
      · intro w hSw; go_simp <;> with_reducible rfl
      try simp only [Act.put, List.setIfInBounds_toArray, List.set_cons_zero, List.set_cons_succ, List.getElem_toArray, List.getElem_cons_succ, List.getElem_cons_zero]
      refine wpAnyB_takeW (i := 3) (v := ?_) rfl (by kernel_rfl) (by kernel_rfl) (by kernel_rfl) (fun _ _ _ h => h) (Or.inl ⟨by rfl, ?_⟩) ?_
      rotate_left 1
      · intro w hSw; go_simp <;> with_reducible rfl
      try simp only [Act.put, List.setIfInBounds_toArray, List.set_cons_zero, List.set_cons_succ, List.getElem_toArray, List.getElem_cons_succ, List.getElem_cons_zero]
      refine wpAnyB_takeW (i := 4) (v := ?_) rfl (by kernel_rfl) (by kernel_rfl) (by kernel_rfl) (fun _ _ _ h => h) (Or.inl ⟨by rfl, ?_⟩) ?_
      rotate_left 1
      · intro w hSw; go_simp <;> with_reducible rfl
      try simp only [Act.put, List.setIfInBounds_toArray, List.set_cons_zero, List.set_cons_succ, List.getElem_toArray, List.getElem_cons_succ, List.getElem_cons_zero]
      refine wpAnyB_take (i := 5) (v := ?_) rfl (by kernel_rfl) (by kernel_rfl) (by kernel_rfl) (by kernel_rfl) (fun _ _ _ h => h) (Or.inl ⟨by rfl, ?_⟩) hHeld ?_
      rotate_left 1
      · intro w hSw; (try dsimp only at hSw); obtain ⟨q1, q2, q3⟩ := hSw; go_simp <;> with_reducible rfl
      try simp only [Act.put, List.setIfInBounds_toArray, List.set_cons_zero, List.set_cons_succ, List.getElem_toArray, List.getElem_cons_succ, List.getElem_cons_zero]
      refine wpAnyB_step (i := 6) (by kernel_rfl) rfl (fun Kq hKq => ?_)
      go_simp
      refine hC.mono ?_
      rintro e W1 ⟨nb, own, rfl, hT1, hnew, hb1⟩
      dsimp only
      unfold ptr
      have hHeld := (⟨(hb1.cell (p := ⟨k0 + 3, 0, none⟩) (by simp; omega)).trans c3, (hb1.cell (p := ⟨k0, 0, none⟩) (by simp; omega)).trans c0, (hb1.cell (p := ⟨k0 + 1, 0, none⟩) (by simp; omega)).trans c1⟩ : _ ∧ _ ∧ _)
      refine hKq.out _ _ (fun _ _ => hHeld) ?_
      clear hKq Kq
      try simp only [Act.put, List.setIfInBounds_toArray, List.set_cons_zero, List.set_cons_succ, List.getElem_toArray, List.getElem_cons_succ, List.getElem_cons_zero]
      have hbW1 : Below W.heap.size W W1 := (Below.refl _ W).drew.trans hb1
      have hz1 := hbW1.size
      refine wpAnyB_step (i := 7) (by kernel_rfl) rfl (fun Kq hKq => ?_)
      refine step_build57 rfl (.tmp 31) rfl nb rfl ?_
      intro W2 BX hb2 hs2
      have hHeld := (⟨(hb2.cell (p := ⟨k0 + 3, 0, none⟩) (by simp; omega)).trans hHeld.1, (hb2.cell (p := ⟨k0, 0, none⟩) (by simp; omega)).trans hHeld.2.1, (hb2.cell (p := ⟨k0 + 1, 0, none⟩) (by simp; omega)).trans hHeld.2.2⟩ : _ ∧ _ ∧ _)
      refine hKq.out _ _ (fun _ _ => hHeld) ?_
      clear hKq Kq
      try simp only [Act.put, List.setIfInBounds_toArray, List.set_cons_zero, List.set_cons_succ, List.getElem_toArray, List.getElem_cons_succ, List.getElem_cons_zero]
      have hbW2 : Below W.heap.size W W2 := hbW1.trans (hb2.mono hz1)
      have hP2 := hPt.below hbW2
      have hLlt : ∀ b ∈ ownOf L, b < W.heap.size := fun b hb => by
        obtain ⟨y, hy, hb⟩ := List.mem_flatMap.1 hb
        exact (h.good y hy).tree.lt b hb
      refine wpAnyB_step (i := 8) (by kernel_rfl) rfl (fun Kq hKq => ?_)
      refine step_ptrs rfl (.tmp 25) (.tmp 32) rfl _ (fun k => k0 + 4 < k ∧ k ∉ ownOf L ∧ k ∉ own) p n c _ W1.heap.size nb hP2 rfl rfl BX (by rw [List.length_map]; omega) (fun k hk _ => ⟨hk.1.1, hk.1.2, fun hm => by obtain ⟨cs, t, hc⟩ := hk.2.2; have h5 := hc.lt; have h6 := hnew k hm; simp at h6; omega⟩) (fun k hk => ⟨by omega, fun hm => by have := hLlt k hm; omega, fun hm => by have := hT1.lt k hm; omega⟩) ?_
      intro W3 gb c' hP3 hk3
      have hHeld := (⟨(hk3.cell (p := ⟨k0 + 3, 0, none⟩) (by first | (simp; done) | (simp; omega)) (by first | (simp; done) | (simp; omega))).trans hHeld.1, (hk3.cell (p := ⟨k0, 0, none⟩) (by first | (simp; done) | (simp; omega)) (by first | (simp; done) | (simp; omega))).trans hHeld.2.1, (hk3.cell (p := ⟨k0 + 1, 0, none⟩) (by first | (simp; done) | (simp; omega)) (by first | (simp; done) | (simp; omega))).trans hHeld.2.2⟩ : _ ∧ _ ∧ _)
      refine hKq.out _ _ (fun _ _ => hHeld) ?_
      clear hKq Kq
      try simp only [Act.put, List.setIfInBounds_toArray, List.set_cons_zero, List.set_cons_succ, List.getElem_toArray, List.getElem_cons_succ, List.getElem_cons_zero]
      have c9 := hHeld.1
      have f9 : W3.frozen? ⟨k0 + 3, 0, none⟩ = false := (((h.box.below hbW2)).kept hk3 (fun h' => by omega)).frozen 0
      refine wpAnyB_step (i := 9) (by kernel_rfl) rfl (fun Kq hKq => ?_)
      go_simp
      refine hKq.out _ _ (fun h => absurd h (by decide)) ?_
      clear hKq Kq
      try simp only [Act.put, List.setIfInBounds_toArray, List.set_cons_zero, List.set_cons_succ, List.getElem_toArray, List.getElem_cons_succ, List.getElem_cons_zero]
      refine wpAnyB_done (by kernel_rfl) ?_ _
      rw [← hkl.out] at hT1
      have hN := h.next x hbW1 (by rw [hks.out, ← hlo.out, ← hhi.out]; rfl) hT1 (fun b hb => by simpa using hnew b hb) (by have := hkl.out; omega) (by have := hkl.out; omega) hb2 hk3 hP3 V.heap.size
      exact hN
    case stop =>
      rintro D c pre W _ _ h _
      exact h.elim
    case done =>
      rintro D pre W hD hS ⟨p, n, c, L, h⟩ hDef
      have h2 := h.done hr hpos hlen hS hDef (by omega)
      clear h hDef hS B0 B1 B2 B3 Bn hV hD
      go_wp2_with fail
      refine wp_loop (fun a' W' => ∃ (Ds : List Nat) (p : Option Addr) (n c d : Nat) (es : List Kid) (u8 u34 u35 u36 u37 u38 u39 u73 : Value), L2 w k0 g cap xs W' Ds p n c d es ∧ a' = { tmps := #[.slice (some ⟨g, 0, none⟩) xs.length cap, .func (.func 10) #[] #[], .pointer (some ⟨k0, 0, none⟩), .pointer (some ⟨k0 + 1, 0, none⟩), .pointer (some ⟨k0 + 2, 0, none⟩), .pointer (some ⟨k0 + 3, 0, none⟩), undef, undef, u8, undef, undef, undef, undef, undef, undef, .slice (some ⟨g, 0, none⟩) xs.length cap, .int .i64 (xs.length : Int), .bool false, undef, undef, .slice (some ⟨g, 0, none⟩) xs.length cap, .int .i64 (xs.length : Int), .func (.func 37) #[] #[.pointer (some ⟨k0 + 4, 0, none⟩)], undef, undef, undef, undef, undef, undef, undef, undef, undef, undef, undef, u34, u35, u36, u37, u38, u39, undef, undef, undef, undef, undef, undef, undef, undef, undef, undef, undef, undef, undef, undef, undef, undef, undef, undef, undef, undef, undef, undef, undef, undef, undef, undef, undef, undef, undef, undef, undef, undef, undef, u73, undef, undef, undef, undef, undef], defers := Ds.map mk }) (fun _ W' => lvl (k0 + 3) W') ⟨[D], p, n, c, 0, L, undef, undef, undef, undef, undef, undef, undef, undef, h2, rfl⟩ ?_
      clear h2
      rintro _ W ⟨Ds, p, n, c, d, es, u8, u34, u35, u36, u37, u38, u39, u73, h2, rfl⟩
      have hn : n = es.length := by have := h2.ptrs.1; simpa using this
      have hpos2 := h2.pos
      have hdep := h2.dep
      obtain ⟨gb, ps, rfl, hgbT, Bg, hpl, hple, htk, h1c⟩ : ∃ gb ps, p = some ⟨gb, 0, none⟩ ∧ (k0 + 4 < gb ∧ gb ∉ ownOf es) ∧ Blk W gb ps 32 ∧ ps.length = c ∧ es.length ≤ c ∧ ps.take es.length = (es.map Kid.nb).map ptr ∧ ∀ u ∈ ps, u.oneCell' = true := by
        obtain ⟨_, ⟨h1, _⟩ | ⟨gb, ps, h1, h3, h4, h5, h6, h7, h8⟩⟩ := h2.ptrs
        · simp at h1
          rw [h1] at hpos2
          simp at hpos2
        · rw [List.length_map] at h6 h7
          exact ⟨gb, ps, h1, h3, h4, h5, h6, h7, h8⟩
      have c3 : W.cell? ⟨k0 + 3, 0, none⟩ = some (.slice (some ⟨gb, 0, none⟩) n c) := h2.box.cell 0
      have c1 : W.cell? ⟨k0 + 1, 0, none⟩ = some (.func (.func 10) #[] #[]) := h2.bx.sum.cell 0
      by_cases hm : 1 < es.length
      · have hmi : 1 < (n : Int) := by omega
        replace hn := Hid.mk' hn
        have f3 := h2.box.frozen 0
        have Bu := Blk.new W [.slice none 0 0] 57
        have hbu : Below W.heap.size W (W.alloc (.cells #[.slice none 0 0] 57)) := (Below.refl _ W).alloc (Nat.le_refl _) _
        have c3a : (W.alloc (.cells #[.slice none 0 0] 57)).cell? ⟨k0 + 3, 0, none⟩ = some (.slice (some ⟨gb, 0, none⟩) n c) := (h2.box.alloc _).cell 0
        go_wp2_with (go_at_call 21; refine (evenly_calls n _).mono ?_; rintro e V2 ⟨rfl, Bn2, hbV2, hsV2⟩)
        simp only [World.size_alloc] at Bn2 hbV2 hsV2
        replace Bu := Bu.below (by simpa using hbV2)
        replace hbu := hbu.trans (hbV2.mono (by omega))
        clear hbV2
        obtain ⟨u, hu⟩ : ∃ u, W.heap.size = u := ⟨_, rfl⟩
        simp only [hu, Nat.add_assoc, Nat.reduceAdd] at Bu hbu Bn2 hsV2 ⊢
        obtain ⟨r2, hr2⟩ := runs_ex n
        have hszW := h2.sz
        refine (wpIn_wide (n := 5)).1 (wpIn_rangeFunc_ownG rfl (by decide) (gf := 37) (lb := #[.pointer (some ⟨u + 1, 0, none⟩)]) rfl trivial (enters_of Yba.func37 (by kernel_rfl) rfl) (evenly_stops 4 (u + 1) n r2 V2 Bn2 hr2 (by have := hn.out; omega)) (fun h k => k.trans h)
          (fun W l o o' hl ho h1 h2 => World.putObj_heap_other (by omega)) (Below.refl _ _) (fun _ => rfl) (fun pre Z => ∃ p' n' c' L', L3 u W es r2 pre Z p' n' c' L') (fun _ _ _ => False) (L3.own _ hu (by omega)) (fun _ _ _ _ _ hs _ _ => hs)
          ⟨none, 0, 0, [], hbu, Bu, by omega, ⟨rfl, .inl ⟨rfl, rfl, rfl⟩⟩, rfl, by simp, List.Pairwise.nil, by simp [ownOf]⟩
          (fun x => { tmps := #[.slice (some ⟨g, 0, none⟩) xs.length cap, .func (.func 10) #[] #[], .pointer (some ⟨k0, 0, none⟩), .pointer (some ⟨k0 + 1, 0, none⟩), .pointer (some ⟨k0 + 2, 0, none⟩), .pointer (some ⟨k0 + 3, 0, none⟩), undef, undef, .pointer (some ⟨u, 0, none⟩), .int .i64 (loOf n r2 x.1 : Nat), .int .i64 (loOf n r2 (x.1 + 1) : Nat), undef, undef, undef, undef, .slice (some ⟨g, 0, none⟩) xs.length cap, .int .i64 (xs.length : Int), .bool false, undef, undef, .slice (some ⟨g, 0, none⟩) xs.length cap, .int .i64 (xs.length : Int), .func (.func 37) #[] #[.pointer (some ⟨k0 + 4, 0, none⟩)], undef, undef, undef, undef, undef, undef, undef, undef, undef, undef, undef, .slice (some ⟨gb, 0, none⟩) n c, .int .i64 (n : Int), .bool true, .slice (some ⟨gb, 0, none⟩) n c, .int .i64 (n : Int), .func (.func 37) #[] #[.pointer (some ⟨u + 1, 0, none⟩)], .int .i64 (loOf n r2 x.1 : Nat), .int .i64 (loOf n r2 (x.1 + 1) : Nat), undef, undef, undef, undef, undef, undef, undef, undef, undef, undef, undef, undef, undef, undef, undef, undef, undef, undef, undef, undef, undef, undef, undef, undef, undef, undef, undef, undef, undef, undef, undef, u73, undef, undef, undef, undef, undef], defers := [] }) ?assign ?body ?done ?stop)
        case assign =>
          intro l x Z K hK
          clear hI hx hs
          gi_wp2
          exact hK
        case body =>
          rintro l pre x Z ⟨p', n', c', L', h3⟩ hpre
          have hn' := hn.out
          have hsg := hr2.seg (by omega) x.2
          obtain ⟨lo, hlo⟩ : ∃ lo, loOf n r2 x.1 = lo := ⟨_, rfl⟩
          obtain ⟨hi, hhi⟩ : ∃ hi, loOf n r2 (x.1 + 1) = hi := ⟨_, rfl⟩
          rw [hlo, hhi]
          rw [show n * x.1 / r2 = lo from hlo, show n * (x.1 + 1) / r2 = hi from hhi] at hsg
          obtain ⟨sub, hsub⟩ : ∃ sub, sub = seg es lo hi := ⟨_, rfl⟩
          have hsl : sub.length = hi - lo := by rw [hsub, seg_length _ _ _ (by omega)]
          have hbelZ : Below W.heap.size W Z := by rw [hu]; exact h3.bel
          have BgZ := Bg.below hbelZ
          have levZ := h2.lev.below hbelZ
          have z3 : Z.cell? ⟨k0 + 3, 0, none⟩ = some (.slice (some ⟨gb, 0, none⟩) n c) := (h2.box.below hbelZ).cell 0
          have hlh : (lo : Int) ≤ hi := by omega
          have hhc : (hi : Int) ≤ c := by omega
          have hlc : ¬ c = lo := by omega
          have hz3 := h3.sz
          obtain ⟨z, hz⟩ : ∃ z, Z.heap.size = z := ⟨_, rfl⟩
          have hcg : ∀ i e, sub[i]? = some e → Z.cell? ⟨gb, lo + i, none⟩ = some (.pointer (some ⟨e.nb, 0, none⟩)) := by
            intro i e he
            rw [hsub, seg_get] at he
            split at he
            · rename_i hlt9
              rw [BgZ.cell]
              have h9 := congrArg (·[lo + i]?) htk
              simp only [List.getElem?_take, List.getElem?_map, he] at h9
              rw [if_pos (by omega)] at h9
              simpa [ptr] using h9
            · cases he
          replace hlo := Hid.mk' hlo
          replace hhi := Hid.mk' hhi
          replace hsub := Hid.mk' hsub
          replace hsl := Hid.mk' hsl
          replace hn' := Hid.mk' hn'
          replace hpl := Hid.mk' hpl
          gi_wp2_with (refine mk30In rfl (.tmp 47) (.tmp 47) rfl .i64 .i64 (hi - lo) (hi - lo) ?_ ?_ (Nat.le_refl _) (by omega) z hz ?_; rfl; rfl; intro Z1 BZ bZ1 sZ1)
          obtain ⟨m, hm9⟩ : ∃ m, hi - lo = m := ⟨_, rfl⟩
          rw [hm9] at BZ hsg ⊢
          have hsl' : Hid (sub.length = m) := Hid.mk' (by rw [hsl.out, hm9])
          have hm0 : 0 < m ∧ m ≤ 32 := by omega
          replace hm9 := Hid.mk' hm9
          clear hsl
          gi_loopg [51] m (fun k s51 wr => ∃ i : Nat, s51 = .int .i64 i ∧ i + k = m ∧ Blk wr z (ids ((sub.map Kid.bd).take i ++ List.replicate k 0)) 30 ∧ Below z Z wr)
          case atStart => exact ⟨0, rfl, by omega, by simpa using BZ, bZ1⟩
          case round =>
            clear BZ bZ1 sZ1
            obtain ⟨i, rfl, hik, BZ, bZ⟩ := hrel
            cases gk with
            | zero =>
              obtain rfl : i = m := by omega
              rw [List.take_of_length_le (by rw [List.length_map, hsl'.out]; omega), List.replicate_zero, List.append_nil] at BZ
              clear hik
              have bZ' : Below Z.heap.size Z wr := by rw [hz]; exact bZ
              have bZd : Below Z.heap.size Z wr.drew := bZ'.trans ((Below.refl _ wr).drew.mono bZ'.size)
              have hsl9 := hsl'.out
              have hsubl : sub.Sublist es := by rw [hsub.out]; exact seg_sublist _ _ _
              have levD := levZ.below bZd
              have hksub : (keysOf sub).Sublist xs := by have h9 := flat_sublist Kid.ks hsubl; rw [← levD.keys]; exact h9
              have hown9 : (ownOf sub).Nodup := levD.nodup.sublist (flat_sublist Kid.own hsubl)
              have hord : Ord sub := ord_of (fun e he => (levD.good e (hsubl.mem he)).head) (hs.sublist hksub)
              have hkl9 := hksub.length_le
              have hBl := BZ.lt
              have hC := nodeOf_inner d z 0 i gb lo (c - lo) sub wr.drew (by simpa using BZ.lt) (by have h9 := BZ.drew.ids 0 (zs := sub.map Kid.bd) (by simp); simpa using h9) (by have h9 := BgZ.lt; have h8 := bZd.size; omega)
                (by
                  intro j v hv
                  rw [List.getElem?_map] at hv
                  cases hj : sub[j]? with
                  | none => rw [hj] at hv; cases hv
                  | some e =>
                    rw [hj] at hv
                    cases hv
                    exact (World.cell?_of_block (w := Z) (a := ⟨gb, lo + j, none⟩) (bZd.block _ BgZ.lt)).trans (hcg j e hj))
                (by omega) (by omega) (fun e he => ⟨levD.big hm e (hsubl.mem he), (levD.good e (hsubl.mem he)).le, (levD.good e (hsubl.mem he)).tree⟩) hord hown9 (fun e he => (levD.good e (hsubl.mem he)).small)
                (sum_small _ (fun v hv => hx v (hksub.mem hv)) (by omega)) (by omega)
              rw [hsl9] at hC
              have cu : wr.cell? ⟨u, 0, none⟩ = some (.slice p' n' c') := (h3.box.below bZ').cell 0
              have cf : wr.cell? ⟨k0 + 1, 0, none⟩ = some (.func (.func 10) #[] #[]) := ((h2.bx.sum.below hbelZ).below bZ').cell 0
              have hPt := h3.ptrs.exact
              have hLlt := h3.lt
              have hnn := hPt.1
              rw [List.length_map] at hnn
              have hk9 := h2.sz
              have hr9 := hr2.le (by have := hn.out; omega)
              have hLl := h3.len
              clear hcg hsl9
              replace hnn := Hid.mk' hnn
              gi_wp2_with fail
              refine round_B (fun w' => w'.cell? ⟨u, 0, none⟩ = some (.slice p' n' c') ∧ w'.cell? ⟨k0 + 1, 0, none⟩ = some (.func (.func 10) #[] #[])) (fun j => j != 7) (by rintro ⟨_, _, h⟩; exact h) (by kernel_rfl) (by kernel_rfl) ⟨cu, cf⟩ (fun hHeld => ?_)
              simp only [List.size_toArray, List.length_cons, List.length_nil, Nat.reduceAdd, Array.replicate_succ, Array.replicate_zero, List.push_toArray, List.append_toArray, List.nil_append, List.cons_append]
              refine wpAnyB_take (i := 0) (v := ?_) rfl (by kernel_rfl) (by kernel_rfl) (by kernel_rfl) (by kernel_rfl) (fun _ _ _ h => h) (Or.inl ⟨by rfl, ?_⟩) hHeld ?_
              rotate_left 1
              · intro w hSw; (try dsimp only at hSw); obtain ⟨q1, q2⟩ := hSw; go_simp <;> with_reducible rfl
              try simp only [Act.put, List.setIfInBounds_toArray, List.set_cons_zero, List.set_cons_succ, List.getElem_toArray, List.getElem_cons_succ, List.getElem_cons_zero]
              refine wpAnyB_takeW (i := 1) (v := ?_) rfl (by kernel_rfl) (by kernel_rfl) (by kernel_rfl) (fun _ _ _ h => h) (Or.inl ⟨by rfl, ?_⟩) ?_
              rotate_left 1
              · intro w hSw; go_simp <;> with_reducible rfl
              try simp only [Act.put, List.setIfInBounds_toArray, List.set_cons_zero, List.set_cons_succ, List.getElem_toArray, List.getElem_cons_succ, List.getElem_cons_zero]
              refine wpAnyB_takeW (i := 2) (v := ?_) rfl (by kernel_rfl) (by kernel_rfl) (by kernel_rfl) (fun _ _ _ h => h) (Or.inl ⟨by rfl, ?_⟩) ?_
              rotate_left 1
              · intro w hSw; go_simp <;> with_reducible rfl
              try simp only [Act.put, List.setIfInBounds_toArray, List.set_cons_zero, List.set_cons_succ, List.getElem_toArray, List.getElem_cons_succ, List.getElem_cons_zero]
              refine wpAnyB_take (i := 3) (v := ?_) rfl (by kernel_rfl) (by kernel_rfl) (by kernel_rfl) (by kernel_rfl) (fun _ _ _ h => h) (Or.inl ⟨by rfl, ?_⟩) hHeld ?_
              rotate_left 1
              · intro w hSw; (try dsimp only at hSw); obtain ⟨q1, q2⟩ := hSw; go_simp <;> with_reducible rfl
              try simp only [Act.put, List.setIfInBounds_toArray, List.set_cons_zero, List.set_cons_succ, List.getElem_toArray, List.getElem_cons_succ, List.getElem_cons_zero]
              refine wpAnyB_step (i := 4) (by kernel_rfl) rfl (fun Kq hKq => ?_)
              go_simp
              refine hC.mono ?_
              rintro e W1 ⟨nb, kb, cb, ys, ps9, rfl, hI1, hnew, hb1⟩
              dsimp only
              unfold ptr
              have hHeld := (⟨(hb1.cell (p := ⟨u, 0, none⟩) (by simp; omega)).trans cu, (hb1.cell (p := ⟨k0 + 1, 0, none⟩) (by simp; omega)).trans cf⟩ : _ ∧ _)
              refine hKq.out _ _ (fun _ _ => hHeld) ?_
              clear hKq Kq
              try simp only [Act.put, List.setIfInBounds_toArray, List.set_cons_zero, List.set_cons_succ, List.getElem_toArray, List.getElem_cons_succ, List.getElem_cons_zero]
              have hbZ1 : Below Z.heap.size Z W1 := bZd.trans (hb1.mono bZd.size)
              have hz1 := hbZ1.size
              refine wpAnyB_step (i := 5) (by kernel_rfl) rfl (fun Kq hKq => ?_)
              refine step_build57 rfl (.tmp 70) rfl nb rfl ?_
              intro W2 BX hb2 hs2
              have hHeld := (⟨(hb2.cell (p := ⟨u, 0, none⟩) (by simp; omega)).trans hHeld.1, (hb2.cell (p := ⟨k0 + 1, 0, none⟩) (by simp; omega)).trans hHeld.2⟩ : _ ∧ _)
              refine hKq.out _ _ (fun _ _ => hHeld) ?_
              clear hKq Kq
              try simp only [Act.put, List.setIfInBounds_toArray, List.set_cons_zero, List.set_cons_succ, List.getElem_toArray, List.getElem_cons_succ, List.getElem_cons_zero]
              have hbZ2 : Below Z.heap.size Z W2 := hbZ1.trans (hb2.mono hz1)
              have hP2 := hPt.below hbZ2
              have hl1 : nb < W1.heap.size ∧ kb < W1.heap.size ∧ cb < W1.heap.size := ⟨hI1.hNode.lt, hI1.hKeys.lt, hI1.hKids.lt⟩
              refine wpAnyB_step (i := 6) (by kernel_rfl) rfl (fun Kq hKq => ?_)
              refine step_ptrs rfl (.tmp 66) (.tmp 71) rfl _ (fun k => u + 1 < k ∧ k ∉ ownOf L' ∧ k ∉ [nb, kb, cb]) p' n' c' _ W1.heap.size nb hP2 rfl rfl BX (by rw [List.length_map]; have := hnn.out; omega) (fun k hk _ => ⟨hk.1.1, hk.1.2, fun hm9 => by obtain ⟨cs, t, hc⟩ := hk.2.2; have h5 := hc.lt; simp at hm9 hnew; omega⟩) (fun k hk => ⟨by omega, fun hm9 => by have := hLlt k hm9; omega, fun hm9 => by simp at hm9; omega⟩) ?_
              intro W3 gb' c9 hP3 hk3
              have hHeld := (⟨(hk3.cell (p := ⟨u, 0, none⟩) (by first | (simp; done) | (simp; omega)) (by first | (simp; done) | (simp; omega))).trans hHeld.1, (hk3.cell (p := ⟨k0 + 1, 0, none⟩) (by first | (simp; done) | (simp; omega)) (by first | (simp; done) | (simp; omega))).trans hHeld.2⟩ : _ ∧ _)
              refine hKq.out _ _ (fun _ _ => hHeld) ?_
              clear hKq Kq
              try simp only [Act.put, List.setIfInBounds_toArray, List.set_cons_zero, List.set_cons_succ, List.getElem_toArray, List.getElem_cons_succ, List.getElem_cons_zero]
              have c99 := hHeld.1
              have f99 : W3.frozen? ⟨u, 0, none⟩ = false := ((h3.box.below hbZ2).kept hk3 (fun h' => by omega)).frozen 0
              refine wpAnyB_step (i := 7) (by kernel_rfl) rfl (fun Kq hKq => ?_)
              go_simp
              refine hKq.out _ _ (fun h => absurd h (by decide)) ?_
              clear hKq Kq
              try simp only [Act.put, List.setIfInBounds_toArray, List.set_cons_zero, List.set_cons_succ, List.getElem_toArray, List.getElem_cons_succ, List.getElem_cons_zero]
              refine wpAnyB_done (by kernel_rfl) ?_ _
              rw [← hsl'.out] at hI1
              have hne9 : (sub.map Kid.bd).head? = some ((sub.map Kid.bd).headD 0) := by
                cases hsc : sub with
                | nil => have := hsl'.out; rw [hsc] at this; simp at this; omega
                | cons a t => rfl
              have hnew9 : ∀ b ∈ [nb, kb, cb], Z.heap.size ≤ b := by
                intro b hb
                simp at hb hnew
                omega
              have hN := h3.next x hbZ1 (e := ((sub.map Kid.bd).headD 0, nb, keysOf sub, sub.length, [nb, kb, cb])) (sub := sub) (by have h1 := hsub.out; rw [← hlo.out, ← hhi.out, hn.out] at h1; exact h1) ⟨kb, cb, ys, ps9, hI1, rfl, rfl, rfl, hne9⟩ (fun b hb => hnew9 b hb) hb2 hk3 hP3 V2.heap.size
              exact hN
            | succ k =>
              have hi9 : i < m := by omega
              obtain ⟨e, hee⟩ : ∃ e, sub[i]? = some e := ⟨_, List.getElem?_eq_getElem (by rw [hsl'.out]; exact hi9)⟩
              have hmem : e ∈ es := by
                have h9 := List.mem_of_getElem? hee
                rw [hsub.out] at h9
                exact (seg_sublist _ _ _).mem h9
              have ge := levZ.good e hmem
              obtain ⟨kb, q, cq, sq, hkb, BK, RK⟩ := ge.hd
              have bZ' : Below Z.heap.size Z wr := by rw [hz]; exact bZ
              have hpt : wr.cell? ⟨gb, lo + i, none⟩ = some (.pointer (some ⟨e.nb, 0, none⟩)) := (World.cell?_of_block (w := Z) (a := ⟨gb, lo + i, none⟩) (bZ'.block _ BgZ.lt)).trans (hcg i e hee)
              have hnk : wr.cell? ⟨e.nb, 0, none⟩ = some (.slice (some ⟨kb, 0, none⟩) e.n 33) := (BK.below bZ').cell 0
              have RK' : wr.rangeAt kb 0 (idc e.bd) := rangeAt_of_block RK (bZ'.block _ (ge.tree.lt _ hkb))
              have hbdi : (sub.map Kid.bd)[i]? = some e.bd := by rw [List.getElem?_map, hee]; rfl
              have TZ : wr.there z (i * 20) 20 := BZ.idsT (k := i) (n := 1) (by rw [List.length_append, List.length_take, List.length_map, List.length_replicate, hsl'.out]; omega)
              have hlt9 : (i : Int) < m := by omega
              have BZ2 := BZ.idsS (k := i) (ys := [e.bd]) (by rw [List.length_append, List.length_take, List.length_map, List.length_replicate, hsl'.out, List.length_singleton]; omega)
              have hpos9 := ge.pos
              clear ge BK RK hcg
              generalize e.bd = ebd at *
              generalize e.nb = enb at *
              generalize e.n = en at *
              have h0n : (0 : Int) < en := by omega
              gi_wp2_with (first | (refine ld30In rfl (.tmp 62) rfl kb 0 ?_ ebd ?_ ?_; rfl; exact RK') | (refine st30In rfl rfl (.tmp 64) (.tmp 63) rfl z (i * 20) ebd ?_ ?_ ?_ ?_; rfl; rfl; exact TZ))
              gi_roundg k
              case measure => omega
              case rel =>
                refine ⟨i + 1, by simp, by omega, ?_, Below.setCells bZ (Nat.le_refl _) _ _⟩
                rw [ids_cons, ids_nil, List.append_nil] at BZ2
                have e9 : ((sub.map Kid.bd).take i ++ List.replicate (k + 1) 0).take i ++ [ebd] ++ ((sub.map Kid.bd).take i ++ List.replicate (k + 1) 0).drop (i + [ebd].length) = (sub.map Kid.bd).take (i + 1) ++ List.replicate k 0 := by
                  have hl9 : ((sub.map Kid.bd).take i).length = i := by rw [List.length_take, List.length_map, hsl'.out]; omega
                  rw [List.take_left' hl9, List.drop_append, hl9, List.drop_eq_nil_of_le (by rw [hl9]; omega), List.drop_replicate, List.take_add_one, hbdi]
                  simp
                rw [e9] at BZ2
                exact BZ2
        case stop =>
          rintro D c pre W _ _ h _
          exact h.elim
        case done =>
          rintro D pre Z hD hS ⟨p', n', c', L', h3⟩ hDef
          have cu : Z.cell? ⟨u, 0, none⟩ = some (.slice p' n' c') := h3.box.cell 0
          have c3' : Z.cell? ⟨k0 + 3, 0, none⟩ = some (.slice (some ⟨gb, 0, none⟩) n c) := (h2.box.below (by rw [hu]; exact h3.bel)).cell 0
          have f3' := (h2.box.below (w' := Z) (by rw [hu]; exact h3.bel)).frozen 0
          have hn' := hn.out
          obtain ⟨es', h2', hlen'⟩ := h2.next hm hu h3 (hn' ▸ hr2) (by exact hS) hDef (by omega)
          have hlt2 := hr2.lt (by omega)
          clear Bu hbu Bn2 hDef hS h3 hr2
          go_wp2_with fail
          refine ⟨⟨D :: Ds, p', n', c', d + 1, es', _, _, _, _, _, _, _, _, h2', rfl⟩, ?_⟩
          have e1 : n' = es'.length := by have := h2'.ptrs.1; simpa using this
          rw [lvl_eq h2'.box, lvl_eq h2.box]
          omega
      · have hmi : ¬ 1 < (n : Int) := by omega
        obtain ⟨e, rfl⟩ : ∃ e, es = [e] := by
          cases es with
          | nil => simp at hpos2
          | cons e es => cases es with
            | nil => exact ⟨e, rfl⟩
            | cons _ _ => simp at hm
        have c9 : W.cell? ⟨gb, 0, none⟩ = some (ptr e.nb) := by
          rw [Bg.cell]
          have := congrArg (·[0]?) htk
          simpa using this
        unfold ptr at c9
        obtain rfl : n = 1 := hn
        have T4 := h2.bx.res.there (o := 0) (n := 2) (by simp)
        clear htk
        go_wp2_with fail
        refine wp_calm ?_
        refine wp_region_B (fun w' => w'.cell? ⟨k0 + 3, 0, none⟩ = some (.slice (some ⟨gb, 0, none⟩) 1 c) ∧ w'.cell? ⟨gb, 0, none⟩ = some (.pointer (some ⟨e.nb, 0, none⟩)) ∧ w'.cell? ⟨k0 + 1, 0, none⟩ = some (.func (.func 10) #[] #[])) (fun j => j != 5) (by kernel_rfl) (⟨c3, c9, c1⟩) (fun hHeld => ?_)
        simp only [List.size_toArray, List.length_cons, List.length_nil, Nat.reduceAdd, Array.replicate_succ, Array.replicate_zero, List.push_toArray, List.append_toArray, List.nil_append, List.cons_append]
        refine wpAnyB_take (i := 0) (v := ?_) rfl (by kernel_rfl) (by kernel_rfl) (by kernel_rfl) (by kernel_rfl) (fun _ _ _ h => h) (Or.inl ⟨by rfl, ?_⟩) hHeld ?_
        rotate_left 1
        · intro w hSw; (try dsimp only at hSw); obtain ⟨q1, q2, q3⟩ := hSw; go_simp <;> with_reducible rfl
        try simp only [Act.put, List.setIfInBounds_toArray, List.set_cons_zero, List.set_cons_succ, List.getElem_toArray, List.getElem_cons_succ, List.getElem_cons_zero]
        refine wpAnyB_takeW (i := 1) (v := ?_) rfl (by kernel_rfl) (by kernel_rfl) (by kernel_rfl) (fun _ _ _ h => h) (Or.inl ⟨by rfl, ?_⟩) ?_
        rotate_left 1
        · intro w hSw; go_simp <;> with_reducible rfl
        try simp only [Act.put, List.setIfInBounds_toArray, List.set_cons_zero, List.set_cons_succ, List.getElem_toArray, List.getElem_cons_succ, List.getElem_cons_zero]
        refine wpAnyB_take (i := 2) (v := ?_) rfl (by kernel_rfl) (by kernel_rfl) (by kernel_rfl) (by kernel_rfl) (fun _ _ _ h => h) (Or.inl ⟨by rfl, ?_⟩) hHeld ?_
        rotate_left 1
        · intro w hSw; (try dsimp only at hSw); obtain ⟨q1, q2, q3⟩ := hSw; go_simp <;> with_reducible rfl
        try simp only [Act.put, List.setIfInBounds_toArray, List.set_cons_zero, List.set_cons_succ, List.getElem_toArray, List.getElem_cons_succ, List.getElem_cons_zero]
        refine wpAnyB_take (i := 3) (v := ?_) rfl (by kernel_rfl) (by kernel_rfl) (by kernel_rfl) (by kernel_rfl) (fun _ _ _ h => h) (Or.inl ⟨by rfl, ?_⟩) hHeld ?_
        rotate_left 1
        · intro w hSw; (try dsimp only at hSw); obtain ⟨q1, q2, q3⟩ := hSw; go_simp <;> with_reducible rfl
        try simp only [Act.put, List.setIfInBounds_toArray, List.set_cons_zero, List.set_cons_succ, List.getElem_toArray, List.getElem_cons_succ, List.getElem_cons_zero]
        refine wpAnyB_takeW (i := 4) (v := ?_) rfl (by kernel_rfl) (by kernel_rfl) (by kernel_rfl) (fun _ _ _ h => h) (Or.inl ⟨by rfl, ?_⟩) ?_
        rotate_left 1
        · intro w hSw; go_simp <;> with_reducible rfl
        try simp only [Act.put, List.setIfInBounds_toArray, List.set_cons_zero, List.set_cons_succ, List.getElem_toArray, List.getElem_cons_succ, List.getElem_cons_zero]
        refine wpAnyB_step (i := 5) (by kernel_rfl) rfl (fun Kq hKq => ?_)
        refine step_st36 rfl rfl (.tmp 4) (.tmp 78) rfl (k0 + 2) 0 (.pointer (some ⟨e.nb, 0, none⟩)) (.func (.func 10) #[] #[]) rfl rfl T4 rfl rfl ?_
        refine hKq.out _ _ (fun h => absurd h (by decide)) ?_
        clear hKq Kq
        try simp only [Act.put, List.setIfInBounds_toArray, List.set_cons_zero, List.set_cons_succ, List.getElem_toArray, List.getElem_cons_succ, List.getElem_cons_zero]
        refine wpAnyB_done (by kernel_rfl) ?_ _
        go_wp2_with fail
        have B4 : Blk (W.drew.setCells (k0 + 2) 0 [.pointer (some ⟨e.nb, 0, none⟩), .func (.func 10) #[] #[]]) (k0 + 2) [.pointer (some ⟨e.nb, 0, none⟩), .func (.func 10) #[] #[]] 36 := (h2.bx.res.drew).setCells (o := 0) (vs := [.pointer (some ⟨e.nb, 0, none⟩), .func (.func 10) #[] #[]])
        have k4 : Kept (· = k0 + 2) W (W.drew.setCells (k0 + 2) 0 [.pointer (some ⟨e.nb, 0, none⟩), .func (.func 10) #[] #[]]) := Kept.setCells (S := (· = k0 + 2)) (Kept.refl _ W).drew (.inr rfl) 0 _
        generalize W.drew.setCells (k0 + 2) 0 [.pointer (some ⟨e.nb, 0, none⟩), .func (.func 10) #[] #[]] = Z at *
        have hmk := h2.marks.kept k4 (fun D' hD' e => by subst e; exact h2.bx.res.cel.not (h2.marks.all _ hD') rfl)
        refine leaves_marks Ds Z hmk.nodup hmk.all (fun Z' kZ => ?_)
        have hnD : ∀ b, Cel Z b → b ∉ Ds := fun b hb hD => hb.not (hmk.all b hD) rfl
        refine ⟨_, results_cell_row rfl _ _ (k0 + 2) 36 _ _ _ rfl (B4.kept kZ (hnD _ B4.cel)) Yba.underlying36 rfl info36, ?_⟩
        have ge := h2.lev.good e (by simp)
        have hT := ge.tree.kept k4 (fun b hb e' => by have := h2.new b (by simp [ownOf, hb]); omega)
        refine ⟨?_, .inr ⟨d, e.nb, e.n, e.own, by omega, rfl, ?_, fun hd => h2.lev.two hd e (by simp), fun b hb => ?_⟩⟩
        · rw [hk0]
          refine (h2.bx.bel.trans (k4.below (Nat.le_of_lt h2.bx.keys.lt) (fun b hb e => by omega))).trans (kZ.below (Nat.le_of_lt (Nat.lt_of_lt_of_le h2.bx.keys.lt k4.size)) (fun b hb hD => by have := hmk.ge b hD; omega))
        · have hks : e.ks = xs := by have := h2.lev.keys; simpa [keysOf] using this
          rw [← hks]
          exact hT.kept kZ (fun b hb => hnD b (hT.cel b hb))
        · rw [hk0]; have := h2.new b (by simp [ownOf, hb]); omega
end Go.Proofs.Ybulkbqza
