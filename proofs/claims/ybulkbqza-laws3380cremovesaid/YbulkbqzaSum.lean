/-
  Seat b3380a. Rows of ids; zzs3380csum.
-/
import Derived.Test.YbulkbqzaDg
namespace Go.Proofs.Ybulkbqza
open Go.RowKit
set_option linter.unusedVariables false
set_option maxRecDepth 100000

/-- The ids of xs lie in block b from offset off on. -/
def Ids (w : World) (b off : Nat) (xs : List Nat) : Prop := ∀ i x, xs[i]? = some x → w.rangeAt b (off + i * 20) (idc x)
/-- .. behind a slice (nil too, of none). -/
def SlIds (w : World) (a : Option Addr) (xs : List Nat) : Prop := xs = [] ∨ ∃ b off, a = some ⟨b, off, none⟩ ∧ b < w.heap.size ∧ Ids w b off xs

theorem rangeAt_of_block {w w' : World} {b o : Nat} {cs : List Value} (h : w.rangeAt b o cs) (e : w'.heap[b]? = w.heap[b]?) : w'.rangeAt b o cs := fun j v hj => (World.cell?_of_block (w := w) (a := ⟨b, o + j, none⟩) e).trans (h j v hj)
theorem Ids.of_block {w w' : World} {b off : Nat} {xs : List Nat} (h : Ids w b off xs) (e : w'.heap[b]? = w.heap[b]?) : Ids w' b off xs := fun i x hx => rangeAt_of_block (h i x hx) e
theorem Ids.below {w w' : World} {b off : Nat} {xs : List Nat} (h : Ids w b off xs) (hb : b < w.heap.size) (e : Below w.heap.size w w') : Ids w' b off xs := h.of_block (e.block _ hb)
theorem SlIds.kept {S : Nat → Prop} {w w' : World} {a : Option Addr} {xs : List Nat} (h : SlIds w a xs) (e : Kept S w w') (n : ∀ x, a = some x → ¬ S x.block) : SlIds w' a xs := by
  rcases h with h | ⟨b, off, rfl, hb, hi⟩
  · exact .inl h
  · exact .inr ⟨b, off, rfl, Nat.lt_of_lt_of_le hb e.size, hi.of_block (e.block _ hb (n _ rfl))⟩
theorem SlIds.below {w w' : World} {a : Option Addr} {xs : List Nat} (h : SlIds w a xs) (e : Below w.heap.size w w') : SlIds w' a xs := h.kept (S := fun _ => False) (Kept.of_below e) (fun _ _ h => h)

theorem dgc_copy (v : Nat) (hv : v < 4294967296) : splice (dgc 0) 12 (idc v) = dgc v := by
  rw [splice_eq _ _ _ (by rw [idc_length, dgc_length]; omega), idc_length]
  have h0 : v / 256 / 256 / 256 / 256 = 0 := by omega
  have h3 : v / 16777216 % 256 = v / 256 / 256 / 256 % 256 := by omega
  have h2 : v / 65536 % 256 = v / 256 / 256 % 256 := by omega
  simp [dgc, lb, idc, idz, Lib.byteCells, Lib.beBytes, Lib.leBytes, h0, h2, h3, List.replicate]

/-- copy of cells, as a step of a region that draws. -/
theorem step_copy {P : Program} {ops : Array Oper} {o : Oper} {a : Act} {w : World} {K : Act → World → Prop} {Q : Exit → Act → World → Prop} {E : Prop}
    (hg : o.guard = none) (d s : Operand) (t elem : TypeId) (hop : o.op = Op.call { callee := Callee.builtin Builtin.copy, args := #[d, s], argTypes := #[t, t] })
    (hu : P.underlying t = some (.slice elem)) (hs : (P.info? elem).map (·.size) = some 1)
    (b off n c : Nat) (hd : a.eval d = .slice (some ⟨b, off, none⟩) n c) (b' off' c' : Nat) (cs : List Value) (hl : cs.length = n) (hsv : a.eval s = .slice (some ⟨b', off', none⟩) n c')
    (hsrc : w.rangeAt b' off' cs) (ht : w.there b off n) (h1 : ∀ v ∈ cs, v.oneCell' = true)
    (hK : K (a.put o.dst (goInt n)) (w.setCells b off cs)) : if Region.wanted o (yielded ops a.tmps) = true then Oper.wp P o a w K Q else E := by
  have hw : Region.wanted o (yielded ops a.tmps) = true := by simp [Region.wanted, hg]
  rw [if_pos hw]
  subst hl
  have hrun := run_copy_cells (P := P) w t t o.type elem b off cs.length c ⟨b', off', none⟩ cs.length c' cs hu hs (by simp) (fun j v hj => by rw [Addr.add_mid]; exact hsrc j v hj) (fun j hj => (ht j hj).1) (fun j hj => (ht j hj).2) h1
  unfold Oper.wp
  simp [execOp, hop, resolve, invoke, builtin, hd, hsv, hrun]
  exact hK

theorem csum_calls (a : Option Addr) (xs : List Nat) (cap : Nat) (w : World) (h : SlIds w a xs) (hx : ∀ x ∈ xs, x < 4294967296) (hs : xs.sum < 18446744073709551616) (hlen : xs.length < 2 ^ 40) :
    Calls Yba.prog 10 #[.slice a xs.length cap] w fun e w' => e = .returned (.agg (dgc xs.sum).toArray) ∧ Below w.heap.size w w' := by
  go_enter Yba.func10, Yba.ntmps10
  go_wp2_with fail
  rw [dgc_zero_lit]
  have B2 : Blk ((w.alloc (.cells (dgc 0).toArray 47)).alloc (.cells (dgc 0).toArray 47)) w.heap.size (dgc 0) 47 := (Blk.new w _ 47).alloc _
  have B3 : Blk ((w.alloc (.cells (dgc 0).toArray 47)).alloc (.cells (dgc 0).toArray 47)) (w.heap.size + 1) (dgc 0) 47 := Blk.last _ _ _ (by simp)
  have hb : Below w.heap.size w ((w.alloc (.cells (dgc 0).toArray 47)).alloc (.cells (dgc 0).toArray 47)) := ((Below.refl _ w).alloc (Nat.le_refl _) _).alloc (by simp) _
  generalize (w.alloc (.cells (dgc 0).toArray 47)).alloc (.cells (dgc 0).toArray 47) = W at *
  go_loopg [9] xs.length (fun k s9 wr => ∃ i : Nat, s9 = .int .i64 i ∧ i + k = xs.length ∧ Blk wr w.heap.size (dgc 0) 47 ∧ Blk wr (w.heap.size + 1) (dgc (xs.take i).sum) 47 ∧ Below w.heap.size w wr)
  case atStart => exact ⟨0, rfl, by omega, B2, B3, hb⟩
  case round =>
    clear B2 B3 hb
    obtain ⟨i, rfl, hik, B2, B3, hb⟩ := hrel
    cases gk with
    | zero =>
      obtain rfl : i = xs.length := by omega
      rw [List.take_length] at B3
      have R3 := B3.dg
      have T2 := B2.dgT
      go_wp2_with (first | (refine ld47 rfl (.tmp 3) rfl (w.heap.size + 1) 0 rfl xs.sum R3 ?_) | (refine st47 rfl rfl (.tmp 2) (.tmp 20) rfl w.heap.size 0 xs.sum rfl rfl T2 ?_))
      exact ret47 rfl w.heap.size xs.sum rfl B2.dgS rfl ⟨rfl, Below.setCells hb (Nat.le_refl _) _ _⟩
    | succ m =>
      have hi : i < xs.length := by omega
      obtain ⟨b, off, rfl, hbs, hI⟩ : ∃ b off, a = some ⟨b, off, none⟩ ∧ b < w.heap.size ∧ Ids w b off xs := by
        rcases h with rfl | h
        · simp at hi
        · exact h
      obtain ⟨x, hxi⟩ : ∃ x, xs[i]? = some x := ⟨_, List.getElem?_eq_getElem hi⟩
      have hxl := hx x (List.mem_of_getElem? hxi)
      have RX := (hI.below hbs hb) i x hxi
      have hlt : (i : Int) < xs.length := by omega
      go_wp2_with (first | (refine ld30 rfl (.tmp 11) rfl b (off + i * 20) ?_ x ?_ ?_; rfl; exact RX) | (refine st30 rfl rfl (.tmp 5) (.tmp 12) rfl wr.heap.size 0 x ?_ ?_ ?_ ?_; rfl; rfl; exact (Blk.new wr (idc 0) 30).idT))
      rw [idc_zero_lit, dgc_zero_lit]
      have hn1 : ((wr.alloc (.cells (idc 0).toArray 30)).setCells wr.heap.size 0 (idc x)).heap.size = wr.heap.size + 1 := by rw [size_setCells]; simp
      rw [hn1]
      have BK : Blk (((wr.alloc (.cells (idc 0).toArray 30)).setCells wr.heap.size 0 (idc x)).alloc (.cells (dgc 0).toArray 47)) wr.heap.size (idc x) 30 := (Blk.new wr (idc 0) 30).idS.alloc _
      have BE : Blk (((wr.alloc (.cells (idc 0).toArray 30)).setCells wr.heap.size 0 (idc x)).alloc (.cells (dgc 0).toArray 47)) (wr.heap.size + 1) (dgc 0) 47 := Blk.last _ _ _ hn1.symm
      have hb1 : Below wr.heap.size wr (((wr.alloc (.cells (idc 0).toArray 30)).setCells wr.heap.size 0 (idc x)).alloc (.cells (dgc 0).toArray 47)) :=
        (Below.setCells ((Below.refl _ wr).alloc (Nat.le_refl _) _) (Nat.le_refl _) _ _).alloc (by omega) _
      generalize ((wr.alloc (.cells (idc 0).toArray 30)).setCells wr.heap.size 0 (idc x)).alloc (.cells (dgc 0).toArray 47) = w1 at *
      have RK := BK.id
      have TE : w1.there (wr.heap.size + 1) 12 20 := BE.there (by rw [dgc_length]; omega)
      go_region_held3 (fun _ => True) (trivial) (first
        | (refine step_copy rfl (.tmp 13) (.tmp 14) 64 5 rfl Yba.underlying64 (by kernel_rfl) (wr.heap.size + 1) 12 20 20 rfl wr.heap.size 0 20 (idc x) (idc_length x) rfl (by simpa using RK) (by simpa using TE) (idc_one x) ?_))
      have hsz := hb.size
      have l2 := B2.lt
      have l3 := B3.lt
      have C3 : Blk (w1.drew.setCells (wr.heap.size + 1) 12 (idc x)) (w.heap.size + 1) (dgc (xs.take i).sum) 47 := (B3.below hb1).drew.setCellsOther (by omega) _ _
      have C2 : Blk (w1.drew.setCells (wr.heap.size + 1) 12 (idc x)) w.heap.size (dgc 0) 47 := (B2.below hb1).drew.setCellsOther (by omega) _ _
      have CE : Blk (w1.drew.setCells (wr.heap.size + 1) 12 (idc x)) (wr.heap.size + 1) (dgc x) 47 := by
        have := BE.drew.setCells (vs := idc x) (o := 12)
        rwa [dgc_copy x hxl] at this
      have hb2 : Below w.heap.size w (w1.drew.setCells (wr.heap.size + 1) 12 (idc x)) := Below.setCells ((hb.trans (hb1.mono hsz)).drew) (by omega) _ _
      generalize w1.drew.setCells (wr.heap.size + 1) 12 (idc x) = w2 at *
      clear BK BE hb1 RK TE B2 B3 hb RX
      have hsum : (xs.take i).sum + x = (xs.take (i + 1)).sum := by
        rw [List.take_add_one, hxi]
        simp
      have hle : (xs.take (i + 1)).sum + (xs.drop (i + 1)).sum = xs.sum := by
        rw [← List.sum_append, List.take_append_drop]
      have R3 := C3.dg
      have RE := CE.dg
      generalize (xs.take i).sum = si at *
      have h64 : si + x < 18446744073709551616 := by omega
      have hA := fun w => add_calls si x h64 w
      clear hle h hI hx hs
      replace hsum : Hid (si + x = (xs.take (i + 1)).sum) := hsum
      go_wp2_with (first
        | (refine ld47 rfl (.tmp 3) rfl (w.heap.size + 1) 0 ?_ si ?_ ?_; rfl; exact R3)
        | (refine ld47 rfl (.tmp 6) rfl (wr.heap.size + 1) 0 ?_ x ?_ ?_; rfl; exact RE)
        | (go_at_call 23; refine (hA _).mono ?_; rintro e w' ⟨rfl, hw'⟩; have D3 := C3.below hw'; have T3 := D3.dgT)
        | (refine st47 rfl rfl (.tmp 3) (.tmp 18) rfl (w.heap.size + 1) 0 (si + x) ?_ ?_ ?_ ?_; rfl; rfl; exact T3))
      go_roundg m
      case measure => omega
      case rel =>
        refine ⟨i + 1, rfl, by omega, ?_, ?_, ?_⟩
        · exact (C2.below hw').setCellsOther (by omega) _ _
        · rw [← hsum.out]
          exact D3.dgS
        · exact Below.setCells (hb2.trans (hw'.mono hb2.size)) (by omega) _ _
end Go.Proofs.Ybulkbqza
