/-
  Seat b3380a. A digest of a number; limbwise, Add, Sub.
-/
import Derived.Test.YbulkbqzaId
import Derived.Lib.EndianMore
import Derived.Shelf.Spec.BitsCarry
import Derived.Deep.RegionHeld3
import Derived.Test.YbulkbqzaShelf
namespace Go.Proofs.Ybulkbqza
open Go.RowKit
set_option linter.unusedVariables false
set_option maxRecDepth 100000

/-- The eight cells of a limb. -/
def lb (s : Nat) : List Value := Lib.byteCells (Lib.beBytes 8 s)
theorem lb_length (s : Nat) : (lb s).length = 8 := by simp [lb, Lib.byteCells, Lib.beBytes_length]
theorem lb_one (s : Nat) : ∀ u ∈ lb s, u.oneCell' = true := fun u hu => by
  simp only [lb, Lib.byteCells, List.mem_map] at hu
  obtain ⟨x, _, rfl⟩ := hu
  rfl

/-- The 32 cells of the digest s. -/
def dgc (s : Nat) : List Value := lb 0 ++ lb s ++ lb 0 ++ lb 0
theorem dgc_length (s : Nat) : (dgc s).length = 32 := by simp [dgc, lb_length]
theorem dgc_one (s : Nat) : ∀ u ∈ dgc s, u.oneCell' = true := fun u hu => by
  simp only [dgc, List.mem_append] at hu
  rcases hu with ((h | h) | h) | h <;> exact lb_one _ u h

theorem dgc_zero_lit : (#[Value.int IntKind.u8 0, Value.int IntKind.u8 0, Value.int IntKind.u8 0, Value.int IntKind.u8 0, Value.int IntKind.u8 0, Value.int IntKind.u8 0, Value.int IntKind.u8 0, Value.int IntKind.u8 0, Value.int IntKind.u8 0, Value.int IntKind.u8 0, Value.int IntKind.u8 0, Value.int IntKind.u8 0, Value.int IntKind.u8 0, Value.int IntKind.u8 0, Value.int IntKind.u8 0, Value.int IntKind.u8 0, Value.int IntKind.u8 0, Value.int IntKind.u8 0, Value.int IntKind.u8 0, Value.int IntKind.u8 0, Value.int IntKind.u8 0, Value.int IntKind.u8 0, Value.int IntKind.u8 0, Value.int IntKind.u8 0, Value.int IntKind.u8 0, Value.int IntKind.u8 0, Value.int IntKind.u8 0, Value.int IntKind.u8 0, Value.int IntKind.u8 0, Value.int IntKind.u8 0, Value.int IntKind.u8 0, Value.int IntKind.u8 0] : Array Value) = (dgc 0).toArray := rfl

theorem beBytes8 (x : Nat) : ∃ b0 b1 b2 b3 b4 b5 b6 b7, Lib.beBytes 8 x = [b0, b1, b2, b3, b4, b5, b6, b7] := ⟨_, _, _, _, _, _, _, _, rfl⟩

theorem be_read (b o n c x : Nat) (hx : x < 18446744073709551616) (hn : 8 ≤ n) (w : World) (h : w.rangeAt b o (lb x)) :
    Calls Yba.prog 50 #[.agg #[], .slice (some ⟨b, o, none⟩) n c] w fun e w' => e = .returned (.int .u64 x) ∧ Below w.heap.size w w' := by
  obtain ⟨b0, b1, b2, b3, b4, b5, b6, b7, hb⟩ := beBytes8 x
  have hv := Lib.beNat_beBytes 8 x (by simpa using hx)
  have hl : lb x = [.int .u8 b0.toNat, .int .u8 b1.toNat, .int .u8 b2.toNat, .int .u8 b3.toNat, .int .u8 b4.toNat, .int .u8 b5.toNat, .int .u8 b6.toNat, .int .u8 b7.toNat] := by simp [lb, hb, Lib.byteCells]
  rw [hb] at hv
  rw [hl] at h
  have := Yba.binary_BE_Uint64 b o n c b0 b1 b2 b3 b4 b5 b6 b7 w hn (h 0 _ rfl) (h 1 _ rfl) (h 2 _ rfl) (h 3 _ rfl) (h 4 _ rfl) (h 5 _ rfl) (h 6 _ rfl) (h 7 _ rfl)
  rw [hv] at this
  exact this

theorem be_write (b o n c x : Nat) (hx : x < 18446744073709551616) (hn : 8 ≤ n) (w : World) (h : w.there b o 8) :
    Calls Yba.prog 51 #[.agg #[], .slice (some ⟨b, o, none⟩) n c, .int .u64 x] w fun e w' => e = .returned (.tuple #[]) ∧ w' = (w.alloc (.cells #[] 92)).setCells b o (lb x) := by
  have g : ∀ j, j < 8 → ∃ v, w.cell? ⟨b, o + j, none⟩ = some v := fun j hj => Option.isSome_iff_exists.1 (h j hj).1
  obtain ⟨x0, e0⟩ := g 0 (by decide)
  obtain ⟨x1, e1⟩ := g 1 (by decide)
  obtain ⟨x2, e2⟩ := g 2 (by decide)
  obtain ⟨x3, e3⟩ := g 3 (by decide)
  obtain ⟨x4, e4⟩ := g 4 (by decide)
  obtain ⟨x5, e5⟩ := g 5 (by decide)
  obtain ⟨x6, e6⟩ := g 6 (by decide)
  obtain ⟨x7, e7⟩ := g 7 (by decide)
  exact Yba.binary_BE_PutUint64 b o n c x hx x0 x1 x2 x3 x4 x5 x6 x7 w hn e0 e1 e2 e3 e4 e5 e6 e7 (h 0 (by decide)).2 (h 1 (by decide)).2 (h 2 (by decide)).2 (h 3 (by decide)).2 (h 4 (by decide)).2 (h 5 (by decide)).2 (h 6 (by decide)).2 (h 7 (by decide)).2

section
variable {ops : Array Oper} {rest : List Oper} {op : Oper} {a : Act} {w : World} {Q : Exit → Act → World → Prop}
theorem ld30 (hgd : op.guard = none) (x : Operand) (ho : op.op = .load 30 x) (b o : Nat) (hx : a.eval x = .pointer (some ⟨b, o, none⟩)) (v : Nat) (hc : w.rangeAt b o (idc v))
    (h : wpList Yba.prog ops Q rest (a.put op.dst (.agg (idc v).toArray)) w) : wpList Yba.prog ops Q (op :: rest) a w :=
  wpList_load_mid hgd 30 x ho b o hx (idc v) _ hc Yba.underlying30 rfl (by rw [idc_length]; exact info30) h
theorem st30 (hgd : op.guard = none) (hd : op.dst = none) (x y : Operand) (ho : op.op = .store 30 x y) (b o : Nat) (v : Nat) (hx : a.eval x = .pointer (some ⟨b, o, none⟩)) (hy : a.eval y = .agg (idc v).toArray) (hT : w.there b o 20)
    (h : wpList Yba.prog ops Q rest a (w.setCells b o (idc v))) : wpList Yba.prog ops Q (op :: rest) a w :=
  wpList_store_mid hgd 30 x y ho b o (idc v).toArray hx hy (by simpa [idc_length] using hT) (by simpa [idc_length] using info30) (all_oneCell_toArray (idc_one v)) (by rw [hd]; exact h)
theorem ld47 (hgd : op.guard = none) (x : Operand) (ho : op.op = .load 47 x) (b o : Nat) (hx : a.eval x = .pointer (some ⟨b, o, none⟩)) (s : Nat) (hc : w.rangeAt b o (dgc s))
    (h : wpList Yba.prog ops Q rest (a.put op.dst (.agg (dgc s).toArray)) w) : wpList Yba.prog ops Q (op :: rest) a w :=
  wpList_load_mid hgd 47 x ho b o hx (dgc s) _ hc Yba.underlying47 rfl (by rw [dgc_length]; exact info47) h
theorem st47 (hgd : op.guard = none) (hd : op.dst = none) (x y : Operand) (ho : op.op = .store 47 x y) (b o : Nat) (s : Nat) (hx : a.eval x = .pointer (some ⟨b, o, none⟩)) (hy : a.eval y = .agg (dgc s).toArray) (hT : w.there b o 32)
    (h : wpList Yba.prog ops Q rest a (w.setCells b o (dgc s))) : wpList Yba.prog ops Q (op :: rest) a w :=
  wpList_store_mid hgd 47 x y ho b o (dgc s).toArray hx hy (by simpa [dgc_length] using hT) (by simpa [dgc_length] using info47) (all_oneCell_toArray (dgc_one s)) (by rw [hd]; exact h)
end

/-- A block that is an id, a digest. -/
theorem Blk.id {w : World} {b v : Nat} {t : TypeId} (h : Blk w b (idc v) t) : w.rangeAt b 0 (idc v) := h.range (fun j u hu => by simpa using hu)
theorem Blk.dg {w : World} {b v : Nat} {t : TypeId} (h : Blk w b (dgc v) t) : w.rangeAt b 0 (dgc v) := h.range (fun j u hu => by simpa using hu)
theorem Blk.idT {w : World} {b v : Nat} {t : TypeId} (h : Blk w b (idc v) t) : w.there b 0 20 := h.there (by simp [idc_length])
theorem Blk.dgT {w : World} {b v : Nat} {t : TypeId} (h : Blk w b (dgc v) t) : w.there b 0 32 := h.there (by simp [dgc_length])
theorem Blk.over {w : World} {b : Nat} {t : TypeId} {cs vs : List Value} (h : Blk w b cs t) (hl : vs.length = cs.length) : Blk (w.setCells b 0 vs) b vs t := by
  have := h.setCells (vs := vs) (o := 0)
  rwa [splice_eq _ _ _ (by omega), Nat.zero_add, List.drop_eq_nil_of_le (by omega), List.append_nil, List.take_zero, List.nil_append] at this
theorem Blk.idS {w : World} {b v u : Nat} {t : TypeId} (h : Blk w b (idc v) t) : Blk (w.setCells b 0 (idc u)) b (idc u) t := h.over (by simp [idc_length])
theorem Blk.dgS {w : World} {b v u : Nat} {t : TypeId} (h : Blk w b (dgc v) t) : Blk (w.setCells b 0 (dgc u)) b (dgc u) t := h.over (by simp [dgc_length])
/-- The newest block. -/
theorem Blk.last (w : World) (cs : List Value) (t : TypeId) {n : Nat} (hn : n = w.heap.size) : Blk (w.alloc (.cells cs.toArray t (0, 0))) n cs t := by subst hn; exact Blk.new w cs t

/-- A function's answer out of a cell. -/
theorem ret30 {fn : Func} {R : Ending → World → Prop} {a : Act} {w : World} {p : Tmp} (h : fn.results = #[.cell p 30]) (b v : Nat) {t : TypeId} (hp : a.tmps.getD p undef = .pointer (some ⟨b, 0, none⟩)) (hB : Blk w b (idc v) t) (hd : a.defers = [])
    (hR : R (.returned (.agg (idc v).toArray)) w) : bodyPost Yba.prog fn R .ret a w :=
  bodyPost_ret (results_cell_row h _ _ b t _ _ _ hp hB Yba.underlying30 rfl (by simpa [idc_length] using info30)) hd hR
theorem ret47 {fn : Func} {R : Ending → World → Prop} {a : Act} {w : World} {p : Tmp} (h : fn.results = #[.cell p 47]) (b v : Nat) {t : TypeId} (hp : a.tmps.getD p undef = .pointer (some ⟨b, 0, none⟩)) (hB : Blk w b (dgc v) t) (hd : a.defers = [])
    (hR : R (.returned (.agg (dgc v).toArray)) w) : bodyPost Yba.prog fn R .ret a w :=
  bodyPost_ret (results_cell_row h _ _ b t _ _ _ hp hB Yba.underlying47 rfl (by simpa [dgc_length] using info47)) hd hR

/-- The limb at offset 8 k of the digest s. -/
def limb (s : Nat) (i : Nat) : Nat := if i = 8 then s else 0
theorem dgc_limb {w : World} {b s : Nat} {t : TypeId} (h : Blk w b (dgc s) t) {i : Nat} (hi : i = 0 ∨ i = 8 ∨ i = 16 ∨ i = 24) : w.rangeAt b i (lb (limb s i)) := h.range (fun j v hj => by
  have hl := (List.getElem?_eq_some_iff.1 hj).1
  rw [lb_length] at hl
  have l0 := lb_length 0
  have ls := lb_length s
  unfold dgc
  rcases hi with rfl | rfl | rfl | rfl
  · rw [List.append_assoc, List.append_assoc, List.getElem?_append_left (by omega), Nat.zero_add]; exact hj
  · rw [List.append_assoc, List.append_assoc, List.getElem?_append_right (by omega), List.getElem?_append_left (by omega), l0, Nat.add_sub_cancel_left]; exact hj
  · rw [List.append_assoc, List.getElem?_append_right (by simp; omega), List.getElem?_append_left (by simp; omega), List.length_append, l0, ls, show 16 + j - (8 + 8) = j by omega]; exact hj
  · rw [List.getElem?_append_right (by simp; omega), List.length_append, List.length_append, l0, ls, show 24 + j - (8 + 8 + 8) = j by omega]; exact hj)

theorem dgc_put {s r i : Nat} (hi : i = 0 ∨ i = 8 ∨ i = 16 ∨ i = 24) : splice (dgc s) i (lb (limb r i)) = dgc (if i = 8 then r else s) := by
  have l0 := lb_length 0
  have ls := lb_length s
  rw [splice_eq _ _ _ (by rw [lb_length, dgc_length]; omega), lb_length]
  rcases hi with rfl | rfl | rfl | rfl <;> simp [dgc, limb, List.take_append, List.drop_append, l0, ls, List.take_of_length_le, List.drop_eq_nil_of_le]

/-- The call of a function value whose run is known, as a step of a region that draws. -/
theorem step_fn {P : Program} {ops : Array Oper} {o : Oper} {a : Act} {w : World} {K : Act → World → Prop} {Q : Exit → Act → World → Prop} {E : Prop}
    (hg : o.guard = none) (x : Operand) (args : Array Operand) (tys : Array TypeId) (hop : o.op = Op.call { callee := Callee.value x, args := args, argTypes := tys })
    (f : Nat) (hx : a.eval x = .func (.func f) #[] #[]) (vals : Array Value) (hv : args.map a.eval = vals) (v : Value) (hrun : (callFunc f vals).run P w = .ok (.value v) w)
    (hK : K (a.put o.dst v) w) : if Region.wanted o (yielded ops a.tmps) = true then Oper.wp P o a w K Q else E := by
  have hw : Region.wanted o (yielded ops a.tmps) = true := by simp [Region.wanted, hg]
  rw [if_pos hw]
  unfold Oper.wp
  simp [execOp, hop, resolve, invoke, Deferred.ofValue, hx, hv, hrun]
  exact hK

/-- limbwise, at an operation on uint64 that carries nothing here. -/
theorem limbwise_calls (f : Nat) (s t r : Nat) (hs : s < 18446744073709551616) (ht : t < 18446744073709551616) (hr : r < 18446744073709551616)
    (h0 : ∀ w : World, (callFunc f #[.int .u64 (0 : Nat), .int .u64 (0 : Nat), .int .u64 0]).run Yba.prog w = .ok (.value (.tuple #[.int .u64 (0 : Nat), .int .u64 0])) w)
    (h1 : ∀ w : World, (callFunc f #[.int .u64 s, .int .u64 t, .int .u64 0]).run Yba.prog w = .ok (.value (.tuple #[.int .u64 r, .int .u64 0])) w) (w : World) :
    Calls Yba.prog 38 #[.agg (dgc s).toArray, .agg (dgc t).toArray, .func (.func f) #[] #[]] w fun e w' => e = .returned (.agg (dgc r).toArray) ∧ Below w.heap.size w w' := by
  go_enter Yba.func38, Yba.ntmps38
  go_wp2_with fail
  rw [dgc_zero_lit]
  have B3 : Blk (((w.alloc (.cells (dgc s).toArray 47)).alloc (.cells (dgc t).toArray 47)).alloc (.cells (dgc 0).toArray 47)) w.heap.size (dgc s) 47 := ((Blk.new w _ 47).alloc _).alloc _
  have B4 : Blk (((w.alloc (.cells (dgc s).toArray 47)).alloc (.cells (dgc t).toArray 47)).alloc (.cells (dgc 0).toArray 47)) (w.heap.size + 1) (dgc t) 47 := by
    have := (Blk.new (w.alloc (.cells (dgc s).toArray 47 (0, 0))) (dgc t) 47).alloc (.cells (dgc 0).toArray 47)
    simpa using this
  have B6 : Blk (((w.alloc (.cells (dgc s).toArray 47)).alloc (.cells (dgc t).toArray 47)).alloc (.cells (dgc 0).toArray 47)) (w.heap.size + 1 + 1) (dgc 0) 47 := by
    have := Blk.new ((w.alloc (.cells (dgc s).toArray 47 (0, 0))).alloc (.cells (dgc t).toArray 47)) (dgc 0) 47
    simpa using this
  have hb : Below w.heap.size w (((w.alloc (.cells (dgc s).toArray 47)).alloc (.cells (dgc t).toArray 47)).alloc (.cells (dgc 0).toArray 47)) :=
    (((Below.refl _ w).alloc (Nat.le_refl _) _).alloc (by simp) _).alloc (by simp; omega) _
  generalize ((w.alloc (.cells (dgc s).toArray 47)).alloc (.cells (dgc t).toArray 47)).alloc (.cells (dgc 0).toArray 47) = W at *
  go_loopg [7, 8] 4 (fun k s7 s8 wr => s7 = .int .u64 0 ∧ s8 = .int .i64 (8 * (k : Int) - 8) ∧ k ≤ 4 ∧ Blk wr w.heap.size (dgc (if k < 2 then r else s)) 47 ∧ Blk wr (w.heap.size + 1) (dgc t) 47 ∧ Blk wr (w.heap.size + 1 + 1) (dgc 0) 47 ∧ Below w.heap.size w wr)
  case atStart => exact ⟨rfl, rfl, by omega, B3, B4, B6, hb⟩
  case round =>
    clear B3 B4 B6 hb
    obtain ⟨rfl, rfl, hk, B3, B4, B6, hb⟩ := hrel
    cases gk with
    | zero =>
      rw [if_pos (by omega)] at B3
      have R3 := B3.dg
      have T6 := B6.dgT
      go_wp2_with (first | (refine ld47 rfl (.tmp 3) rfl w.heap.size 0 rfl r R3 ?_) | (refine st47 rfl rfl (.tmp 6) (.tmp 33) rfl (w.heap.size + 1 + 1) 0 r rfl rfl T6 ?_))
      exact ret47 rfl (w.heap.size + 1 + 1) r rfl B6.dgS rfl ⟨rfl, Below.setCells hb (by omega) _ _⟩
    | succ m =>
      have em : 8 * ((m + 1 : Nat) : Int) - 8 = ((8 * m : Nat) : Int) := by omega
      rw [em]
      have hi : 8 * m = 0 ∨ 8 * m = 8 ∨ 8 * m = 16 ∨ 8 * m = 24 := by omega
      have hlt : 8 * m ≤ 24 := by omega
      have R3 := dgc_limb B3 hi
      have R4 := dgc_limb B4 hi
      obtain ⟨x, hx, hxl⟩ : ∃ x, x = limb (if m + 1 < 2 then r else s) (8 * m) ∧ x < 18446744073709551616 := ⟨_, rfl, by unfold limb; split; split; all_goals omega⟩
      obtain ⟨y, hy, hyl⟩ : ∃ y, y = limb t (8 * m) ∧ y < 18446744073709551616 := ⟨_, rfl, by unfold limb; split <;> omega⟩
      obtain ⟨z, hz, hzl⟩ : ∃ z, z = limb r (8 * m) ∧ z < 18446744073709551616 := ⟨_, rfl, by unfold limb; split <;> omega⟩
      have hop : ∀ w : World, (callFunc f #[.int .u64 x, .int .u64 y, .int .u64 0]).run Yba.prog w = .ok (.value (.tuple #[.int .u64 z, .int .u64 0])) w := by
        intro w
        subst hx hy hz
        unfold limb
        by_cases h8 : 8 * m = 8
        · simp only [if_pos h8, if_neg (show ¬ m + 1 < 2 by omega)]; exact h1 w
        · simp only [if_neg h8]; exact h0 w
      rw [← hx] at R3
      rw [← hy] at R4
      have hput : Hid (splice (dgc (if m + 1 < 2 then r else s)) (8 * m) (lb z) = dgc (if m < 2 then r else s)) := by
        show _ = _
        rw [hz, dgc_put hi]
        congr 1
        by_cases h8 : 8 * m = 8
        · rw [if_pos h8, if_pos (by omega)]
        · rw [if_neg h8]
          by_cases h9 : m + 1 < 2
          · rw [if_pos h9, if_pos (by omega)]
          · rw [if_neg h9, if_neg (by omega)]
      clear hx hy hz h0 h1
      generalize 8 * m = i at *
      generalize (if m + 1 < 2 then r else s) = sk at *
      have hle : (i : Int) ≤ 32 := by omega
      have hne : ¬ 32 = i := by omega
      obtain ⟨q, hq3, hq4⟩ : ∃ q : Nat → Nat, q w.heap.size = x ∧ q (w.heap.size + 1) = y := ⟨fun b => if b = w.heap.size then x else y, by simp, by simp⟩
      have C : ∀ b w1, b = w.heap.size ∨ b = w.heap.size + 1 → Below wr.heap.size wr w1 → Calls Yba.prog 50 #[.agg #[], .slice (some ⟨b, i, none⟩) (32 - i) (32 - i)] w1 fun e w' => e = .returned (.int .u64 (q b)) ∧ Below wr.heap.size wr w' := by
        rintro b w1 (rfl | rfl) h
        · rw [hq3]
          exact (be_read _ _ _ _ x hxl (by omega) w1 (fun j v hj => (h.cell (p := ⟨w.heap.size, i + j, none⟩) B3.lt).trans (R3 j v hj))).mono fun e w' ⟨he, hw⟩ => ⟨he, h.trans (hw.mono h.size)⟩
        · rw [hq4]
          exact (be_read _ _ _ _ y hyl (by omega) w1 (fun j v hj => (h.cell (p := ⟨w.heap.size + 1, i + j, none⟩) B4.lt).trans (R4 j v hj))).mono fun e w' ⟨he, hw⟩ => ⟨he, h.trans (hw.mono h.size)⟩
      go_wp2_with fail
      go_region_held3 (fun w' => Below wr.heap.size wr w') (first | assumption | exact below_drewN (Below.refl _ _) 1) (first
        | (go_at_call 50; refine (C _ _ ?_ ?_).mono ?_; (first | exact .inl rfl | exact .inr rfl); assumption; rintro e w' ⟨rfl, hw'⟩; simp only [hq3, hq4]))
      have B3' : Blk w' w.heap.size (dgc sk) 47 := B3.below hw'
      have B4' : Blk w' (w.heap.size + 1) (dgc t) 47 := B4.below hw'
      have B6' : Blk w' (w.heap.size + 1 + 1) (dgc 0) 47 := B6.below hw'
      have hb' : Below w.heap.size w w' := hb.trans (hw'.mono hb.size)
      clear C hq3 hq4 q R3 R4 B3 B4 B6 hb hop
      go_wp2_with fail
      go_region_held3 (fun _ => True) (trivial) (first
        | (go_at_call 51; refine (be_write _ _ _ _ z hzl (by omega) _ ?_).mono ?_; exact B3'.drew.there (by rw [dgc_length]; omega); rintro e w'' ⟨rfl, rfl⟩; dsimp only))
      go_wp2_with fail
      go_roundg m
      case measure => omega
      case rel =>
        refine ⟨rfl, by congr 1; omega, by omega, ?_, ?_, ?_, ?_⟩
        · rw [← hput.out]
          exact (B3'.drew.alloc _).setCells
        · exact (B4'.drew.alloc _).setCellsOther (by omega) _ _
        · exact (B6'.drew.alloc _).setCellsOther (by omega) _ _
        · exact Below.setCells (hb'.drew.alloc (by simpa using hb'.size) _) (Nat.le_refl _) _ _
theorem run39 (x y : Nat) (h : x + y < 18446744073709551616) (w : World) :
    (callFunc 39 #[.int .u64 x, .int .u64 y, .int .u64 0]).run Yba.prog w = .ok (.value (.tuple #[.int .u64 ((x + y : Nat) : Int), .int .u64 0])) w := by
  rw [run_callFunc_extern Yba.func39 (by kernel_rfl) (by kernel_rfl) (by kernel_rfl) (e := add64Entry) (by kernel_rfl), run_add64 x y 0 (by omega) (by omega) (by omega) (by omega)]
  simp only [Result.andThen]
  rw [show ((x : Int) + (y : Int) + 0) % 18446744073709551616 = ((x + y : Nat) : Int) by omega, show ((x : Int) + (y : Int) + 0) / 18446744073709551616 = 0 by omega]

theorem run54 (x y : Nat) (h : y ≤ x) (hx : x < 18446744073709551616) (w : World) :
    (callFunc 54 #[.int .u64 x, .int .u64 y, .int .u64 0]).run Yba.prog w = .ok (.value (.tuple #[.int .u64 ((x - y : Nat) : Int), .int .u64 0])) w := by
  have e := run_sub64 (P := Yba.prog) x y 0 (by omega) w
  rw [run_callFunc_extern Yba.func54 (by kernel_rfl) (by kernel_rfl) (by kernel_rfl) (e := sub64Entry) (by kernel_rfl)]
  rw [show (sub64Entry #[.int .u64 x, .int .u64 y, .int .u64 0]).run Yba.prog w = _ from e, if_neg (by omega)]
  simp only [Result.andThen]
  rw [show (x + 18446744073709551616 - y - 0) % 18446744073709551616 = x - y by omega]
  rfl

theorem add_calls (s t : Nat) (h : s + t < 18446744073709551616) (w : World) :
    Calls Yba.prog 23 #[.agg (dgc s).toArray, .agg (dgc t).toArray] w fun e w' => e = .returned (.agg (dgc (s + t)).toArray) ∧ Below w.heap.size w w' := by
  have hL := fun w => limbwise_calls 39 s t (s + t) (by omega) (by omega) h (fun w => run39 0 0 (by decide) w) (fun w => run39 s t h w) w
  go_enter Yba.func23, Yba.ntmps23
  go_upto_region 1 with fail
  rw [dgc_zero_lit]
  have B3 : Blk (((w.alloc (.cells (dgc s).toArray 47)).alloc (.cells (dgc t).toArray 47)).alloc (.cells (dgc 0).toArray 47)) w.heap.size (dgc s) 47 := ((Blk.new w _ 47).alloc _).alloc _
  have B4 : Blk (((w.alloc (.cells (dgc s).toArray 47)).alloc (.cells (dgc t).toArray 47)).alloc (.cells (dgc 0).toArray 47)) (w.heap.size + 1) (dgc t) 47 := (Blk.last _ _ _ (by simp)).alloc _
  have B6 : Blk (((w.alloc (.cells (dgc s).toArray 47)).alloc (.cells (dgc t).toArray 47)).alloc (.cells (dgc 0).toArray 47)) (w.heap.size + 1 + 1) (dgc 0) 47 := Blk.last _ _ _ (by simp)
  have hb : Below w.heap.size w (((w.alloc (.cells (dgc s).toArray 47)).alloc (.cells (dgc t).toArray 47)).alloc (.cells (dgc 0).toArray 47)) :=
    (((Below.refl _ w).alloc (Nat.le_refl _) _).alloc (by simp) _).alloc (by simp; omega) _
  generalize ((w.alloc (.cells (dgc s).toArray 47)).alloc (.cells (dgc t).toArray 47)).alloc (.cells (dgc 0).toArray 47) = W at *
  have R3 := B3.dg
  have R4 := B4.dg
  go_wp2_with (first
    | (refine ld47 rfl (.tmp 2) rfl w.heap.size 0 rfl s R3 ?_)
    | (refine ld47 rfl (.tmp 3) rfl (w.heap.size + 1) 0 rfl t R4 ?_)
    | (go_at_call 38; refine (hL _).mono ?_; rintro e w' ⟨rfl, hw'⟩; have B6' := B6.below hw'; have T6 := B6'.dgT)
    | (refine st47 rfl rfl (.tmp 4) (.tmp 7) rfl (w.heap.size + 1 + 1) 0 (s + t) rfl rfl T6 ?_))
  exact ret47 rfl (w.heap.size + 1 + 1) (s + t) rfl B6'.dgS rfl ⟨rfl, Below.setCells (hb.trans (hw'.mono hb.size)) (by omega) _ _⟩
theorem sub_calls (s t : Nat) (h : t ≤ s) (hs : s < 18446744073709551616) (w : World) :
    Calls Yba.prog 43 #[.agg (dgc s).toArray, .agg (dgc t).toArray] w fun e w' => e = .returned (.agg (dgc (s - t)).toArray) ∧ Below w.heap.size w w' := by
  have hL := fun w => limbwise_calls 54 s t (s - t) (by omega) (by omega) (by omega) (fun w => run54 0 0 (by decide) (by decide) w) (fun w => run54 s t h hs w) w
  go_enter Yba.func43, Yba.ntmps43
  go_upto_region 1 with fail
  rw [dgc_zero_lit]
  have B3 : Blk (((w.alloc (.cells (dgc s).toArray 47)).alloc (.cells (dgc t).toArray 47)).alloc (.cells (dgc 0).toArray 47)) w.heap.size (dgc s) 47 := ((Blk.new w _ 47).alloc _).alloc _
  have B4 : Blk (((w.alloc (.cells (dgc s).toArray 47)).alloc (.cells (dgc t).toArray 47)).alloc (.cells (dgc 0).toArray 47)) (w.heap.size + 1) (dgc t) 47 := (Blk.last _ _ _ (by simp)).alloc _
  have B6 : Blk (((w.alloc (.cells (dgc s).toArray 47)).alloc (.cells (dgc t).toArray 47)).alloc (.cells (dgc 0).toArray 47)) (w.heap.size + 1 + 1) (dgc 0) 47 := Blk.last _ _ _ (by simp)
  have hb : Below w.heap.size w (((w.alloc (.cells (dgc s).toArray 47)).alloc (.cells (dgc t).toArray 47)).alloc (.cells (dgc 0).toArray 47)) :=
    (((Below.refl _ w).alloc (Nat.le_refl _) _).alloc (by simp) _).alloc (by simp; omega) _
  generalize ((w.alloc (.cells (dgc s).toArray 47)).alloc (.cells (dgc t).toArray 47)).alloc (.cells (dgc 0).toArray 47) = W at *
  have R3 := B3.dg
  have R4 := B4.dg
  go_wp2_with (first
    | (refine ld47 rfl (.tmp 2) rfl w.heap.size 0 rfl s R3 ?_)
    | (refine ld47 rfl (.tmp 3) rfl (w.heap.size + 1) 0 rfl t R4 ?_)
    | (go_at_call 38; refine (hL _).mono ?_; rintro e w' ⟨rfl, hw'⟩; have B6' := B6.below hw'; have T6 := B6'.dgT)
    | (refine st47 rfl rfl (.tmp 4) (.tmp 7) rfl (w.heap.size + 1 + 1) 0 (s - t) rfl rfl T6 ?_))
  exact ret47 rfl (w.heap.size + 1 + 1) (s - t) rfl B6'.dgS rfl ⟨rfl, Below.setCells (hb.trans (hw'.mono hb.size)) (by omega) _ _⟩
end Go.Proofs.Ybulkbqza
