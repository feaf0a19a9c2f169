/-
  Seat b3380a. An id of a number; zzs3380cid.
-/
import Derived.Test.YbulkbqzaBlk
import Derived.Deep.CutRange
import Derived.Lib.BytesEntry
import Derived.Lib.Bytealg
namespace Go.Proofs.Ybulkbqza
open Go.RowKit
set_option linter.unusedVariables false
set_option maxRecDepth 100000

/-- The 20 bytes of the id of v. -/
def idz (v : Nat) : List Int := [((v / 16777216 % 256 : Nat) : Int), ((v / 65536 % 256 : Nat) : Int), ((v / 256 % 256 : Nat) : Int), ((v % 256 : Nat) : Int)] ++ List.replicate 16 0
def idc (v : Nat) : List Value := (idz v).map (Value.int .u8)

theorem idz_length (v : Nat) : (idz v).length = 20 := by simp [idz]
theorem idc_length (v : Nat) : (idc v).length = 20 := by simp [idc, idz_length]
theorem idc_one (v : Nat) : ∀ u ∈ idc v, u.oneCell' = true := fun u hu => by
  simp only [idc, List.mem_map] at hu
  obtain ⟨x, _, rfl⟩ := hu
  rfl
theorem info30 : (Yba.prog.info? 30).map (·.size) = some 20 := by kernel_rfl
theorem info47 : (Yba.prog.info? 47).map (·.size) = some 32 := by kernel_rfl

theorem Below.setCells {B : Nat} {a w : World} (h : Below B a w) {b : Nat} (hb : B ≤ b) : ∀ (o : Nat) (vs : List Value), Below B a (w.setCells b o vs)
  | _, [] => h
  | o, v :: r => Below.setCells (h.setCell (p := ⟨b, o, none⟩) hb v) hb (o + 1) r
theorem Kept.setCells {S : Nat → Prop} {a w : World} (h : Kept S a w) {b : Nat} (hb : a.heap.size ≤ b ∨ S b) : ∀ (o : Nat) (vs : List Value), Kept S a (w.setCells b o vs)
  | _, [] => h
  | o, v :: r => Kept.setCells (h.setCell (p := ⟨b, o, none⟩) hb v) hb (o + 1) r

theorem idc_zero_lit : (#[Value.int IntKind.u8 0, Value.int IntKind.u8 0, Value.int IntKind.u8 0, Value.int IntKind.u8 0, Value.int IntKind.u8 0, Value.int IntKind.u8 0, Value.int IntKind.u8 0, Value.int IntKind.u8 0, Value.int IntKind.u8 0, Value.int IntKind.u8 0, Value.int IntKind.u8 0, Value.int IntKind.u8 0, Value.int IntKind.u8 0, Value.int IntKind.u8 0, Value.int IntKind.u8 0, Value.int IntKind.u8 0, Value.int IntKind.u8 0, Value.int IntKind.u8 0, Value.int IntKind.u8 0, Value.int IntKind.u8 0] : Array Value) = (idc 0).toArray := rfl
theorem idc_lit (v : Nat) (hv : v < 4294967296) : (#[Value.int IntKind.u8 ((v : Int) / 16777216), Value.int IntKind.u8 ((v : Int) / 65536 % 256), Value.int IntKind.u8 ((v : Int) / 256 % 256), Value.int IntKind.u8 ((v : Int) % 256), Value.int IntKind.u8 0, Value.int IntKind.u8 0, Value.int IntKind.u8 0, Value.int IntKind.u8 0, Value.int IntKind.u8 0, Value.int IntKind.u8 0, Value.int IntKind.u8 0, Value.int IntKind.u8 0, Value.int IntKind.u8 0, Value.int IntKind.u8 0, Value.int IntKind.u8 0, Value.int IntKind.u8 0, Value.int IntKind.u8 0, Value.int IntKind.u8 0, Value.int IntKind.u8 0, Value.int IntKind.u8 0] : Array Value) = (idc v).toArray := by
  have h : v / 16777216 % 256 = v / 16777216 := Nat.mod_eq_of_lt (by omega)
  simp [idc, idz, h, List.replicate]

theorem id_calls (v : Nat) (hv : v < 4294967296) (w : World) :
    Calls Yba.prog 7 #[.int .u32 v] w fun e w' => e = .returned (.agg (idc v).toArray) ∧ Below w.heap.size w w' := by
  go_enter Yba.func7, Yba.ntmps7
  go_upto_region 6 with fail
  rw [idc_zero_lit, idc_lit v hv]
  have B2 : Blk ((w.alloc (.cells (idc 0).toArray 30 (0, 0))).alloc (.cells (idc v).toArray 30 (0, 0))) w.heap.size (idc 0) 30 := (Blk.new w _ 30).alloc _
  have B3 : Blk ((w.alloc (.cells (idc 0).toArray 30 (0, 0))).alloc (.cells (idc v).toArray 30 (0, 0))) (w.heap.size + 1) (idc v) 30 := by
    have := Blk.new (w.alloc (.cells (idc 0).toArray 30 (0, 0))) (idc v) 30
    simpa using this
  have hb : Below w.heap.size w ((w.alloc (.cells (idc 0).toArray 30 (0, 0))).alloc (.cells (idc v).toArray 30 (0, 0))) :=
    ((Below.refl _ w).alloc (Nat.le_refl _) _).alloc (by simp) _
  generalize (w.alloc (.cells (idc 0).toArray 30 (0, 0))).alloc (.cells (idc v).toArray 30 (0, 0)) = W at *
  have hR : W.rangeAt (w.heap.size + 1) 0 (idc v) := B3.range (fun j v h => by simpa using h)
  have hT : W.there w.heap.size 0 (idc v).toArray.size := B2.there (by simp [idc_length])
  go_wp2_with (first
    | (refine wpList_load_mid rfl 30 (.tmp 3) rfl (w.heap.size + 1) 0 rfl (idc v) _ hR Yba.underlying30 rfl (by rw [idc_length]; exact info30) ?_)
    | (refine wpList_store_mid rfl 30 (.tmp 2) (.tmp 19) rfl w.heap.size 0 (idc v).toArray rfl rfl hT (by simpa [idc_length] using info30) (all_oneCell_toArray (idc_one v)) ?_))
  have B4 : Blk (W.setCells w.heap.size 0 (idc v)) w.heap.size (idc v) 30 := by
    have := B2.setCells (vs := idc v) (o := 0)
    rwa [splice_eq _ _ _ (by simp [idc_length]), show List.drop (0 + (idc v).length) (idc 0) = [] by simp [idc_length], List.append_nil] at this
  refine bodyPost_ret (results_cell_row rfl _ _ w.heap.size 30 _ _ _ rfl B4 Yba.underlying30 rfl (by simpa [idc_length] using info30)) rfl ?_
  exact ⟨rfl, Below.setCells hb (Nat.le_refl _) _ _⟩

/-- What Cmp answers. -/
def cmpN (u v : Nat) : Int := if u < v then -1 else if v < u then 1 else 0
theorem below_drewN {B : Nat} {a w : World} (h : Below B a w) (n : Nat) : Below B a (w.drewN n) := ⟨h.os, h.tape, h.output, h.size, h.block⟩

theorem cmpB_cons (a b : Nat) (ha : a < 256) (hb : b < 256) (l m : List UInt8) :
    Lib.compareBytes (UInt8.ofNat a :: l) (UInt8.ofNat b :: m) = if a < b then -1 else if b < a then 1 else Lib.compareBytes l m := by
  have h1 : ∀ x y : Nat, x < 256 → y < 256 → (UInt8.ofNat x < UInt8.ofNat y ↔ x < y) := fun x y hx hy => by
    rw [UInt8.lt_iff_toNat_lt, UInt8.toNat_ofNat_of_lt' (by simpa using hx), UInt8.toNat_ofNat_of_lt' (by simpa using hy)]
  simp only [Lib.compareBytes, h1 a b ha hb, h1 b a hb ha]

theorem cmpB_zeros : ∀ n : Nat, Lib.compareBytes (List.replicate n (UInt8.ofNat 0)) (List.replicate n (UInt8.ofNat 0)) = 0
  | 0 => rfl
  | n + 1 => by
    rw [List.replicate_succ, cmpB_cons 0 0 (by decide) (by decide), cmpB_zeros n]
    simp

theorem cmpB_ids (u v : Nat) (hu : u < 4294967296) (hv : v < 4294967296) :
    Lib.compareBytes (Lib.bytesOf (idz u)) (Lib.bytesOf (idz v)) = cmpN u v := by
  unfold cmpN
  have e : ∀ x : Nat, Lib.bytesOf (idz x) = UInt8.ofNat (x / 16777216 % 256) :: UInt8.ofNat (x / 65536 % 256) :: UInt8.ofNat (x / 256 % 256) :: UInt8.ofNat (x % 256) :: List.replicate 16 (UInt8.ofNat 0) := fun x => by
    simp only [Lib.bytesOf, idz, List.map_append, List.map_cons, List.map_nil, List.map_replicate, Int.toNat_natCast]
    rfl
  rw [e u, e v, cmpB_cons _ _ (by omega) (by omega), cmpB_cons _ _ (by omega) (by omega), cmpB_cons _ _ (by omega) (by omega), cmpB_cons _ _ (by omega) (by omega), cmpB_zeros]
  have hu' : u = 16777216 * (u / 16777216 % 256) + 65536 * (u / 65536 % 256) + 256 * (u / 256 % 256) + u % 256 := by omega
  have hv' : v = 16777216 * (v / 16777216 % 256) + 65536 * (v / 65536 % 256) + 256 * (v / 256 % 256) + v % 256 := by omega
  have q : ∀ x y : Nat, y < 256 → x % 256 < 256 := fun x y _ => Nat.mod_lt _ (by decide)
  generalize u / 16777216 % 256 = a0 at *
  generalize v / 16777216 % 256 = b0 at *
  have h1 : u / 65536 % 256 < 256 := Nat.mod_lt _ (by decide)
  have h2 : v / 65536 % 256 < 256 := Nat.mod_lt _ (by decide)
  have h3 : u / 256 % 256 < 256 := Nat.mod_lt _ (by decide)
  have h4 : v / 256 % 256 < 256 := Nat.mod_lt _ (by decide)
  have h5 : u % 256 < 256 := Nat.mod_lt _ (by decide)
  have h6 : v % 256 < 256 := Nat.mod_lt _ (by decide)
  generalize u / 65536 % 256 = a1 at *
  generalize v / 65536 % 256 = b1 at *
  generalize u / 256 % 256 = a2 at *
  generalize v / 256 % 256 = b2 at *
  generalize u % 256 = a3 at *
  generalize v % 256 = b3 at *
  clear e q
  split
  · rw [if_pos (by omega)]
  · split
    · rw [if_neg (by omega), if_pos (by omega)]
    · split
      · rw [if_pos (by omega)]
      · split
        · rw [if_neg (by omega), if_pos (by omega)]
        · split
          · rw [if_pos (by omega)]
          · split
            · rw [if_neg (by omega), if_pos (by omega)]
            · split
              · rw [if_pos (by omega)]
              · split
                · rw [if_neg (by omega), if_pos (by omega)]
                · rw [if_neg (by omega), if_neg (by omega)]

theorem run_compare {P : Program} (xs ys : List Int) (b o b' o' c c' : Nat) (w : World) (hx : ∀ j x, xs[j]? = some x → w.cell? ⟨b, o + j, none⟩ = some (.int .u8 x)) (hy : ∀ j x, ys[j]? = some x → w.cell? ⟨b', o' + j, none⟩ = some (.int .u8 x)) :
    (Extern.BytealgCompare.compare #[.slice (some ⟨b, o, none⟩) xs.length c, .slice (some ⟨b', o', none⟩) ys.length c']).run P w = .ok (.int .i64 (Lib.compareBytes (Lib.bytesOf xs) (Lib.bytesOf ys))) w := by
  have h1 := Lib.run_loadBytesX (P := P) w xs ⟨b, o, none⟩ .empty (fun j x hj => by rw [Addr.add_mid]; exact hx j x hj)
  have h2 := Lib.run_loadBytesX (P := P) w ys ⟨b', o', none⟩ .empty (fun j x hj => by rw [Addr.add_mid]; exact hy j x hj)
  change Sem.run P (do pure (goInt (Extern.BytealgCompare.cmp (← Extern.Bytes.bytesOf (.slice (some ⟨b, o, none⟩) xs.length c)) (← Extern.Bytes.bytesOf (.slice (some ⟨b', o', none⟩) ys.length c'))))) w = _
  simp only [Extern.Bytes.bytesOf, Sem.run_bind, Sem.run_pure, Result.andThen, h1, h2]
  rw [Lib.cmp_eq]
  simp [goInt, ByteArray.empty, ByteArray.emptyWithCapacity]
  rfl

theorem compare_calls (xs ys : List Int) (b o b' o' c c' : Nat) (w : World) (hx : ∀ j x, xs[j]? = some x → w.cell? ⟨b, o + j, none⟩ = some (.int .u8 x)) (hy : ∀ j x, ys[j]? = some x → w.cell? ⟨b', o' + j, none⟩ = some (.int .u8 x)) :
    Calls Yba.prog 24 #[.slice (some ⟨b, o, none⟩) xs.length c, .slice (some ⟨b', o', none⟩) ys.length c'] w fun e w' => e = .returned (.int .i64 (Lib.compareBytes (Lib.bytesOf xs) (Lib.bytesOf ys))) ∧ w' = w := by
  have hc : (callFunc 40 #[.slice (some ⟨b, o, none⟩) xs.length c, .slice (some ⟨b', o', none⟩) ys.length c']).run Yba.prog w = .ok (.value (.int .i64 (Lib.compareBytes (Lib.bytesOf xs) (Lib.bytesOf ys)))) w := by
    rw [run_callFunc_extern Yba.func40 (by kernel_rfl) (by kernel_rfl) (by kernel_rfl) (e := Extern.BytealgCompare.compare) (by kernel_rfl), run_compare xs ys b o b' o' c c' w hx hy]
    rfl
  go_enter Yba.func24, Yba.ntmps24
  go_wp2_with fail
  go_ret
  exact ⟨rfl, rfl⟩

/-- Two blocks, each an id whole, compared. -/
theorem compare_ids (u v : Nat) (hu : u < 4294967296) (hv : v < 4294967296) (b b' o o' c c' : Nat) (w : World) (h1 : w.rangeAt b o (idc u)) (h2 : w.rangeAt b' o' (idc v)) :
    Calls Yba.prog 24 #[.slice (some ⟨b, o, none⟩) 20 c, .slice (some ⟨b', o', none⟩) 20 c'] w fun e w' => e = .returned (.int .i64 (cmpN u v)) ∧ w' = w := by
  have h := compare_calls (idz u) (idz v) b o b' o' c c' w (fun j x hx => h1 j _ (by simp [idc, hx])) (fun j x hx => h2 j _ (by simp [idc, hx]))
  rw [idz_length, idz_length, cmpB_ids u v hu hv] at h
  exact h

theorem cmp_calls (u v : Nat) (hu : u < 4294967296) (hv : v < 4294967296) (w : World) :
    Calls Yba.prog 12 #[.agg (idc u).toArray, .agg (idc v).toArray] w fun e w' => e = .returned (.int .i64 (cmpN u v)) ∧ Below w.heap.size w w' := by
  go_enter Yba.func12, Yba.ntmps12
  go_wp2_with fail
  have B2 : Blk ((w.alloc (.cells (idc u).toArray 30 (0, 0))).alloc (.cells (idc v).toArray 30 (0, 0))) w.heap.size (idc u) 30 := (Blk.new w _ 30).alloc _
  have B3 : Blk ((w.alloc (.cells (idc u).toArray 30 (0, 0))).alloc (.cells (idc v).toArray 30 (0, 0))) (w.heap.size + 1) (idc v) 30 := by
    have := Blk.new (w.alloc (.cells (idc u).toArray 30 (0, 0))) (idc v) 30
    simpa using this
  have hb : Below w.heap.size w ((w.alloc (.cells (idc u).toArray 30 (0, 0))).alloc (.cells (idc v).toArray 30 (0, 0))) :=
    ((Below.refl _ w).alloc (Nat.le_refl _) _).alloc (by simp) _
  generalize (w.alloc (.cells (idc u).toArray 30 (0, 0))).alloc (.cells (idc v).toArray 30 (0, 0)) = W at *
  have h1 : W.rangeAt w.heap.size 0 (idc u) := B2.range (fun j v h => by simpa using h)
  have h2 : W.rangeAt (w.heap.size + 1) 0 (idc v) := B3.range (fun j v h => by simpa using h)
  go_quiet (first | (go_at_call 24; refine Calls.quiet_of_same (compare_ids u v hu hv _ _ _ _ _ _ _ h1 h2)))
  go_wp2_with fail
  go_ret
  exact ⟨rfl, below_drewN hb _⟩
end Go.Proofs.Ybulkbqza
