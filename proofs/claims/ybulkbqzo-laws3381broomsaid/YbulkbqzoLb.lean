/-
  Seat b3381a. The world inside newHosts' second loop, and what newHosts leaves.
-/
import Derived.Test.YbulkbqzoLs
namespace Go.Proofs.Ybulkbqzo
open Go.RowKit Go.Maps
set_option linter.unusedVariables false

theorem Yba.info23 : (Yba.prog.info? 23).map (fun i => (i.zero, i.size, i.bytes)) = some (some (.slice none 0 0), 1, 24) := by kernel_rfl
theorem Yba.info38 : (Yba.prog.info? 38).map (fun i => (i.zero, i.size, i.bytes)) = some (some (.slice none 0 0), 1, 24) := by kernel_rfl
theorem Yba.info41 : (Yba.prog.info? 41).map (fun i => (i.zero, i.size, i.bytes)) = some (some (.int .u64 0), 1, 8) := by kernel_rfl
theorem Yba.info28 : (Yba.prog.info? 28).map (fun i => (i.zero, i.size, i.bytes)) = some (some (.agg #[.string ByteArray.empty, .slice none 0 0, .string ByteArray.empty, .int .i64 0]), 4, 64) := by kernel_rfl

theorem make33 (n : Nat) (hn : n ≤ 1024) (w : World) : (Instr.makeSlice 33 (.int .i64 (n : Int)) (.int .i64 (n : Int))).run Yba.prog w = .ok (.slice (some ⟨w.heap.size, 0, none⟩) n n) (w.alloc (.cells (madeCells #[.slice none 0 0] n) 23)) :=
  run_make_row' 33 23 _ 24 Yba.underlying33 Yba.info23 rfl .i64 .i64 n (by omega) (by omega) w
theorem make30 (n : Nat) (hn : n ≤ 1024) (w : World) : (Instr.makeSlice 30 (.int .i64 (n : Int)) (.int .i64 (n : Int))).run Yba.prog w = .ok (.slice (some ⟨w.heap.size, 0, none⟩) n n) (w.alloc (.cells (madeCells #[.slice none 0 0] n) 38)) :=
  run_make_row' 30 38 _ 24 Yba.underlying30 Yba.info38 rfl .i64 .i64 n (by omega) (by omega) w
theorem make38 (n : Nat) (hn : n ≤ 1024) (w : World) : (Instr.makeSlice 38 (.int .i64 (n : Int)) (.int .i64 (n : Int))).run Yba.prog w = .ok (.slice (some ⟨w.heap.size, 0, none⟩) n n) (w.alloc (.cells (madeCells #[.int .u64 0] n) 41)) :=
  run_make_row' 38 41 _ 8 Yba.underlying38 Yba.info41 rfl .i64 .i64 n (by omega) (by omega) w

/-- The zero cells of a row of events. -/
def zEv (i : Nat) : Value := if i % 4 = 0 then .string ByteArray.empty else if i % 4 = 1 then .slice none 0 0 else if i % 4 = 2 then .string ByteArray.empty else .int .i64 0

/-- The new row of n events (a name of its own, so that no walk lays it open). -/
def evRow (n : Nat) : Array Value := madeCells #[.string ByteArray.empty, .slice none 0 0, .string ByteArray.empty, .int .i64 0] (n * 4)

theorem make23 (n : Nat) (hn : n ≤ 1024) (w : World) : (Instr.makeSlice 23 (.int .i64 (n : Int)) (.int .i64 (n : Int))).run Yba.prog w = .ok (.slice (some ⟨w.heap.size, 0, none⟩) n n) (w.alloc (.cells (evRow n) 28)) := by
  obtain ⟨i, hi, hz, hs, hb⟩ := info_parts Yba.info28
  have h := run_make (P := Yba.prog) w 23 28 i _ Yba.underlying23 hi hz .i64 .i64 n n (by omega) (Int.le_refl _) (by rw [hb]; omega) (by omega)
  simp only [Int.toNat_natCast, hs] at h
  exact h

theorem evRow_is (w : World) (n : Nat) : (w.alloc (.cells (evRow n) 28)).rowIs w.heap.size 28 (n * 4) zEv := by
  have h := World.rowIs_alloc w (evRow n) 28 zEv (fun i hi => by
    have hi' : i < n * 4 := by simpa [evRow, size_madeCells] using hi
    have : i % 4 = 0 ∨ i % 4 = 1 ∨ i % 4 = 2 ∨ i % 4 = 3 := by omega
    rcases this with h | h | h | h <;> simp [evRow, madeCells, hi', h, zEv])
  have e : (evRow n).size = n * 4 := size_madeCells _ _
  rw [e] at h
  exact h

/-- Where the room of the j-th host begins. -/
def offTo (P : List (ByteArray × Nat)) (j : Nat) : Nat := ((P.take j).map (·.2)).sum

theorem offTo_zero (P : List (ByteArray × Nat)) : offTo P 0 = 0 := rfl
theorem offTo_succ (P : List (ByteArray × Nat)) (j : Nat) (h : j < P.length) : offTo P (j + 1) = offTo P j + P[j].2 := by
  unfold offTo
  rw [List.take_succ_eq_append_getElem h, List.map_append, List.sum_append]
  simp
theorem offTo_all (P : List (ByteArray × Nat)) : offTo P P.length = (P.map (·.2)).sum := by unfold offTo; rw [List.take_length]
theorem offTo_mono (P : List (ByteArray × Nat)) (i : Nat) : ∀ d, i + d ≤ P.length → offTo P i ≤ offTo P (i + d)
  | 0, _ => Nat.le_refl _
  | d + 1, h => by
    have := offTo_mono P i d (by omega)
    have e := offTo_succ P (i + d) (by omega)
    rw [← Nat.add_assoc, e]
    omega
theorem offTo_le (P : List (ByteArray × Nat)) (i j : Nat) (hij : i ≤ j) (hj : j ≤ P.length) : offTo P i ≤ offTo P j := by
  have := offTo_mono P i (j - i) (by omega)
  rwa [show i + (j - i) = j by omega] at this

/-- The first h slices of r.Events (step 4) or of own (step 1) are laid. -/
def rooms (P : List (ByteArray × Nat)) (blk step h : Nat) (j : Nat) : Value :=
  if j < h then .slice (some ⟨blk, offTo P j * step, none⟩) 0 (P[j]?.getD default).2 else .slice none 0 0

/-- Both rows of slices, and both rows of room. -/
structure Lb (w0 : World) (m0 : Nat) (f : List UInt8 → Option Nat) (P : List (ByteArray × Nat)) (ho co : Option Addr) (hb cb ch cc VB OB AB UB N : Nat) (ev ow : Nat → Value) (w : World) : Prop where
  ls : Ls w0 m0 f P.length P ho co hb cb ch cc (.slice (some ⟨VB, 0, none⟩) P.length P.length) w
  evs : w.rowIs VB 23 P.length ev
  own : w.rowIs OB 38 P.length ow
  all : w.rowIs AB 28 (N * 4) zEv
  owns : w.rowIs UB 41 N (fun _ => .int .u64 0)
  newV : m0 + 1 < VB
  newO : m0 + 1 < OB
  newA : m0 + 1 < AB
  newU : m0 + 1 < UB
  apart : 0 < P.length → hb < VB ∧ hb < OB ∧ hb < AB ∧ hb < UB ∧ cb < VB ∧ cb < OB ∧ cb < AB ∧ cb < UB

/-- f leads the names of P somewhere, those of the first h to their places, all others nowhere. -/
structure Half (P : List (ByteArray × Nat)) (h : Nat) (f : List UInt8 → Option Nat) : Prop where
  some_ : ∀ j (hj : j < P.length), (f P[j].1.data.toList).isSome = true
  yes : ∀ j (hj : j < P.length), j < h → f P[j].1.data.toList = some j
  no : ∀ s : ByteArray, s ∉ P.map (·.1) → f s.data.toList = none

theorem Half.start {P P0 : List (ByteArray × Nat)} {f : List UInt8 → Option Nat} (i : Idx (P0.map (·.1)) f) (hp : P.Perm P0) : Half P 0 f := by
  have hm := hp.map (·.1)
  refine ⟨fun j hj => ?_, fun j hj h => by omega, fun s hs => i.no s (fun h => hs (hm.mem_iff.2 h))⟩
  have : P[j].1 ∈ P0.map (·.1) := hm.mem_iff.1 (List.mem_map.2 ⟨P[j], List.getElem_mem _, rfl⟩)
  rcases i.isSome P[j].1 with ⟨_, k, hk, e, hf⟩ | ⟨h, _⟩
  · rw [hf]; rfl
  · exact absurd this h

theorem Half.step {P : List (ByteArray × Nat)} {h : Nat} {f : List UInt8 → Option Nat} (v : Half P h f) (hnd : (P.map (·.1)).Nodup) (hh : h < P.length) :
    Half P (h + 1) (fun l => if l = P[h].1.data.toList then some h else f l) := by
  have inj : ∀ j (hj : j < P.length), P[j].1.data.toList = P[h].1.data.toList → j = h := fun j hj e =>
    (List.getElem_inj (xs := P.map (·.1)) (i := j) (j := h) (h₀ := by simpa using hj) (h₁ := by simpa using hh) hnd).1 (by simpa using data_inj e)
  refine ⟨fun j hj => ?_, fun j hj hlt => ?_, fun s hs => ?_⟩
  · by_cases e : P[j].1.data.toList = P[h].1.data.toList
    · simp [e]
    · simp only [if_neg e]; exact v.some_ j hj
  · by_cases e : P[j].1.data.toList = P[h].1.data.toList
    · have := inj j hj e
      subst this
      simp
    · have : j ≠ h := fun e2 => e (by subst e2; rfl)
      simp only [if_neg e]
      exact v.yes j hj (by omega)
  · have : s.data.toList ≠ P[h].1.data.toList := fun e => hs (by rw [data_inj e]; exact List.mem_map.2 ⟨P[h], List.getElem_mem _, rfl⟩)
    simp only [if_neg this]
    exact v.no s hs

theorem Half.done {P : List (ByteArray × Nat)} {f : List UInt8 → Option Nat} (v : Half P P.length f) : Idx (P.map (·.1)) f :=
  ⟨fun j hj => by
    have hj' : j < P.length := by simpa using hj
    rw [List.getElem_map]; exact v.yes j hj' hj', v.no⟩

theorem Inv.perm {hs : Nat → ByteArray} {k : Nat} {P P' : List (ByteArray × Nat)} (v : Inv hs k P) (hp : P'.Perm P) : Inv hs k P' := by
  have hc : ∀ p ∈ P, p.2 = cntTo hs k p.1 ∧ 1 ≤ p.2 := fun p hm => by
    obtain ⟨i, hi, rfl⟩ := List.getElem_of_mem hm
    exact ⟨v.cnt i hi, v.pos i hi⟩
  exact ⟨(hp.map (·.1)).nodup_iff.2 v.nodup, by rw [hp.length_eq]; exact v.le, fun i h => (hc _ (hp.mem_iff.1 (List.getElem_mem h))).1, fun i h => (hc _ (hp.mem_iff.1 (List.getElem_mem h))).2,
    fun i h => (hp.map (·.1)).mem_iff.2 (v.mem i h), by rw [(hp.map (·.2)).sum_nat]; exact v.sum⟩

theorem Ls.setEv {w0 : World} {m0 : Nat} {f : List UInt8 → Option Nat} {nm : Nat} {P : List (ByteArray × Nat)} {ho co : Option Addr} {hb cb ch cc : Nat} {vev : Value} {w : World} (h : Ls w0 m0 f nm P ho co hb cb ch cc vev w) (v : Value) :
    Ls w0 m0 f nm P ho co hb cb ch cc v (w.setCell ⟨m0 + 1, 1, none⟩ v) := by
  have hne : ∀ k, k ≠ m0 + 1 → (w.setCell ⟨m0 + 1, 1, none⟩ v).heap[k]? = w.heap[k]? := fun k hk => Below.heap_setCell _ _ _ _ hk
  have hs : (w.setCell ⟨m0 + 1, 1, none⟩ v).heap.size = w.heap.size := by simp [World.setCell]
  refine ⟨h.map.of_block (hne _ (by omega)), (h.run.set 1 v).congr fun i hi => ?_, h.hoIs, h.coIs, fun hp => by rw [hs]; exact h.lo hp, h.hcap, h.ccap, fun j hj => ?_, fun j hj => ?_, ?_⟩
  · match i with
    | 0 => rfl
    | 1 => rfl
    | 2 => rfl
    | 3 => rfl
  · exact (World.cell?_of_block (w := w) (a := ⟨hb, j, none⟩) (hne _ (by have := h.lo (by omega); show hb ≠ m0 + 1; omega))).trans (h.hcell j hj)
  · exact (World.cell?_of_block (w := w) (a := ⟨cb, j, none⟩) (hne _ (by have := h.lo (by omega); show cb ≠ m0 + 1; omega))).trans (h.ccell j hj)
  · exact h.below.setCell (by show m0 ≤ m0 + 1; omega) _

/-- What 'r.Events, own = make(..), make(..)' leaves. -/
def La (w0 : World) (m0 : Nat) (f : List UInt8 → Option Nat) (P : List (ByteArray × Nat)) (ho co : Option Addr) (hb cb ch cc VB OB : Nat) (w : World) : Prop :=
  Ls w0 m0 f P.length P ho co hb cb ch cc (.slice (some ⟨VB, 0, none⟩) P.length P.length) w ∧ w.rowIs VB 23 P.length (fun _ => .slice none 0 0) ∧ w.rowIs OB 38 P.length (fun _ => .slice none 0 0) ∧
    m0 + 1 < VB ∧ m0 + 1 < OB ∧ (0 < P.length → hb < VB ∧ hb < OB ∧ cb < VB ∧ cb < OB)

variable {w0 : World} {m0 : Nat} {f : List UInt8 → Option Nat} {P : List (ByteArray × Nat)} {ho co : Option Addr} {hb cb ch cc : Nat} {w : World}

theorem la_a (h : Ls w0 m0 f P.length P ho co hb cb ch cc (.slice none 0 0) w) : La w0 m0 f P ho co hb cb ch cc w.heap.size (w.heap.size + 1)
    (((w.setCell ⟨m0 + 1, 1, none⟩ (.slice (some ⟨w.heap.size, 0, none⟩) P.length P.length)).alloc (Obj.cells (madeCells #[Value.slice none 0 0] P.length) 23)).alloc (Obj.cells (madeCells #[Value.slice none 0 0] P.length) 38)).drew := by
  have hs : ∀ v, (w.setCell ⟨m0 + 1, 1, none⟩ v).heap.size = w.heap.size := fun v => by simp [World.setCell]
  have h1 := h.setEv (.slice (some ⟨w.heap.size, 0, none⟩) P.length P.length)
  have hl := h.lt
  have r1 := World.rowIs_made (w.setCell ⟨m0 + 1, 1, none⟩ (.slice (some ⟨w.heap.size, 0, none⟩) P.length P.length)) (.slice none 0 0) P.length 23
  rw [hs] at r1
  have r2 := World.rowIs_made ((w.setCell ⟨m0 + 1, 1, none⟩ (.slice (some ⟨w.heap.size, 0, none⟩) P.length P.length)).alloc (Obj.cells (madeCells #[Value.slice none 0 0] P.length) 23)) (.slice none 0 0) P.length 38
  refine ⟨h1.of_below ((((Below.refl _ _).alloc (Nat.le_refl _) _).alloc (by simp) _).drew), (r1.alloc _).drew, ?_, by omega, by omega, fun hp => by have := h.lo hp; omega⟩
  have e : ((w.setCell ⟨m0 + 1, 1, none⟩ (.slice (some ⟨w.heap.size, 0, none⟩) P.length P.length)).alloc (Obj.cells (madeCells #[Value.slice none 0 0] P.length) 23)).heap.size = w.heap.size + 1 := by simp [World.setCell]
  rw [e] at r2
  exact r2.drew

theorem la_b (h : Ls w0 m0 f P.length P ho co hb cb ch cc (.slice none 0 0) w) : La w0 m0 f P ho co hb cb ch cc (w.heap.size + 1) w.heap.size
    (((w.setCell ⟨m0 + 1, 1, none⟩ (.slice (some ⟨w.heap.size + 1, 0, none⟩) P.length P.length)).alloc (Obj.cells (madeCells #[Value.slice none 0 0] P.length) 38)).alloc (Obj.cells (madeCells #[Value.slice none 0 0] P.length) 23)).drew := by
  have hs : ∀ v, (w.setCell ⟨m0 + 1, 1, none⟩ v).heap.size = w.heap.size := fun v => by simp [World.setCell]
  have h1 := h.setEv (.slice (some ⟨w.heap.size + 1, 0, none⟩) P.length P.length)
  have hl := h.lt
  have r1 := World.rowIs_made (w.setCell ⟨m0 + 1, 1, none⟩ (.slice (some ⟨w.heap.size + 1, 0, none⟩) P.length P.length)) (.slice none 0 0) P.length 38
  rw [hs] at r1
  have r2 := World.rowIs_made ((w.setCell ⟨m0 + 1, 1, none⟩ (.slice (some ⟨w.heap.size + 1, 0, none⟩) P.length P.length)).alloc (Obj.cells (madeCells #[Value.slice none 0 0] P.length) 38)) (.slice none 0 0) P.length 23
  refine ⟨h1.of_below ((((Below.refl _ _).alloc (Nat.le_refl _) _).alloc (by simp) _).drew), ?_, (r1.alloc _).drew, by omega, by omega, fun hp => by have := h.lo hp; omega⟩
  have e : ((w.setCell ⟨m0 + 1, 1, none⟩ (.slice (some ⟨w.heap.size + 1, 0, none⟩) P.length P.length)).alloc (Obj.cells (madeCells #[Value.slice none 0 0] P.length) 38)).heap.size = w.heap.size + 1 := by simp [World.setCell]
  rw [e] at r2
  exact r2.drew

theorem rooms_zero (P : List (ByteArray × Nat)) (blk step j : Nat) : rooms P blk step 0 j = .slice none 0 0 := by unfold rooms; rw [if_neg (by omega)]

/-- What 'all, owns := make(..), make(..)' leaves. -/
theorem lb_of {VB OB AB UB N : Nat} {w' : World} (h : La w0 m0 f P ho co hb cb ch cc VB OB w) (hbl : Below w.heap.size w w') (ha : w'.rowIs AB 28 (N * 4) zEv) (hu : w'.rowIs UB 41 N (fun _ => .int .u64 0)) (hA : w.heap.size ≤ AB) (hU : w.heap.size ≤ UB) :
    Lb w0 m0 f P ho co hb cb ch cc VB OB AB UB N (rooms P AB 4 0) (rooms P UB 1 0) w' := by
  obtain ⟨h1, h2, h3, h4, h5, h6⟩ := h
  have hl := h1.lt
  exact ⟨h1.of_below hbl, (h2.of_block (hbl.block _ h2.lt)).congr (fun i _ => (rooms_zero _ _ _ _).symm), (h3.of_block (hbl.block _ h3.lt)).congr (fun i _ => (rooms_zero _ _ _ _).symm), ha, hu, h4, h5, by omega, by omega,
    fun hp => by have := h6 hp; have := h1.lo hp; omega⟩

theorem lb_a {VB OB N : Nat} (h : La w0 m0 f P ho co hb cb ch cc VB OB w) :
    Lb w0 m0 f P ho co hb cb ch cc VB OB w.heap.size (w.heap.size + 1) N (rooms P w.heap.size 4 0) (rooms P (w.heap.size + 1) 1 0) (((w.alloc (Obj.cells (evRow N) 28)).alloc (Obj.cells (madeCells #[Value.int .u64 0] N) 41)).drew) := by
  have r := World.rowIs_made (w.alloc (Obj.cells (evRow N) 28)) (.int .u64 0) N 41
  rw [show (w.alloc (Obj.cells (evRow N) 28)).heap.size = w.heap.size + 1 by simp] at r
  exact lb_of h ((((Below.refl _ _).alloc (Nat.le_refl _) _).alloc (by simp) _).drew) ((evRow_is w N).alloc _).drew r.drew (Nat.le_refl _) (by omega)

theorem lb_b {VB OB N : Nat} (h : La w0 m0 f P ho co hb cb ch cc VB OB w) :
    Lb w0 m0 f P ho co hb cb ch cc VB OB (w.heap.size + 1) w.heap.size N (rooms P (w.heap.size + 1) 4 0) (rooms P w.heap.size 1 0) (((w.alloc (Obj.cells (madeCells #[Value.int .u64 0] N) 41)).alloc (Obj.cells (evRow N) 28)).drew) := by
  have r := evRow_is (w.alloc (Obj.cells (madeCells #[Value.int .u64 0] N) 41)) N
  rw [show (w.alloc (Obj.cells (madeCells #[Value.int .u64 0] N) 41)).heap.size = w.heap.size + 1 by simp] at r
  exact lb_of h ((((Below.refl _ _).alloc (Nat.le_refl _) _).alloc (by simp) _).drew) r.drew ((World.rowIs_made w (.int .u64 0) N 41).alloc _).drew (by omega) (Nat.le_refl _)

variable {VB OB AB UB N : Nat} {ev ow : Nat → Value}

theorem Lb.of_below {w' : World} (h : Lb w0 m0 f P ho co hb cb ch cc VB OB AB UB N ev ow w) (b : Below w.heap.size w w') : Lb w0 m0 f P ho co hb cb ch cc VB OB AB UB N ev ow w' :=
  ⟨h.ls.of_below b, h.evs.of_block (b.block _ h.evs.lt), h.own.of_block (b.block _ h.own.lt), h.all.of_block (b.block _ h.all.lt), h.owns.of_block (b.block _ h.owns.lt), h.newV, h.newO, h.newA, h.newU, h.apart⟩

theorem rowIs_ne {b b' : Nat} {t t' : TypeId} {n n' : Nat} {g g' : Nat → Value} (h : w.rowIs b t n g) (h' : w.rowIs b' t' n' g') (ht : t ≠ t') : b ≠ b' := fun e => by
  subst e
  obtain ⟨c, h1, _⟩ := h
  obtain ⟨c', h2, _⟩ := h'
  rw [h1] at h2
  simp at h2
  exact ht h2.2

theorem Lb.store (h : Lb w0 m0 f P ho co hb cb ch cc VB OB AB UB N ev ow w) (hn : P.length < maxLen) (s : ByteArray) (hs : s.size ≤ maxLen) (v : Nat) (hv : v ≤ 9223372036854775807) (hsome : (f s.data.toList).isSome = true) :
    ∃ w', (Instr.mapUpdate 34 (.map (some m0)) (.string s) (.int .i64 v)).run Yba.prog w = .ok () w' ∧
      Lb w0 m0 (fun l => if l = s.data.toList then some v else f l) P ho co hb cb ch cc VB OB AB UB N ev ow w' := by
  obtain ⟨w', hrun, hm, ht⟩ := h.ls.map.store hn s hs v hv
  rw [hsome, if_pos rfl] at hm
  obtain ⟨es, clock, es', clock', hb0, rfl⟩ := ht
  have hk : ∀ k, k ≠ m0 → (Go.ChangeMaps.setBlock w m0 (.map es' clock')).heap[k]? = w.heap[k]? := fun k hk => by
    simp [Go.ChangeMaps.setBlock, Ne.symm hk]
  have hsz : (Go.ChangeMaps.setBlock w m0 (.map es' clock')).heap.size = w.heap.size := by simp [Go.ChangeMaps.setBlock]
  have l := h.ls
  have b0 : Below m0 w (Go.ChangeMaps.setBlock w m0 (.map es' clock')) := ⟨rfl, rfl, rfl, by rw [hsz]; exact Nat.le_refl _, fun k hk' => hk k (by omega)⟩
  refine ⟨_, hrun, ⟨hm, l.run.of_block (hk _ (by omega)), l.hoIs, l.coIs, fun hp => by rw [hsz]; exact l.lo hp, l.hcap, l.ccap,
    fun j hj => (World.cell?_of_block (w := w) (a := ⟨hb, j, none⟩) (hk _ (by have := l.lo (by omega); show hb ≠ m0; omega))).trans (l.hcell j hj),
    fun j hj => (World.cell?_of_block (w := w) (a := ⟨cb, j, none⟩) (hk _ (by have := l.lo (by omega); show cb ≠ m0; omega))).trans (l.ccell j hj), l.below.trans b0⟩,
    h.evs.of_block (hk _ (by have := h.newV; omega)), h.own.of_block (hk _ (by have := h.newO; omega)), h.all.of_block (hk _ (by have := h.newA; omega)), h.owns.of_block (hk _ (by have := h.newU; omega)), h.newV, h.newO, h.newA, h.newU, h.apart⟩

/-- A store into a row from m0 + 2 on that is neither the names' nor the counts'. -/
theorem Ls.setRow {nm : Nat} {vev : Value} (h : Ls w0 m0 f nm P ho co hb cb ch cc vev w) {b : Nat} (h0 : m0 + 1 < b) (h1 : 0 < P.length → hb < b ∧ cb < b) (j : Nat) (v : Value) : Ls w0 m0 f nm P ho co hb cb ch cc vev (w.setCell ⟨b, j, none⟩ v) := by
  have hne : ∀ k, k ≠ b → (w.setCell ⟨b, j, none⟩ v).heap[k]? = w.heap[k]? := fun k hk => Below.heap_setCell _ _ _ _ hk
  exact h.of_blocks (hne _ (by omega)) (hne _ (by omega)) (fun hp => ⟨hne _ (by have := h1 hp; omega), hne _ (by have := h1 hp; omega)⟩) ((Below.refl _ _).setCell (by show m0 ≤ b; omega) _)

theorem Lb.setV (h : Lb w0 m0 f P ho co hb cb ch cc VB OB AB UB N ev ow w) (j : Nat) (v : Value) : Lb w0 m0 f P ho co hb cb ch cc VB OB AB UB N (fun i => if i = j then v else ev i) ow (w.setCell ⟨VB, j, none⟩ v) :=
  ⟨h.ls.setRow h.newV (fun hp => by have := h.apart hp; omega) j v, h.evs.set j v, h.own.setOther (rowIs_ne h.own h.evs (by decide)) _, h.all.setOther (rowIs_ne h.all h.evs (by decide)) _, h.owns.setOther (rowIs_ne h.owns h.evs (by decide)) _, h.newV, h.newO, h.newA, h.newU, h.apart⟩

theorem Lb.setO (h : Lb w0 m0 f P ho co hb cb ch cc VB OB AB UB N ev ow w) (j : Nat) (v : Value) : Lb w0 m0 f P ho co hb cb ch cc VB OB AB UB N ev (fun i => if i = j then v else ow i) (w.setCell ⟨OB, j, none⟩ v) :=
  ⟨h.ls.setRow h.newO (fun hp => by have := h.apart hp; omega) j v, h.evs.setOther (rowIs_ne h.evs h.own (by decide)) _, h.own.set j v, h.all.setOther (rowIs_ne h.all h.own (by decide)) _, h.owns.setOther (rowIs_ne h.owns h.own (by decide)) _, h.newV, h.newO, h.newA, h.newU, h.apart⟩

theorem Lb.congr {ev' ow' : Nat → Value} (h : Lb w0 m0 f P ho co hb cb ch cc VB OB AB UB N ev ow w) (h1 : ∀ i, i < P.length → ev i = ev' i) (h2 : ∀ i, i < P.length → ow i = ow' i) : Lb w0 m0 f P ho co hb cb ch cc VB OB AB UB N ev' ow' w :=
  ⟨h.ls, h.evs.congr h1, h.own.congr h2, h.all, h.owns, h.newV, h.newO, h.newA, h.newU, h.apart⟩

theorem rooms_succ (P : List (ByteArray × Nat)) (blk step h : Nat) (hh : h < P.length) {v : Value} (hv : v = .slice (some ⟨blk, offTo P h * step, none⟩) 0 P[h].2) (i : Nat) :
    (if i = h then v else rooms P blk step h i) = rooms P blk step (h + 1) i := by
  subst hv
  unfold rooms
  by_cases e : i = h
  · subst e; rw [if_pos rfl, if_pos (by omega)]; simp [hh]
  · rw [if_neg e]
    by_cases e2 : i < h
    · rw [if_pos e2, if_pos (by omega)]
    · rw [if_neg e2, if_neg (by omega)]

end Go.Proofs.Ybulkbqzo
