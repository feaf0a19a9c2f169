/-
  Seat b3381a. The world behind sort.Sort in newHosts.
-/
import Derived.Test.YbulkbqzoLw
import Derived.Test.YbulkbqzoSort
namespace Go.Proofs.Ybulkbqzo
open Go.RowKit Go.Maps
set_option linter.unusedVariables false

/-- The names ascend. -/
def Asc (P : List (ByteArray × Nat)) : Prop := P.Pairwise fun x y => Op.bytesLess x.1.toList y.1.toList = true

/-- Behind the sort: the rows of names and counts can be read; the map and *Run as they were. -/
structure Ls (w0 : World) (m0 : Nat) (f : List UInt8 → Option Nat) (nm : Nat) (P : List (ByteArray × Nat)) (ho co : Option Addr) (hb cb ch cc : Nat) (vev : Value) (w : World) : Prop where
  map : MapIs w m0 f nm
  run : w.rowIs (m0 + 1) 37 4 (runCell (.slice ho P.length ch) vev m0)
  hoIs : 0 < P.length → ho = some ⟨hb, 0, none⟩
  coIs : 0 < P.length → co = some ⟨cb, 0, none⟩
  lo : 0 < P.length → m0 + 2 ≤ hb ∧ hb < w.heap.size ∧ m0 + 2 ≤ cb ∧ cb < w.heap.size
  hcap : P.length ≤ ch
  ccap : P.length ≤ cc
  hcell : ∀ j (h : j < P.length), w.cell? ⟨hb, j, none⟩ = some (.string P[j].1)
  ccell : ∀ j (h : j < P.length), w.cell? ⟨cb, j, none⟩ = some (.int .i64 (P[j].2 : Int))
  below : Below m0 w0 w

theorem Ls.lt {w0 : World} {m0 : Nat} {f : List UInt8 → Option Nat} {nm : Nat} {P : List (ByteArray × Nat)} {ho co : Option Addr} {hb cb ch cc : Nat} {vev : Value} {w : World} (h : Ls w0 m0 f nm P ho co hb cb ch cc vev w) : m0 + 2 ≤ w.heap.size := by have := h.run.lt; omega

/-- All blocks but one that is none of these, or is the map, or is *Run: stay. -/
theorem Ls.of_blocks {w0 : World} {m0 : Nat} {f : List UInt8 → Option Nat} {nm : Nat} {P : List (ByteArray × Nat)} {ho co : Option Addr} {hb cb ch cc : Nat} {vev : Value} {w w' : World} (h : Ls w0 m0 f nm P ho co hb cb ch cc vev w)
    (hb1 : w'.heap[m0]? = w.heap[m0]?) (hb2 : w'.heap[m0 + 1]? = w.heap[m0 + 1]?) (hb3 : 0 < P.length → w'.heap[hb]? = w.heap[hb]? ∧ w'.heap[cb]? = w.heap[cb]?) (hbl : Below m0 w w') : Ls w0 m0 f nm P ho co hb cb ch cc vev w' :=
  ⟨h.map.of_block hb1, h.run.of_block hb2, h.hoIs, h.coIs, fun hp => by have := h.lo hp; have := hbl.size; omega, h.hcap, h.ccap,
    fun j hj => (World.cell?_of_block (w := w) (a := ⟨hb, j, none⟩) (hb3 (by omega)).1).trans (h.hcell j hj),
    fun j hj => (World.cell?_of_block (w := w) (a := ⟨cb, j, none⟩) (hb3 (by omega)).2).trans (h.ccell j hj), h.below.trans hbl⟩

theorem Ls.of_below {w0 : World} {m0 : Nat} {f : List UInt8 → Option Nat} {nm : Nat} {P : List (ByteArray × Nat)} {ho co : Option Addr} {hb cb ch cc : Nat} {vev : Value} {w w' : World} (h : Ls w0 m0 f nm P ho co hb cb ch cc vev w)
    (b : Below w.heap.size w w') : Ls w0 m0 f nm P ho co hb cb ch cc vev w' :=
  h.of_blocks (b.block _ h.map.lt) (b.block _ h.run.lt) (fun hp => ⟨b.block _ (h.lo hp).2.1, b.block _ (h.lo hp).2.2.2⟩) (b.mono (by have := h.lt; omega))

/-- The state without the sort's turn, from the first loop's. -/
theorem ls_of_lw {w0 w : World} {m0 nm : Nat} {f : List UInt8 → Option Nat} {P : List (ByteArray × Nat)} {vh vc : Value} (h : Lw w0 m0 f nm (P.map (·.1)) (P.map (·.2)) vh vc w) :
    ∃ ho co hb cb ch cc, vh = .slice ho P.length ch ∧ vc = .slice co P.length cc ∧ Ls w0 m0 f nm P ho co hb cb ch cc (.slice none 0 0) w := by
  have o1 := h.own1
  have o2 := h.own2
  rcases Nat.eq_zero_or_pos P.length with h0 | h0
  · have hP : P = [] := List.eq_nil_of_length_eq_zero h0
    subst hP
    have e1 : ∃ ho ch, vh = .slice ho 0 ch := by
      rcases o1.2 with ⟨e, _⟩ | ⟨g, cap, cur, e, _⟩
      · exact ⟨_, _, e⟩
      · exact ⟨_, _, e⟩
    have e2 : ∃ ho ch, vc = .slice ho 0 ch := by
      rcases o2.2 with ⟨e, _⟩ | ⟨g, cap, cur, e, _⟩
      · exact ⟨_, _, e⟩
      · exact ⟨_, _, e⟩
    obtain ⟨ho, ch, rfl⟩ := e1
    obtain ⟨co, cc, rfl⟩ := e2
    exact ⟨ho, co, 0, 0, ch, cc, rfl, rfl, h.map, h.run, fun h => by simp at h, fun h => by simp at h, fun h => by simp at h, by simp, by simp, fun j hj => by simp at hj, fun j hj => by simp at hj, h.below⟩
  · obtain ⟨g, cap, hv, hg, hgl, hc1, hc2, hcell, hfr⟩ := ownsRow_form1 o1 (by simpa using h0)
    obtain ⟨g2, cap2, hv2, hg2, hgl2, hc12, hc22, hcell2, hfr2⟩ := ownsRow_form1 o2 (by simpa using h0)
    simp only [List.length_map] at hv hv2 hc1 hc12
    subst hv hv2
    exact ⟨some ⟨g, 0, none⟩, some ⟨g2, 0, none⟩, g, g2, cap, cap2, rfl, rfl, h.map, h.run, fun _ => rfl, fun _ => rfl, fun _ => ⟨hg, hgl, hg2, hgl2⟩, hc1, hc12,
      fun j hj => hcell j _ (by simp [hj]), fun j hj => hcell2 j _ (by simp [hj]), h.below⟩

/-- The row that is handed to the sort. -/
def toHC (P : List (ByteArray × Nat)) : Array HC := (P.map fun p => (p.1, (p.2 : Int))).toArray

theorem toHC_size (P : List (ByteArray × Nat)) : (toHC P).size = P.length := by simp [toHC]
theorem toHC_get (P : List (ByteArray × Nat)) (j : Nat) (h : j < P.length) : (toHC P)[j]! = (P[j].1, (P[j].2 : Int)) := by
  rw [getElem!_pos _ j (by simpa [toHC] using h)]
  simp [toHC]

/-- Back. -/
def ofHC (d : Array HC) : List (ByteArray × Nat) := d.toList.map fun p => (p.1, p.2.toNat)

theorem perm_of {P : List (ByteArray × Nat)} {n : Nat} (hn : P.length = n) {d' : Array HC} (h : Sort.PermIn 0 n (toHC P) d') : (ofHC d').Perm P ∧ toHC (ofHC d') = d' := by
  obtain ⟨h1, _, h3⟩ := h
  rw [toHC_size] at h1
  have e1 : (toHC P).extract 0 n = toHC P := by rw [← hn, ← toHC_size]; simp
  have e2 : d'.extract 0 n = d' := by rw [← hn, ← h1]; simp
  rw [e1, e2] at h3
  have hmem : ∀ x ∈ d'.toList, ∃ p ∈ P, x = (p.1, (p.2 : Int)) := fun x hx => by
    have := h3.mem_iff.1 hx
    simp [toHC] at this
    obtain ⟨a, b, hab, rfl⟩ := this
    exact ⟨(a, b), hab, rfl⟩
  constructor
  · have := h3.map (fun p : HC => (p.1, p.2.toNat))
    refine (this.trans ?_)
    simp [toHC, Function.comp_def]
  · unfold toHC ofHC
    apply Array.ext'
    simp only [List.map_map]
    conv => rhs; rw [← List.map_id d'.toList]
    apply List.map_congr_left
    intro x hx
    obtain ⟨p, _, rfl⟩ := hmem x hx
    simp

theorem asc_of {P : List (ByteArray × Nat)} (hnd : (P.map (·.1)).Nodup) (hs : Sort.SortedIn ltS 0 P.length (toHC P)) : Asc P := by
  unfold Asc
  rw [List.pairwise_iff_getElem]
  intro i j hi hj hij
  have h := hs i j (Nat.zero_le _) hij hj
  rw [toHC_get P i hi, toHC_get P j hj] at h
  unfold ltS at h
  simp only [] at h
  rw [bytesLess_eq] at h ⊢
  simp only [decide_eq_false_iff_not, decide_eq_true_eq] at h ⊢
  have hne : P[i].1 ≠ P[j].1 := fun e => by
    have := (List.getElem_inj (xs := P.map (·.1)) (i := i) (j := j) (h₀ := by simpa using hi) (h₁ := by simpa using hj) hnd).1 (by simpa using e)
    omega
  rcases Std.lt_trichotomy (P[i].1.toList) (P[j].1.toList) with h1 | h1 | h1
  · exact h1
  · exact absurd (data_inj (by rw [← ByteArray.toList_eq, ← ByteArray.toList_eq]; exact h1)) hne
  · exact absurd h1 h

theorem sort_lw {w0 w : World} {m0 nm : Nat} {f : List UInt8 → Option Nat} {P : List (ByteArray × Nat)} {vh vc : Value} (hnd : (P.map (·.1)).Nodup) (h : Lw w0 m0 f nm (P.map (·.1)) (P.map (·.2)) vh vc w) (hlen : P.length ≤ 1024) :
    Calls Yba.prog 6 #[.iface 45 (.agg #[vh, vc])] w fun e w' => e = .returned (.tuple #[]) ∧
      ∃ P' ho co hb cb ch cc, P'.Perm P ∧ Asc P' ∧ vh = .slice ho P'.length ch ∧ vc = .slice co P'.length cc ∧ Ls w0 m0 f nm P' ho co hb cb ch cc (.slice none 0 0) w' := by
  obtain ⟨ho, co, hb, cb, ch, cc, rfl, rfl, hls⟩ := ls_of_lw h
  by_cases hn : P.length ≤ 1
  · refine (sort_tiny ho P.length ch _ hn w).mono fun e w' ⟨he, hb'⟩ => ⟨he, P, ho, co, hb, cb, ch, cc, List.Perm.refl _, ?_, rfl, rfl, hls.of_below hb'⟩
    unfold Asc
    rw [List.pairwise_iff_getElem]
    intro i j hi hj hij
    omega
  · have hp : 0 < P.length := by omega
    obtain rfl := hls.hoIs hp
    obtain rfl := hls.coIs hp
    have lo := hls.lo hp
    have o1 := h.own1
    have o2 := h.own2
    obtain ⟨g, cap, hv, hg, hgl, hc1, hc2, hcell, hfr⟩ := ownsRow_form1 o1 (by simpa using hp)
    obtain ⟨g2, cap2, hv2, hg2, hgl2, hc12, hc22, hcell2, hfr2⟩ := ownsRow_form1 o2 (by simpa using hp)
    simp at hv hv2
    simp only [List.length_map] at hc1 hc12
    obtain ⟨rfl, rfl⟩ := hv
    obtain ⟨rfl, rfl⟩ := hv2
    have hne : hb ≠ cb := fun e => h.ne hb rfl (by rw [e]; rfl)
    have t : Two hb cb (toHC P) w := by
      refine ⟨hne, lo.2.1, lo.2.2.2, fun i hi => ?_, fun i hi => ?_, fun i _ => hfr i, fun i _ => hfr2 i⟩
      · rw [toHC_size] at hi; rw [toHC_get P i hi]; exact hls.hcell i hi
      · rw [toHC_size] at hi; rw [toHC_get P i hi]; exact hls.ccell i hi
    refine (sort_two hb cb P.length ch cc (toHC P) (toHC_size P) w t (by omega) (by omega)).mono fun e w' ⟨he, d', hperm, hsorted, hst⟩ => ⟨he, ?_⟩
    obtain ⟨hP, hback⟩ := perm_of rfl hperm
    have hl : (ofHC d').length = P.length := hP.length_eq
    have hblk : ∀ k, k < m0 + 2 → w'.heap[k]? = w.heap[k]? := fun k hk => hst.kept.block k (by have := h.lt; omega) (by omega) (by omega)
    refine ⟨ofHC d', some ⟨hb, 0, none⟩, some ⟨cb, 0, none⟩, hb, cb, ch, cc, hP, ?_, by rw [hl], by rw [hl], ?_⟩
    · refine asc_of ((hP.map (·.1)).nodup_iff.2 hnd) ?_
      rw [hback, hl]; exact hsorted
    · have hsz : w.heap.size ≤ w'.heap.size := hst.kept.size
      have dl : d'.size = P.length := hst.size
      refine ⟨h.map.of_block (hblk _ (by omega)), by rw [hl]; exact h.run.of_block (hblk _ (by omega)), fun _ => rfl, fun _ => rfl, fun _ => by omega, by omega, by omega, fun j hj => ?_, fun j hj => ?_, ?_⟩
      · have h1 := hst.two.h j (by omega)
        have h2 := toHC_get (ofHC d') j hj
        rw [hback] at h2
        rw [h1, h2]
      · have h1 := hst.two.c j (by omega)
        have h2 := toHC_get (ofHC d') j hj
        rw [hback] at h2
        rw [h1, h2]
      · exact h.below.trans ⟨hst.kept.os, hst.kept.tape, hst.kept.output, hsz, fun k hk => hblk k (by omega)⟩

end Go.Proofs.Ybulkbqzo
