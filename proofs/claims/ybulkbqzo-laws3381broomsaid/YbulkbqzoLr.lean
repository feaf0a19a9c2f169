/-
  Seat b3381a. LawS3381BRoom: each host's events by their places; the world while the rooms are filled.
-/
import Derived.Test.YbulkbqzoLb
import Derived.Test.YbulkbqzoEvents
namespace Go.Proofs.Ybulkbqzo
open Go.RowKit Go.Maps
set_option linter.unusedVariables false

/-- The places of s among the first k names, ascending. -/
def occs (hs : Nat → ByteArray) : Nat → ByteArray → List Nat
  | 0, _ => []
  | k + 1, s => occs hs k s ++ if hs k = s then [k] else []

theorem occs_length (hs : Nat → ByteArray) (s : ByteArray) : ∀ k, (occs hs k s).length = cntTo hs k s
  | 0 => rfl
  | k + 1 => by
    unfold occs cntTo
    rw [List.length_append, occs_length hs s k]
    split <;> rfl

theorem occs_mem (hs : Nat → ByteArray) (s : ByteArray) : ∀ k, ∀ x ∈ occs hs k s, x < k ∧ hs x = s
  | 0, x, h => by simp [occs] at h
  | k + 1, x, h => by
    unfold occs at h
    rcases List.mem_append.1 h with h | h
    · have := occs_mem hs s k x h
      exact ⟨by omega, this.2⟩
    · split at h
      · simp at h; subst h; exact ⟨by omega, by assumption⟩
      · simp at h

theorem occs_asc (hs : Nat → ByteArray) (s : ByteArray) : ∀ k, (occs hs k s).Pairwise (· < ·)
  | 0 => List.Pairwise.nil
  | k + 1 => by
    unfold occs
    rw [List.pairwise_append]
    refine ⟨occs_asc hs s k, by split <;> simp, fun a ha b hb => ?_⟩
    split at hb
    · simp at hb; rw [hb]; exact (occs_mem hs s k a ha).1
    · simp at hb

theorem cntTo_mono (hs : Nat → ByteArray) (s : ByteArray) (k : Nat) : ∀ d, cntTo hs k s ≤ cntTo hs (k + d) s
  | 0 => Nat.le_refl _
  | d + 1 => by
    have := cntTo_mono hs s k d
    show _ ≤ cntTo hs (k + d) s + _
    omega

theorem cntTo_room (hs : Nat → ByteArray) (k N : Nat) (h : k < N) : cntTo hs k (hs k) + 1 ≤ cntTo hs N (hs k) := by
  have := cntTo_mono hs (hs k) (k + 1) (N - (k + 1))
  rw [show k + 1 + (N - (k + 1)) = N by omega] at this
  have e : cntTo hs (k + 1) (hs k) = cntTo hs k (hs k) + 1 := by simp [cntTo]
  omega

/-- The j-th slice of r.Events (step 4) or of own (step 1), k events in. -/
def filled (hs : Nat → ByteArray) (P : List (ByteArray × Nat)) (blk step k : Nat) (j : Nat) : Value :=
  .slice (some ⟨blk, offTo P j * step, none⟩) (cntTo hs k (P[j]?.getD default).1) (P[j]?.getD default).2

theorem filled_zero (hs : Nat → ByteArray) (P : List (ByteArray × Nat)) (blk step j : Nat) (hj : j < P.length) : rooms P blk step P.length j = filled hs P blk step 0 j := by
  unfold rooms filled
  rw [if_pos hj]
  rfl

/-- A holds each host's events so far. -/
def Evs (hs : Nat → ByteArray) (P : List (ByteArray × Nat)) (k : Nat) (A : Nat → Value) : Prop :=
  ∀ j (hj : j < P.length) m x, (occs hs k P[j].1)[m]? = some x → ∀ r, r < 4 → A ((offTo P j + m) * 4 + r) = evCell hs (x * 4 + r)
/-- U holds their places. -/
def Ows (hs : Nat → ByteArray) (P : List (ByteArray × Nat)) (k : Nat) (U : Nat → Value) : Prop :=
  ∀ j (hj : j < P.length) m x, (occs hs k P[j].1)[m]? = some x → U (offTo P j + m) = .int .u64 (x : Nat)

theorem places_apart (hs : Nat → ByteArray) {N k : Nat} {P : List (ByteArray × Nat)} (inv : Inv hs N P) (hk : k < N) {h : Nat} (hh : h < P.length) (eh : P[h].1 = hs k) {j : Nat} (hj : j < P.length) {m x : Nat} (hm : (occs hs k P[j].1)[m]? = some x) :
    offTo P j + m ≠ offTo P h + cntTo hs k (hs k) := by
  have hml : m < cntTo hs k P[j].1 := by
    rw [← occs_length]
    exact (List.getElem?_eq_some_iff.1 hm).1
  have hle : ∀ i (hi : i < P.length), cntTo hs k P[i].1 ≤ P[i].2 := fun i hi => by
    rw [inv.cnt i hi]
    have := cntTo_mono hs P[i].1 k (N - k)
    rwa [show k + (N - k) = N by omega] at this
  have hroom := cntTo_room hs k N hk
  have e2 : P[h].2 = cntTo hs N (hs k) := by rw [inv.cnt h hh, eh]
  rcases Nat.lt_trichotomy j h with hl | hl | hl
  · have h1 := offTo_succ P j hj
    have h2 := offTo_le P (j + 1) h (by omega) (by omega)
    have := hle j hj
    omega
  · subst hl
    rw [eh] at hml
    omega
  · have h1 := offTo_succ P h hh
    have h2 := offTo_le P (h + 1) j (by omega) (by omega)
    omega

theorem Ows.step {hs : Nat → ByteArray} {N k : Nat} {P : List (ByteArray × Nat)} {U : Nat → Value} (v : Ows hs P k U) (inv : Inv hs N P) (hk : k < N) {h : Nat} (hh : h < P.length) (eh : P[h].1 = hs k) :
    Ows hs P (k + 1) (fun i => if i = offTo P h + cntTo hs k (hs k) then .int .u64 (k : Nat) else U i) := by
  intro j hj m x hm
  unfold occs at hm
  by_cases hmo : (occs hs k P[j].1)[m]? = some x
  · simp only []
    rw [if_neg (places_apart hs inv hk hh eh hj hmo)]
    exact v j hj m x hmo
  · rw [List.getElem?_append] at hm
    split at hm
    · exact absurd hm hmo
    · split at hm
      · rename_i hge he
        have hm0 : m - (occs hs k P[j].1).length = 0 ∧ x = k := by
          rcases Nat.eq_zero_or_pos (m - (occs hs k P[j].1).length) with h0 | h0
          · rw [h0] at hm; simp at hm; exact ⟨h0, hm.symm⟩
          · rw [List.getElem?_eq_none (by simp; omega)] at hm; cases hm
        have hjh : j = h := inv.fst_inj hj hh (by rw [eh, he])
        subst hjh
        rw [occs_length] at hm0 hge
        have hme : m = cntTo hs k (hs k) := by rw [eh] at hm0 hge; omega
        simp only []
        rw [if_pos (by rw [hme]), hm0.2]
      · simp at hm

theorem Evs.step {hs : Nat → ByteArray} {N k : Nat} {P : List (ByteArray × Nat)} {A : Nat → Value} (v : Evs hs P k A) (inv : Inv hs N P) (hk : k < N) {h : Nat} (hh : h < P.length) (eh : P[h].1 = hs k) {A' : Nat → Value}
    (hA1 : ∀ r, r < 4 → A' ((offTo P h + cntTo hs k (hs k)) * 4 + r) = evCell hs (k * 4 + r)) (hA2 : ∀ i, i / 4 ≠ offTo P h + cntTo hs k (hs k) → A' i = A i) : Evs hs P (k + 1) A' := by
  intro j hj m x hm r hr
  unfold occs at hm
  by_cases hmo : (occs hs k P[j].1)[m]? = some x
  · rw [hA2 _ (by have := places_apart hs inv hk hh eh hj hmo; omega)]
    exact v j hj m x hmo r hr
  · rw [List.getElem?_append] at hm
    split at hm
    · exact absurd hm hmo
    · split at hm
      · rename_i hge he
        have hm0 : m - (occs hs k P[j].1).length = 0 ∧ x = k := by
          rcases Nat.eq_zero_or_pos (m - (occs hs k P[j].1).length) with h0 | h0
          · rw [h0] at hm; simp at hm; exact ⟨h0, hm.symm⟩
          · rw [List.getElem?_eq_none (by simp; omega)] at hm; cases hm
        have hjh : j = h := inv.fst_inj hj hh (by rw [eh, he])
        subst hjh
        rw [occs_length] at hm0 hge
        have : m = cntTo hs k (hs k) := by rw [eh] at hm0 hge; omega
        rw [this, hm0.2]
        exact hA1 r hr
      · simp at hm

/-- The world while the rooms are filled. -/
structure Lr (w0 : World) (m0 : Nat) (f : List UInt8 → Option Nat) (P : List (ByteArray × Nat)) (ho co : Option Addr) (hb cb ch cc VB OB AB UB N : Nat) (ev ow A U : Nat → Value) (w : World) : Prop where
  ls : Ls w0 m0 f P.length P ho co hb cb ch cc (.slice (some ⟨VB, 0, none⟩) P.length P.length) w
  evs : w.rowIs VB 23 P.length ev
  own : w.rowIs OB 38 P.length ow
  all : w.rowIs AB 28 (N * 4) A
  owns : w.rowIs UB 41 N U
  newV : m0 + 1 < VB
  newO : m0 + 1 < OB
  newA : m0 + 1 < AB
  newU : m0 + 1 < UB
  apart : 0 < P.length → hb < VB ∧ hb < OB ∧ hb < AB ∧ hb < UB ∧ cb < VB ∧ cb < OB ∧ cb < AB ∧ cb < UB

variable {w0 : World} {m0 : Nat} {f : List UInt8 → Option Nat} {P : List (ByteArray × Nat)} {ho co : Option Addr} {hb cb ch cc VB OB AB UB N : Nat} {ev ow A U : Nat → Value} {w w' : World}

theorem lr_of_lb (h : Lb w0 m0 f P ho co hb cb ch cc VB OB AB UB N ev ow w) : Lr w0 m0 f P ho co hb cb ch cc VB OB AB UB N ev ow zEv (fun _ => .int .u64 0) w :=
  ⟨h.ls, h.evs, h.own, h.all, h.owns, h.newV, h.newO, h.newA, h.newU, h.apart⟩

theorem Lr.of_below (h : Lr w0 m0 f P ho co hb cb ch cc VB OB AB UB N ev ow A U w) (b : Below w.heap.size w w') : Lr w0 m0 f P ho co hb cb ch cc VB OB AB UB N ev ow A U w' :=
  ⟨h.ls.of_below b, h.evs.of_block (b.block _ h.evs.lt), h.own.of_block (b.block _ h.own.lt), h.all.of_block (b.block _ h.all.lt), h.owns.of_block (b.block _ h.owns.lt), h.newV, h.newO, h.newA, h.newU, h.apart⟩

theorem Lr.setV (h : Lr w0 m0 f P ho co hb cb ch cc VB OB AB UB N ev ow A U w) (j : Nat) (v : Value) : Lr w0 m0 f P ho co hb cb ch cc VB OB AB UB N (fun i => if i = j then v else ev i) ow A U (w.setCell ⟨VB, j, none⟩ v) :=
  ⟨h.ls.setRow h.newV (fun hp => by have := h.apart hp; omega) j v, h.evs.set j v, h.own.setOther (rowIs_ne h.own h.evs (by decide)) _, h.all.setOther (rowIs_ne h.all h.evs (by decide)) _, h.owns.setOther (rowIs_ne h.owns h.evs (by decide)) _, h.newV, h.newO, h.newA, h.newU, h.apart⟩

theorem Lr.setO (h : Lr w0 m0 f P ho co hb cb ch cc VB OB AB UB N ev ow A U w) (j : Nat) (v : Value) : Lr w0 m0 f P ho co hb cb ch cc VB OB AB UB N ev (fun i => if i = j then v else ow i) A U (w.setCell ⟨OB, j, none⟩ v) :=
  ⟨h.ls.setRow h.newO (fun hp => by have := h.apart hp; omega) j v, h.evs.setOther (rowIs_ne h.evs h.own (by decide)) _, h.own.set j v, h.all.setOther (rowIs_ne h.all h.own (by decide)) _, h.owns.setOther (rowIs_ne h.owns h.own (by decide)) _, h.newV, h.newO, h.newA, h.newU, h.apart⟩

theorem Lr.setA (h : Lr w0 m0 f P ho co hb cb ch cc VB OB AB UB N ev ow A U w) (j : Nat) (v : Value) : Lr w0 m0 f P ho co hb cb ch cc VB OB AB UB N ev ow (fun i => if i = j then v else A i) U (w.setCell ⟨AB, j, none⟩ v) :=
  ⟨h.ls.setRow h.newA (fun hp => by have := h.apart hp; omega) j v, h.evs.setOther (rowIs_ne h.evs h.all (by decide)) _, h.own.setOther (rowIs_ne h.own h.all (by decide)) _, h.all.set j v, h.owns.setOther (rowIs_ne h.owns h.all (by decide)) _, h.newV, h.newO, h.newA, h.newU, h.apart⟩

theorem Lr.setU (h : Lr w0 m0 f P ho co hb cb ch cc VB OB AB UB N ev ow A U w) (j : Nat) (v : Value) : Lr w0 m0 f P ho co hb cb ch cc VB OB AB UB N ev ow A (fun i => if i = j then v else U i) (w.setCell ⟨UB, j, none⟩ v) :=
  ⟨h.ls.setRow h.newU (fun hp => by have := h.apart hp; omega) j v, h.evs.setOther (rowIs_ne h.evs h.owns (by decide)) _, h.own.setOther (rowIs_ne h.own h.owns (by decide)) _, h.all.setOther (rowIs_ne h.all h.owns (by decide)) _, h.owns.set j v, h.newV, h.newO, h.newA, h.newU, h.apart⟩

theorem Lr.congr {ev' ow' A' U' : Nat → Value} (h : Lr w0 m0 f P ho co hb cb ch cc VB OB AB UB N ev ow A U w) (h1 : ∀ i, i < P.length → ev i = ev' i) (h2 : ∀ i, i < P.length → ow i = ow' i) : Lr w0 m0 f P ho co hb cb ch cc VB OB AB UB N ev' ow' A U w :=
  ⟨h.ls, h.evs.congr h1, h.own.congr h2, h.all, h.owns, h.newV, h.newO, h.newA, h.newU, h.apart⟩

theorem filled_succ (hs : Nat → ByteArray) {P : List (ByteArray × Nat)} {N : Nat} (inv : Inv hs N P) (blk step k h : Nat) (hh : h < P.length) (eh : P[h].1 = hs k) {v : Value}
    (hv : v = .slice (some ⟨blk, offTo P h * step, none⟩) (cntTo hs k (hs k) + 1) P[h].2) (i : Nat) (hi : i < P.length) :
    (if i = h then v else filled hs P blk step k i) = filled hs P blk step (k + 1) i := by
  subst hv
  unfold filled
  by_cases e : i = h
  · subst e
    rw [if_pos rfl]
    simp [hh, eh, cntTo]
  · rw [if_neg e]
    have : hs k ≠ P[i].1 := fun e2 => e (inv.fst_inj hi hh (by rw [eh, e2]))
    simp [hi, cntTo, this]

end Go.Proofs.Ybulkbqzo
