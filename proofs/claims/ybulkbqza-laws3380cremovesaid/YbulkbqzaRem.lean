/-
  Seat b3380a. What a removal does to the keys; refill at whatever depth.
-/
import Derived.Test.YbulkbqzaRefL
import Derived.Test.YbulkbqzaRefI
namespace Go.Proofs.Ybulkbqza
open Go.RowKit
set_option linter.unusedVariables false

theorem split_at {ks : List Nat} (hs : ks.Pairwise (· < ·)) {v : Nat} (hv : v ∈ ks) : ∃ A B, ks = A ++ v :: B ∧ lo ks v = A.length ∧ ks.erase v = A ++ B ∧ ks.eraseIdx A.length = A ++ B := by
  obtain ⟨A, B, rfl⟩ := List.append_of_mem hv
  rw [List.pairwise_append, List.pairwise_cons] at hs
  have hA : ∀ a ∈ A, a < v := fun a ha => hs.2.2 a ha v (by simp)
  refine ⟨A, B, rfl, ?_, ?_, ?_⟩
  · unfold lo
    rw [List.countP_append, List.countP_cons, List.countP_eq_length.2 (fun a ha => by simpa using hA a ha), List.countP_eq_zero.2 (fun b hb => by have := hs.2.1.1 b hb; simp; omega)]
    simp
  · rw [List.erase_append_right _ (fun h => Nat.lt_irrefl _ (hA v h)), List.erase_cons_head]
  · have : ∀ A : List Nat, (A ++ v :: B).eraseIdx A.length = A ++ B := by
      intro A
      induction A with
      | nil => rfl
      | cons a A ih => simp [ih]
    exact this A

theorem erase_facts {ks : List Nat} (hs : ks.Pairwise (· < ·)) {v : Nat} (hv : v ∈ ks) : ks.eraseIdx (lo ks v) = ks.erase v ∧ (ks.erase v).length + 1 = ks.length ∧ (ks.erase v).sum + v = ks.sum ∧ lo ks v < ks.length := by
  obtain ⟨A, B, rfl, h1, h2, h3⟩ := split_at hs hv
  rw [h1, h2, h3]
  simp
  omega

/-- The kid in which v lies, or would. -/
theorem chi_kid {es : List Kid} (ho : Ord es) (hne : ∀ e ∈ es, e.ks ≠ []) (hpos : 0 < es.length) (v : Nat) :
    ∃ A e Z, es = A ++ e :: Z ∧ A.length = chi (es.map Kid.bd) v ∧ (∀ a ∈ A, v ∉ a.ks) ∧ (∀ z ∈ Z, v ∉ z.ks) := by
  obtain ⟨f, t, rfl⟩ : ∃ f t, es = f :: t := by
    cases es with
    | nil => simp at hpos
    | cons f t => exact ⟨f, t, rfl⟩
  -- the bounds behind the first, in order
  have hsort : (t.map Kid.bd).Pairwise (· < ·) := by
    rw [List.pairwise_map]
    rw [Ord, List.pairwise_cons] at ho
    refine List.Pairwise.imp_of_mem ?_ ho.2
    intro a b ha hb hab
    obtain ⟨x, hx⟩ := List.exists_mem_of_ne_nil _ (hne a (by simp [ha]))
    have h1 := hab.1 x hx
    have h2 := (ho.1 a ha).2 x hx
    omega
  obtain ⟨i, hi⟩ : ∃ i, i = chi ((f :: t).map Kid.bd) v := ⟨_, rfl⟩
  -- the first i bounds of t are at most v, the rest above it
  have hle : i ≤ t.length ∧ (∀ j b, j < i → (t.map Kid.bd)[j]? = some b → b ≤ v) ∧ (∀ j b, i ≤ j → (t.map Kid.bd)[j]? = some b → v < b) := by
    unfold chi at hi
    simp only [List.map_cons, List.tail_cons] at hi
    have hlo : ∀ (L : List Nat), L.Pairwise (· < ·) → lo L v ≤ L.length ∧ (∀ j b, j < lo L v → L[j]? = some b → b < v) ∧ (∀ j b, lo L v ≤ j → L[j]? = some b → v ≤ b) := by
      intro L hL
      induction L with
      | nil => exact ⟨Nat.le_refl _, fun j b h1 h2 => (by simp at h2), fun j b h1 h2 => (by simp at h2)⟩
      | cons a L ih =>
        rw [List.pairwise_cons] at hL
        obtain ⟨i1, i2, i3⟩ := ih hL.2
        by_cases ha : a < v
        · have e : lo (a :: L) v = lo L v + 1 := by unfold lo; rw [List.countP_cons, if_pos (by simpa using ha)]
          rw [e]
          refine ⟨by simp; omega, fun j b h1 h2 => ?_, fun j b h1 h2 => ?_⟩
          · cases j with
            | zero => simp at h2; omega
            | succ j => exact i2 j b (by omega) (by simpa using h2)
          · cases j with
            | zero => omega
            | succ j => exact i3 j b (by omega) (by simpa using h2)
        · have e0 : lo L v = 0 := by
            unfold lo
            rw [List.countP_eq_zero]
            intro b hb
            have := hL.1 b hb
            simp
            omega
          have e : lo (a :: L) v = 0 := by unfold lo at e0 ⊢; rw [List.countP_cons, e0, if_neg (by simpa using ha)]
          rw [e]
          refine ⟨Nat.zero_le _, fun j b h1 h2 => by omega, fun j b h1 h2 => ?_⟩
          cases j with
          | zero => simp at h2; omega
          | succ j => have := i3 j b (by omega) (by simpa using h2); exact this
    obtain ⟨q1, q2, q3⟩ := hlo _ hsort
    have hml : (t.map Kid.bd).length = t.length := List.length_map _
    by_cases hm : v ∈ t.map Kid.bd
    · rw [if_pos hm] at hi
      obtain ⟨A, B, e1, e2, e3, e4⟩ := split_at hsort hm
      have hlt : lo (t.map Kid.bd) v < (t.map Kid.bd).length := by rw [e2, e1]; simp
      have hat : (t.map Kid.bd)[lo (t.map Kid.bd) v]? = some v := by rw [e2]; conv => lhs; rw [e1]; simp
      refine ⟨by omega, fun j b h1 h2 => ?_, fun j b h1 h2 => ?_⟩
      · rcases Nat.lt_or_ge j (lo (t.map Kid.bd) v) with h | h
        · exact Nat.le_of_lt (q2 j b h h2)
        · have : j = lo (t.map Kid.bd) v := by omega
          rw [this, hat] at h2
          cases h2
          exact Nat.le_refl _
      · obtain ⟨h3, h4⟩ := List.getElem?_eq_some_iff.1 h2
        obtain ⟨h5, h6⟩ := List.getElem?_eq_some_iff.1 hat
        have := List.pairwise_iff_getElem.1 hsort _ _ h5 h3 (by omega)
        omega
    · rw [if_neg hm] at hi
      refine ⟨by omega, fun j b h1 h2 => Nat.le_of_lt (q2 j b (by omega) h2), fun j b h1 h2 => ?_⟩
      have h3 := q3 j b (by omega) h2
      have : b ≠ v := fun e => hm (e ▸ List.mem_of_getElem? h2)
      omega
  obtain ⟨h1, h2, h3⟩ := hle
  have hil : i < (f :: t).length := by simp; omega
  refine ⟨(f :: t).take i, (f :: t)[i], (f :: t).drop (i + 1), ?_, ?_, ?_, ?_⟩
  · rw [← List.drop_eq_getElem_cons hil, List.take_append_drop]
  · rw [← hi, List.length_take]; omega
  · intro a ha hva
    obtain ⟨k, hk⟩ := List.mem_iff_getElem?.1 ha
    rw [List.getElem?_take] at hk
    split at hk
    · rename_i hki
      -- the bound of the kid i is above all keys of a
      obtain ⟨j, rfl⟩ : ∃ j, i = j + 1 := ⟨i - 1, by omega⟩
      have hjl : j < t.length := by omega
      have hb := h2 j t[j].bd (by omega) (by rw [List.getElem?_map, List.getElem?_eq_getElem hjl]; rfl)
      obtain ⟨h5, h6⟩ := List.getElem?_eq_some_iff.1 hk
      have := List.pairwise_iff_getElem.1 ho k (j + 1) h5 (by simp; omega) hki
      rw [h6] at this
      have := this.1 v hva
      simp only [List.getElem_cons_succ] at this
      omega
    · cases hk
  · intro z hz hvz
    obtain ⟨k, hk⟩ := List.mem_iff_getElem?.1 hz
    rw [List.getElem?_drop] at hk
    have e : i + 1 + k = (i + k) + 1 := by omega
    rw [e, List.getElem?_cons_succ] at hk
    have hb := h3 (i + k) z.bd (by omega) (by rw [List.getElem?_map, hk]; rfl)
    rw [Ord, List.pairwise_cons] at ho
    have := (ho.1 z (List.mem_of_getElem? hk)).2 v hvz
    omega

theorem Ord.shrink {A Z : List Kid} {e e' : Kid} (h : Ord (A ++ e :: Z)) (hb : e'.bd = e.bd) (hk : ∀ x ∈ e'.ks, x ∈ e.ks) : Ord (A ++ e' :: Z) := by
  rw [Ord, List.pairwise_append, List.pairwise_cons] at h ⊢
  obtain ⟨h1, ⟨h2, h3⟩, h4⟩ := h
  refine ⟨h1, ⟨fun z hz => ⟨fun x hx => (h2 z hz).1 x (hk x hx), (h2 z hz).2⟩, h3⟩, fun a ha z hz => ?_⟩
  rcases List.mem_cons.1 hz with rfl | hz
  · have := h4 a ha e (by simp)
    exact ⟨by rw [hb]; exact this.1, fun y hy => by rw [hb]; exact this.2 y (hk y hy)⟩
  · exact h4 a ha z (by simp [hz])

theorem refill_calls (d : Nat) (w : World) (nb n c s kb cb : Nat) (xs : List Nat) (ps : List Value) (A Z : List Kid) (l r : Kid) (i : Nat) (Sh : Shell w nb n c s kb cb xs ps (A ++ l :: r :: Z)) (hi : A.length = min i (n - 2)) (hin : i < n) (hn2 : 2 ≤ n)
    (TL : Tree d 33 33 w l.nb l.ks l.n l.own) (TR : Tree d 33 33 w r.nb r.ks r.n r.own) (hnl : 15 ≤ l.n ∧ l.n ≤ 32) (hnr : 15 ≤ r.n ∧ r.n ≤ 32)
    (hltA : ∀ x ∈ ownOf (A ++ l :: r :: Z), x < w.heap.size) (hsum : l.ks.sum + r.ks.sum < 18446744073709551616) (hcnt : l.ks.length + r.ks.length < 1099511627776) :
    Calls Yba.prog 42 #[.pointer (some ⟨nb, 0, none⟩), .int .i64 i, .func (.func 10) #[] #[]] w fun e w' => e = .returned (.tuple #[]) ∧ RefOut d w w' nb n c s kb cb A Z l r := by
  have ho : (∀ x ∈ l.ks, x < r.bd) ∧ ∀ y ∈ r.ks, r.bd ≤ y := by
    have := Sh.hOrd
    rw [Ord, List.pairwise_append, List.pairwise_cons] at this
    exact this.2.1.1 r (by simp)
  cases d with
  | zero =>
    obtain ⟨kbl, xl, L⟩ := TL
    obtain ⟨kbr, xr, R⟩ := TR
    exact refill_leaf w nb n c s kb cb xs ps A Z l r i Sh hi hin hn2 kbl xl L kbr xr R hnl hnr (fun x hx y hy => Nat.lt_of_lt_of_le (ho.1 x hx) (ho.2 y hy)) hltA hsum
  | succ d =>
    obtain ⟨kbl, cbl, xl, pl, esl, L, hkl⟩ := TL
    obtain ⟨kbr, cbr, xr, pr, esr, R, hkr⟩ := TR
    cases esr with
    | nil => have := R.hN; simp at this; omega
    | cons f esr => exact refill_inner d w nb n c s kb cb xs ps A Z l r i Sh hi hin hn2 kbl cbl xl pl esl L hkl kbr cbr xr pr f esr R hkr hnl hnr ho hltA hsum hcnt

/-- What a removal leaves. -/
def RemOut (d : Nat) (w w' : World) (nb : Nat) (ks : List Nat) (v n : Nat) (own : List Nat) : Prop :=
  ∃ n' own', Tree d 33 33 w' nb (ks.erase v) n' own' ∧ n' ≤ n ∧ n ≤ n' + 1 ∧ (∀ x ∈ own', x ∈ own ∨ w.heap.size ≤ x) ∧ Kept (· ∈ own) w w' ∧ (v ∉ ks → Below w.heap.size w w')

theorem Shell.inner {w : World} {nb n c s kb cb : Nat} {xs : List Nat} {ps : List Value} {es : List Kid} (h : Shell w nb n c s kb cb xs ps es) (hp : 0 < n) (hc : c = (keysOf es).length) (hs : s = (keysOf es).sum) : Inner 33 33 w nb (keysOf es) n (nb :: kb :: cb :: ownOf es) kb cb xs ps es := by
  subst hc
  subst hs
  exact { hOwn := rfl, hNodup := h.hNodup, hN := h.hN, hPos := hp, hXs := h.hXs, hTake := h.hTake, hSmall := h.hSmall, hLe := h.hLe, hPs := h.hPs, hTakeP := h.hTakeP, hOne := h.hOne, hLeC := h.hLe, hKs := rfl, hNode := h.hNode, hKeys := h.hKeys, hKids := h.hKids, hOrd := h.hOrd }
end Go.Proofs.Ybulkbqza
