/-
  Seat b3380a. treeNode.split at whatever depth.
-/
import Derived.Test.YbulkbqzaSplitI
import Derived.Test.YbulkbqzaApp
namespace Go.Proofs.Ybulkbqza
open Go.RowKit
set_option linter.unusedVariables false

theorem Ord.bound {A : List Kid} {f : Kid} {Z : List Kid} (h : Ord (A ++ f :: Z)) (hA : A ≠ []) (hf : f.ks ≠ []) : (∀ x ∈ keysOf A, x < f.bd) ∧ ∀ y ∈ keysOf (f :: Z), f.bd ≤ y := by
  rw [Ord, List.pairwise_append, List.pairwise_cons] at h
  obtain ⟨h1, ⟨h2, h3⟩, h4⟩ := h
  have hfb : ∀ y ∈ f.ks, f.bd ≤ y := by
    cases A with
    | nil => exact absurd rfl hA
    | cons a A => exact (h4 a (by simp) f (by simp)).2
  constructor
  · intro x hx
    obtain ⟨a, ha, hx⟩ := List.mem_flatMap.1 hx
    exact (h4 a ha f (by simp)).1 x hx
  · intro y hy
    rw [keysOf_cons] at hy
    rcases List.mem_append.1 hy with hy | hy
    · exact hfb y hy
    · obtain ⟨g, hg, hy⟩ := List.mem_flatMap.1 hy
      obtain ⟨x, hx⟩ := List.exists_mem_of_ne_nil _ hf
      have h5 := (h2 g hg).1 x hx
      have h6 := (h2 g hg).2 y hy
      have h7 := hfb x hx
      omega

/-- What split leaves. -/
def SplitOut (d : Nat) (w w' : World) (nb nb2 : Nat) (ks : List Nat) (n : Nat) (own : List Nat) : Prop :=
  ∃ ks1 ks2 own1 own2 bd kb2 q2 xs2 c2 s2, ks = ks1 ++ ks2 ∧ Tree d 33 33 w' nb ks1 (n / 2) own1 ∧ Tree d 33 33 w' nb2 ks2 (n - n / 2) own2 ∧ (own1 ++ own2).Nodup ∧
    (∀ x ∈ own1 ++ own2, x ∈ own ∨ w.heap.size ≤ x) ∧ (∀ x ∈ ks1, x < bd) ∧ (∀ y ∈ ks2, bd ≤ y) ∧ bd < 4294967296 ∧
    Blk w' nb2 (nd (sl kb2 (n - n / 2) 33) q2 c2 s2) 63 ∧ Blk w' kb2 (ids xs2) 30 ∧ xs2[0]? = some bd ∧ w.heap.size ≤ nb2 ∧ w.heap.size ≤ kb2

theorem split_calls {d K C : Nat} {w : World} {nb : Nat} {ks : List Nat} {n : Nat} {own : List Nat} (T : Tree d K C w nb ks n own) (hn : 33 ≤ n) (hn2 : n ≤ 64) (hsum : ks.sum < 18446744073709551616) (hcnt : ks.length < 1099511627776) :
    Calls Yba.prog 52 #[.pointer (some ⟨nb, 0, none⟩), .func (.func 10) #[] #[]] w fun e w' => ∃ nb2, e = .returned (ptr nb2) ∧ SplitOut d w w' nb nb2 ks n own ∧ Kept (· = nb) w w' := by
  cases d with
  | zero =>
    obtain ⟨kb, xs, F⟩ := T
    refine (split_leaf K w nb ks n own kb xs F hn hn2 hsum).mono ?_
    rintro e w' ⟨nb2, own2, kb3, xs3, rfl, L1, hkb3, T2, hnew, hk3, hkept⟩
    have hkl := F.hN
    have T2' := T2
    obtain ⟨kb2, xs2, L2⟩ := T2
    have hlen2 : (ks.drop (n / 2)).length = n - n / 2 := L2.hN.symm
    obtain ⟨bd, hbd⟩ : ∃ bd, (ks.drop (n / 2))[0]? = some bd := ⟨_, List.getElem?_eq_getElem (by omega)⟩
    have hs := F.hSorted
    rw [← List.take_append_drop (n / 2) ks, List.pairwise_append] at hs
    have hmem2 := hnew nb2 (by rw [L2.hOwn]; simp)
    have hmemk := hnew kb2 (by rw [L2.hOwn]; simp)
    have hnbw := F.hNode.lt
    refine ⟨nb2, rfl, ⟨ks.take (n / 2), ks.drop (n / 2), [nb, kb3], own2, bd, kb2, _, xs2, _, _, (List.take_append_drop _ _).symm, ⟨kb3, xs3, L1⟩, T2', ?_, ?_, ?_, ?_, ?_, L2.hNode, L2.hKeys, ?_, hmem2, hmemk⟩, hkept⟩
    · rw [List.nodup_append]
      refine ⟨by simp; exact L1.hNe, T2'.nodup, ?_⟩
      intro x hx y hy e
      subst e
      simp at hx
      rcases hx with rfl | rfl
      · have := hnew x hy; omega
      · exact hk3 hy
    · intro x hx
      rcases List.mem_append.1 hx with h1 | h1
      · simp at h1
        rcases h1 with rfl | rfl
        · exact .inl (by rw [F.hOwn]; simp)
        · exact .inr hkb3
      · exact .inr (hnew x h1)
    · intro x hx
      exact hs.2.2 x hx bd (List.mem_of_getElem? hbd)
    · intro y hy
      obtain ⟨j, hj⟩ := List.mem_iff_getElem?.1 hy
      exact sorted_le hs.2.1 (Nat.zero_le j) hbd hj
    · exact F.hSmall bd (List.mem_of_mem_drop (List.mem_of_getElem? hbd))
    · have := L2.hTake
      rw [← this, List.getElem?_take] at hbd
      split at hbd
      · exact hbd
      · cases hbd
  | succ d =>
    obtain ⟨kb, cb, xs, ps, es, F, hk⟩ := T
    refine (split_inner d K C w nb ks n own kb cb xs ps es F hk hn hn2 hsum hcnt).mono ?_
    rintro e w' ⟨nb2, kb2, cb2, xs2, ps2, kb3, cb3, xs3, ps3, rfl, I1, I2, hnew, hnd5, hkept⟩
    have hel := F.hN
    have hnd := F.hNodup
    rw [F.hOwn] at hnd
    simp only [List.nodup_cons, List.mem_cons, not_or] at hnd
    have hnbw := F.hNode.lt
    have hown : ∀ x ∈ ownOf es, x < w.heap.size := fun x hx => by
      obtain ⟨e, he, hx⟩ := List.mem_flatMap.1 hx
      exact (hk e he).2.2.lt x hx
    have hk' : ∀ e ∈ es, 16 ≤ e.n ∧ e.n ≤ 32 ∧ Tree d 33 33 w' e.nb e.ks e.n e.own := fun e he =>
      ⟨(hk e he).1, (hk e he).2.1, (hk e he).2.2.kept hkept (fun b hb eq => hnd.1.2.2 (mem_ownOf he (eq ▸ hb)))⟩
    have hsplit : es = es.take (n / 2) ++ es.drop (n / 2) := (List.take_append_drop _ _).symm
    have hown2 : ownOf (es.take (n / 2)) ++ ownOf (es.drop (n / 2)) = ownOf es := by rw [← ownOf_append, List.take_append_drop]
    obtain ⟨f, Z, hf⟩ : ∃ f Z, es.drop (n / 2) = f :: Z := by
      cases hd : es.drop (n / 2) with
      | nil => have := List.length_drop (i := n / 2) (l := es); rw [hd] at this; simp at this; omega
      | cons f Z => exact ⟨f, Z, rfl⟩
    have hfm : f ∈ es := List.mem_of_mem_drop (by rw [hf]; simp)
    have hfn := (hk f hfm).2.2.ne_nil (by have := (hk f hfm).1; omega)
    have hb := Ord.bound (A := es.take (n / 2)) (f := f) (Z := Z) (by rw [← hf, List.take_append_drop]; exact F.hOrd) (by
      intro e
      have := congrArg List.length e
      rw [List.length_take, List.length_nil] at this
      omega) hfn
    rw [← hf] at hb
    simp only [List.nodup_cons, List.mem_cons, not_or, List.not_mem_nil, not_false_eq_true, and_true, List.nodup_nil] at hnd5
    refine ⟨nb2, rfl, ⟨keysOf (es.take (n / 2)), keysOf (es.drop (n / 2)), _, _, f.bd, kb2, _, xs2, _, _, ?_, ⟨kb3, cb3, xs3, ps3, _, I1, fun e he => hk' e (List.mem_of_mem_take he)⟩, ⟨kb2, cb2, xs2, ps2, _, I2, fun e he => hk' e (List.mem_of_mem_drop he)⟩, ?_, ?_, hb.1, hb.2, ?_, I2.hNode, I2.hKeys, ?_, hnew.1, hnew.2.1⟩, hkept⟩
    · rw [← keysOf_append, List.take_append_drop, F.hKs]
    · rw [List.nodup_append]
      refine ⟨I1.hNodup, I2.hNodup, ?_⟩
      intro x hx y hy e
      subst e
      have hdis := hnd.2.2.2
      rw [← hown2, List.nodup_append] at hdis
      have hlt1 : ∀ x ∈ ownOf (es.take (n / 2)), x < w.heap.size := fun x hx => hown x (by rw [← hown2]; exact List.mem_append_left _ hx)
      have hlt2 : ∀ x ∈ ownOf (es.drop (n / 2)), x < w.heap.size := fun x hx => hown x (by rw [← hown2]; exact List.mem_append_right _ hx)
      simp only [List.mem_cons] at hx hy
      obtain ⟨q1, q2, q3, q4, q5⟩ := hnew
      rcases hx with rfl | rfl | rfl | hx
      · rcases hy with h | h | h | hy
        · omega
        · omega
        · omega
        · exact hnd.1.2.2 (by rw [← hown2]; exact List.mem_append_right _ hy)
      · rcases hy with h | h | h | hy
        · exact hnd5.1.2.2.1 h.symm
        · exact hnd5.2.1.2.1 h.symm
        · exact hnd5.2.2.1.1 h.symm
        · have := hlt2 _ hy; omega
      · rcases hy with h | h | h | hy
        · exact hnd5.1.2.2.2 h.symm
        · exact hnd5.2.1.2.2 h.symm
        · exact hnd5.2.2.1.2 h.symm
        · have := hlt2 _ hy; omega
      · rcases hy with h | h | h | hy
        · have := hlt1 _ hx; omega
        · have := hlt1 _ hx; omega
        · have := hlt1 _ hx; omega
        · exact hdis.2.2 x hx x hy rfl
    · intro x hx
      rw [F.hOwn]
      rcases List.mem_append.1 hx with h1 | h1 <;> simp only [List.mem_cons] at h1 ⊢
      · rcases h1 with rfl | rfl | rfl | h1
        · exact .inl (.inl rfl)
        · exact .inr hnew.2.2.2.1
        · exact .inr hnew.2.2.2.2
        · exact .inl (.inr (.inr (.inr (by rw [← hown2]; exact List.mem_append_left _ h1))))
      · rcases h1 with rfl | rfl | rfl | h1
        · exact .inr hnew.1
        · exact .inr hnew.2.1
        · exact .inr hnew.2.2.1
        · exact .inl (.inr (.inr (.inr (by rw [← hown2]; exact List.mem_append_right _ h1))))
    · refine F.hSmall _ (List.mem_of_mem_take (i := n) ?_)
      rw [F.hTake]
      exact List.mem_map.2 ⟨f, hfm, rfl⟩
    · have := I2.hTake
      rw [hf] at this
      have h0 : (xs2.take (n - n / 2))[0]? = some f.bd := by rw [this]; rfl
      rw [List.getElem?_take] at h0
      split at h0
      · exact h0
      · cases h0

theorem split_none {d K C : Nat} {w : World} {nb : Nat} {ks : List Nat} {n : Nat} {own : List Nat} (T : Tree d K C w nb ks n own) (hn : n ≤ 32) :
    Calls Yba.prog 52 #[.pointer (some ⟨nb, 0, none⟩), .func (.func 10) #[] #[]] w fun e w' => e = .returned (.pointer none) ∧ w' = w := by
  obtain ⟨_, kb, q, xs, _, N, _⟩ := T.node
  have g1 : w.cell? ⟨nb, 0, none⟩ = some (.slice (some ⟨kb, 0, none⟩) n K) := N.cell 0
  have g3 : (n : Int) ≤ 32 := by omega
  go_enter Yba.func52, Yba.ntmps52
  go_wp2_with fail
  go_ret
  exact ⟨rfl, rfl⟩
end Go.Proofs.Ybulkbqza
