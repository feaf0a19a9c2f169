/-
  Seat b3380a. treeNode.refill over inner nodes.
-/
import Derived.Test.YbulkbqzaShell
namespace Go.Proofs.Ybulkbqza
open Go.RowKit
set_option linter.unusedVariables false
set_option maxRecDepth 100000
set_option linter.unusedSimpArgs false

theorem Ord.join {A : List Kid} {f : Kid} {t : List Kid} {bd : Nat} (hA : Ord A) (hR : Ord (f :: t)) (h1 : ∀ x ∈ keysOf A, x < bd) (h2 : ∀ y ∈ keysOf (f :: t), bd ≤ y) (hf : f.ks ≠ []) : Ord (A ++ ((bd, f.2) : Kid) :: t) := by
  rw [Ord, List.pairwise_cons] at hR
  rw [Ord, List.pairwise_append, List.pairwise_cons]
  refine ⟨hA, ⟨fun b hb => hR.1 b hb, hR.2⟩, ?_⟩
  intro a ha b hb
  rcases List.mem_cons.1 hb with rfl | hb
  · exact ⟨fun x hx => h1 x (mem_keysOf ha hx), fun y hy => h2 y (by rw [keysOf_cons]; exact List.mem_append_left _ hy)⟩
  · refine ⟨fun x hx => ?_, (hR.1 b hb).2⟩
    obtain ⟨y, hy⟩ := List.exists_mem_of_ne_nil _ hf
    have q1 := h1 x (mem_keysOf ha hx)
    have q2 := h2 y (by rw [keysOf_cons]; exact List.mem_append_left _ hy)
    have q3 := (hR.1 b hb).1 y hy
    omega

set_option maxHeartbeats 2000000 in
theorem refill_inner (d : Nat) (w : World) (nb n c s kb cb : Nat) (xs : List Nat) (ps : List Value) (A Z : List Kid) (l r : Kid) (i : Nat) (Sh : Shell w nb n c s kb cb xs ps (A ++ l :: r :: Z)) (hi : A.length = min i (n - 2)) (hin : i < n) (hn2 : 2 ≤ n)
    (kbl cbl : Nat) (xl : List Nat) (pl : List Value) (esl : List Kid) (L : Inner 33 33 w l.nb l.ks l.n l.own kbl cbl xl pl esl) (hkl : ∀ e ∈ esl, 16 ≤ e.n ∧ e.n ≤ 32 ∧ Tree d 33 33 w e.nb e.ks e.n e.own)
    (kbr cbr : Nat) (xr : List Nat) (pr : List Value) (f : Kid) (esr : List Kid) (R : Inner 33 33 w r.nb r.ks r.n r.own kbr cbr xr pr (f :: esr)) (hkr : ∀ e ∈ f :: esr, 16 ≤ e.n ∧ e.n ≤ 32 ∧ Tree d 33 33 w e.nb e.ks e.n e.own)
    (hnl : 15 ≤ l.n ∧ l.n ≤ 32) (hnr : 15 ≤ r.n ∧ r.n ≤ 32)
    (hlr : (∀ x ∈ l.ks, x < r.bd) ∧ ∀ y ∈ r.ks, r.bd ≤ y) (hltA : ∀ x ∈ ownOf (A ++ l :: r :: Z), x < w.heap.size) (hsum : l.ks.sum + r.ks.sum < 18446744073709551616) (hcnt0 : l.ks.length + r.ks.length < 1099511627776) :
    Calls Yba.prog 42 #[.pointer (some ⟨nb, 0, none⟩), .int .i64 i, .func (.func 10) #[] #[]] w fun e w' => e = .returned (.tuple #[]) ∧ RefOut (d + 1) w w' nb n c s kb cb A Z l r := by
  have en := neq_nil
  have hnd : (nb :: kb :: cb :: (l.own ++ r.own)).Nodup := Sh.hNodup.sublist (by
    refine List.Sublist.cons_cons _ (List.Sublist.cons_cons _ (List.Sublist.cons_cons _ ?_))
    rw [ownOf_append, ownOf_cons, ownOf_cons, ← List.append_assoc l.own]
    exact (List.sublist_append_left _ _).trans (List.sublist_append_right _ _))
  rw [L.hOwn, R.hOwn] at hnd
  have hndO : Hid (ownOf (esl ++ f :: esr)).Nodup := by
    rw [ownOf_append]
    refine hnd.sublist ?_
    refine List.Sublist.cons _ (List.Sublist.cons _ (List.Sublist.cons _ ?_))
    exact List.Sublist.append (List.Sublist.cons _ (List.Sublist.cons _ (List.Sublist.cons _ (List.Sublist.refl _)))) (List.Sublist.cons _ (List.Sublist.cons _ (List.Sublist.cons _ (List.Sublist.refl _))))
  have hOL : Hid (∀ b ∈ ownOf (esl ++ f :: esr), b ≠ nb ∧ b ≠ kb ∧ b ≠ cb ∧ b ≠ l.nb ∧ b ≠ kbl ∧ b ≠ cbl ∧ b ≠ r.nb ∧ b ≠ kbr ∧ b ≠ cbr) := by
    intro b hb
    rw [ownOf_append] at hb
    have p : (ownOf esl ++ ([r.nb, kbr, cbr] ++ ownOf (f :: esr))).Perm ([r.nb, kbr, cbr] ++ (ownOf esl ++ ownOf (f :: esr))) := List.perm_append_comm_assoc _ _ _
    have p2 := ((((((p.cons cbl).cons kbl).cons l.nb).cons cb).cons kb).cons nb)
    have q : ([nb, kb, cb, l.nb, kbl, cbl, r.nb, kbr, cbr] ++ (ownOf esl ++ ownOf (f :: esr))).Nodup := p2.nodup (by simpa using hnd)
    rw [List.nodup_append] at q
    have g := fun X (hX : X ∈ [nb, kb, cb, l.nb, kbl, cbl, r.nb, kbr, cbr]) => (q.2.2 X hX b hb).symm
    exact ⟨g nb (by simp), g kb (by simp), g cb (by simp), g l.nb (by simp), g kbl (by simp), g cbl (by simp), g r.nb (by simp), g kbr (by simp), g cbr (by simp)⟩
  have hnd9 : [nb, kb, cb, l.nb, kbl, cbl, r.nb, kbr, cbr].Nodup := hnd.sublist (by
    refine List.Sublist.cons_cons _ (List.Sublist.cons_cons _ (List.Sublist.cons_cons _ ?_))
    refine List.Sublist.cons_cons _ (List.Sublist.cons_cons _ (List.Sublist.cons_cons _ ?_))
    refine List.Sublist.trans ?_ (List.sublist_append_right _ _)
    exact List.Sublist.cons_cons _ (List.Sublist.cons_cons _ (List.Sublist.cons_cons _ (List.nil_sublist _))))
  clear hnd
  simp only [List.nodup_cons, List.mem_cons, not_or, List.not_mem_nil, not_false_eq_true, and_true, List.nodup_nil] at hnd9
  obtain ⟨⟨d1, d2, d3, d4, d5, d6, d7, d8⟩, ⟨d9, d10, d11, d12, d13, d14, d15⟩, ⟨d16, d17, d18, d19, d20, d21⟩, ⟨d22, d23, d24, d25, d26⟩, ⟨d27, d28, d29, d30⟩, ⟨d31, d32, d33⟩, ⟨d34, d35⟩, d36⟩ := hnd9
  replace d1 := Hid.mk' d1
  replace d2 := Hid.mk' d2
  replace d3 := Hid.mk' d3
  replace d4 := Hid.mk' d4
  replace d5 := Hid.mk' d5
  replace d6 := Hid.mk' d6
  replace d7 := Hid.mk' d7
  replace d8 := Hid.mk' d8
  replace d9 := Hid.mk' d9
  replace d10 := Hid.mk' d10
  replace d11 := Hid.mk' d11
  replace d12 := Hid.mk' d12
  replace d13 := Hid.mk' d13
  replace d14 := Hid.mk' d14
  replace d15 := Hid.mk' d15
  replace d16 := Hid.mk' d16
  replace d17 := Hid.mk' d17
  replace d18 := Hid.mk' d18
  replace d19 := Hid.mk' d19
  replace d20 := Hid.mk' d20
  replace d21 := Hid.mk' d21
  replace d22 := Hid.mk' d22
  replace d23 := Hid.mk' d23
  replace d24 := Hid.mk' d24
  replace d25 := Hid.mk' d25
  replace d26 := Hid.mk' d26
  replace d27 := Hid.mk' d27
  replace d28 := Hid.mk' d28
  replace d29 := Hid.mk' d29
  replace d30 := Hid.mk' d30
  replace d31 := Hid.mk' d31
  replace d32 := Hid.mk' d32
  replace d33 := Hid.mk' d33
  replace d34 := Hid.mk' d34
  replace d35 := Hid.mk' d35
  replace d36 := Hid.mk' d36
  have N := Sh.hNode
  have KB := Sh.hKeys
  have CB := Sh.hKids
  have NL := L.hNode
  have KL := L.hKeys
  have CL := L.hKids
  have NR := R.hNode
  have KR := R.hKeys
  have CR := R.hKids
  have hel := Sh.hN
  rw [List.length_append, List.length_cons, List.length_cons] at hel
  obtain ⟨j, hj⟩ : ∃ j, j = A.length := ⟨_, rfl⟩
  have hjn : j + 1 < n := by omega
  have hn33 := Sh.hLe
  have hwr : wrap64 ((n : Int) - 2) = (n : Int) - 2 := by unfold wrap64; omega
  have hmin : min (i : Int) ((n : Int) - 2) = (j : Int) := by omega
  have p1 : w.cell? ⟨cb, j, none⟩ = some (.pointer (some ⟨l.nb, 0, none⟩)) := by
    rw [CB.cell]
    have : (ps.take n)[j]? = some (ptr l.nb) := by rw [Sh.hTakeP, List.getElem?_map, hj]; simp
    rwa [List.getElem?_take_of_lt (by omega)] at this
  have p2 : w.cell? ⟨cb, j + 1, none⟩ = some (.pointer (some ⟨r.nb, 0, none⟩)) := by
    rw [CB.cell]
    have : (ps.take n)[j + 1]? = some (ptr r.nb) := by rw [Sh.hTakeP, List.getElem?_map, hj]; simp
    rwa [List.getElem?_take_of_lt (by omega)] at this
  have hrbd : xs[j + 1]? = some r.bd := by
    have : (xs.take n)[j + 1]? = some r.bd := by rw [Sh.hTake, List.getElem?_map, hj]; simp
    rwa [List.getElem?_take_of_lt (by omega)] at this
  have hrbl : r.bd < 4294967296 := Sh.hSmall _ (List.mem_of_getElem? hrbd)
  have RBd : Hid ([r.bd] <+: xs.drop (j + 1)) := by
    obtain ⟨h1, h2⟩ := List.getElem?_eq_some_iff.1 hrbd
    rw [List.drop_eq_getElem_cons h1, h2]
    exact ⟨_, rfl⟩
  have q1 : w.cell? ⟨nb, 1, none⟩ = some (.slice (some ⟨cb, 0, none⟩) n 33) := N.cell 1
  have q2 : (j : Int) < n := by omega
  have q3 : (j : Int) + 1 < n := by omega
  have lN := N.lt
  have lKB := KB.lt
  have lCB := CB.lt
  have lNL := NL.lt
  have lKL := KL.lt
  have lCL := CL.lt
  have lNR := NR.lt
  have lKR := KR.lt
  have lCR := CR.lt
  have hxl := L.hXs
  have hxr := R.hXs
  have hpl := L.hPs
  have hpr := R.hPs
  have htpl := L.hTakeP
  have htpr := R.hTakeP
  have htl := L.hTake
  have htr := R.hTake
  have hnl2 := L.hN
  have hnr2 := R.hN
  have h1pl := L.hOne
  have h1pr := R.hOne
  have hcnt : Hid (l.ks.length + r.ks.length < 1099511627776) := hcnt0
  obtain ⟨yr, hyr⟩ : ∃ yr, yr = r.bd :: esr.map Kid.bd := ⟨_, rfl⟩
  obtain ⟨qr, hqr⟩ : ∃ qr, qr = (f :: esr).map fun e => ptr e.nb := ⟨_, rfl⟩
  have hyrl : yr.length = r.n := by rw [hyr]; simp; simp at hnr2; omega
  have hqrl : qr.length = r.n := by rw [hqr]; simp; simp at hnr2; omega
  have hxset : (xr.set 0 r.bd).take r.n = yr := by
    rw [List.take_set, htr, hyr]
    rfl
  have h1qr : ∀ u ∈ qr, u.oneCell' = true := by
    intro u hu
    rw [hqr] at hu
    obtain ⟨e, _, rfl⟩ := List.mem_map.1 hu
    rfl
  have hrpos : 0 < r.n := by omega
  have hfk : f.ks ≠ [] := (hkr f (by simp)).2.2.ne_nil (by have := (hkr f (by simp)).1; omega)
  have hOrdJ : Hid (Ord (esl ++ ((r.bd, f.2) : Kid) :: esr)) := Ord.join L.hOrd R.hOrd (by rw [← L.hKs]; exact hlr.1) (by rw [← R.hKs]; exact hlr.2) hfk
  have hkeysJ : Hid (keysOf (esl ++ ((r.bd, f.2) : Kid) :: esr) = l.ks ++ r.ks) := by
    show _ = _
    rw [keysOf_append, L.hKs, R.hKs]
    rfl
  have hownJ : Hid (ownOf (esl ++ ((r.bd, f.2) : Kid) :: esr) = ownOf (esl ++ f :: esr)) := by
    show _ = _
    rw [ownOf_append, ownOf_append]
    rfl
  have hlenJ : Hid ((esl ++ ((r.bd, f.2) : Kid) :: esr).length = l.n + r.n) := by
    show _ = _
    rw [List.length_append, hnl2, hnr2]
    rfl
  have hmapJ : Hid ((esl ++ ((r.bd, f.2) : Kid) :: esr).map Kid.bd = xl.take l.n ++ yr) := by
    show _ = _
    rw [List.map_append, htl, hyr]
    rfl
  have hmapP : Hid ((esl ++ ((r.bd, f.2) : Kid) :: esr).map (fun e => ptr e.nb) = pl.take l.n ++ qr) := by
    show _ = _
    rw [List.map_append, htpl, hqr]
    rfl
  have hkJ : Hid (∀ e ∈ esl ++ ((r.bd, f.2) : Kid) :: esr, 16 ≤ e.n ∧ e.n ≤ 32 ∧ Tree d 33 33 w e.nb e.ks e.n e.own) := by
    intro e he
    rcases List.mem_append.1 he with he | he
    · exact hkl e he
    · rcases List.mem_cons.1 he with rfl | he
      · exact hkr f (by simp)
      · exact hkr e (by simp [he])
  have hsmJ : Hid ((∀ z ∈ xl, z < 4294967296) ∧ ∀ z ∈ yr, z < 4294967296) := ⟨L.hSmall, fun z hz => by
    rw [hyr] at hz
    rcases List.mem_cons.1 hz with rfl | hz
    · exact hrbl
    · refine R.hSmall z (List.mem_of_mem_take (i := r.n) ?_)
      rw [htr]
      simp only [List.map_cons, List.mem_cons]
      exact .inr hz⟩
  have hlOwn : Hid (l.own = l.nb :: kbl :: cbl :: ownOf esl ∧ r.own = r.nb :: kbr :: cbr :: ownOf (f :: esr)) := ⟨L.hOwn, R.hOwn⟩
  have hlksne : Hid (l.ks ≠ []) := by
    intro e
    have q := L.hKs
    rw [e] at q
    cases esl with
    | nil => simp at hnl2; omega
    | cons a t =>
      have := (hkl a (by simp)).2.2.ne_nil (by have := (hkl a (by simp)).1; omega)
      rw [keysOf_cons] at q
      simp [this] at q
  have htpr2 : Hid (pr.take r.n = qr) := by show _ = _; rw [htpr, hqr]
  clear htl htr htpl htpr hnl2 hnr2 hkl hkr hlr hyr hqr L R hfk hrbd hcnt0
  replace hxl := Hid.mk' hxl
  replace hxr := Hid.mk' hxr
  replace hpl := Hid.mk' hpl
  replace hpr := Hid.mk' hpr
  replace hyrl := Hid.mk' hyrl
  replace hqrl := Hid.mk' hqrl
  replace hxset := Hid.mk' hxset
  replace hj := Hid.mk' hj
  replace hel := Hid.mk' hel
  generalize hlks : l.ks = lks at *
  generalize hrks : r.ks = rks at *
  generalize hlnn : l.n = ln at *
  generalize hrnn : r.n = rn at *
  generalize hlnb : l.nb = lnb at *
  generalize hrnb : r.nb = rnb at *
  generalize hrb : r.bd = rbd at *
  replace hlks := Hid.mk' hlks
  replace hrks := Hid.mk' hrks
  replace hlnn := Hid.mk' hlnn
  replace hrnn := Hid.mk' hrnn
  replace hlnb := Hid.mk' hlnb
  replace hrnb := Hid.mk' hrnb
  replace hrb := Hid.mk' hrb
  go_enter Yba.func42, Yba.ntmps42
  go_wp2_with fail
  go_quiet (fail)
  have hq0 : Below w.heap.size w (w.drewN nq) := below_drewN (Below.refl _ w) nq
  have kk : Kept (fun b => b = nb ∨ b = kb ∨ b = cb ∨ b = lnb ∨ b = kbl ∨ b = cbl ∨ b = rnb ∨ b = kbr ∨ b = cbr) w (w.drewN nq) := Kept.of_below hq0
  replace N := N.below hq0
  replace KB := KB.below hq0
  replace CB := CB.below hq0
  replace NL := NL.below hq0
  replace KL := KL.below hq0
  replace CL := CL.below hq0
  replace NR := NR.below hq0
  replace KR := KR.below hq0
  replace CR := CR.below hq0
  generalize hw0 : w.drewN nq = wq at *
  have hsq : w.heap.size ≤ wq.heap.size := hq0.size
  clear hw0 p1 p2 q1 hq0
  have cl1 : wq.cell? ⟨lnb, 1, none⟩ = some (.slice (some ⟨cbl, 0, none⟩) ln 33) := NL.cell 1
  go_wp2_with fail
  have u1 : wq.cell? ⟨rnb, 0, none⟩ = some (.slice (some ⟨kbr, 0, none⟩) rn 33) := NR.cell 0
  have u2 : wq.cell? ⟨nb, 0, none⟩ = some (.slice (some ⟨kb, 0, none⟩) n 33) := N.cell 0
  have u3 : wq.rangeAt kb ((j + 1) * 20) (idc rbd) := by have := KB.sub (k := j + 1) RBd.out; simpa [ids] using this
  have hwj : IntKind.i64.wrap ((j : Int) + 1) = (j : Int) + 1 := by rw [IntKind.wrap_i64]; omega
  have hj0 : (0 : Int) ≤ (j : Int) + 1 := by omega
  refine wp_region_B (fun w' => w'.cell? ⟨rnb, 0, none⟩ = some (.slice (some ⟨kbr, 0, none⟩) rn 33) ∧ w'.cell? ⟨nb, 0, none⟩ = some (.slice (some ⟨kb, 0, none⟩) n 33) ∧ w'.rangeAt kb ((j + 1) * 20) (idc rbd)) (fun j => j != 13) (by kernel_rfl) (⟨by simpa using u1, by simpa using u2, by simpa using u3⟩) (fun hHeld => ?_)
  simp only [List.size_toArray, List.length_cons, List.length_nil, Nat.reduceAdd, Array.replicate_succ, Array.replicate_zero, List.push_toArray, List.append_toArray, List.nil_append, List.cons_append]
  refine wpAnyB_takeW (i := 0) (v := ?_) rfl (by kernel_rfl) (by kernel_rfl) (by kernel_rfl) (fun _ _ _ h => h) (Or.inl ⟨by rfl, ?_⟩) ?_
  rotate_left 1
  · intro w hSw; go_simp <;> with_reducible rfl
  try simp only [Act.put, List.setIfInBounds_toArray, List.set_cons_zero, List.set_cons_succ, List.getElem_toArray, List.getElem_cons_succ, List.getElem_cons_zero]
  refine wpAnyB_takeW (i := 1) (v := ?_) rfl (by kernel_rfl) (by kernel_rfl) (by kernel_rfl) (fun _ _ _ h => h) (Or.inl ⟨by rfl, ?_⟩) ?_
  rotate_left 1
  · intro w hSw; go_simp <;> with_reducible rfl
  try simp only [Act.put, List.setIfInBounds_toArray, List.set_cons_zero, List.set_cons_succ, List.getElem_toArray, List.getElem_cons_succ, List.getElem_cons_zero]
  refine wpAnyB_takeW (i := 2) (v := ?_) rfl (by kernel_rfl) (by kernel_rfl) (by kernel_rfl) (fun _ _ _ h => h) (Or.inl ⟨by rfl, ?_⟩) ?_
  rotate_left 1
  · intro w hSw; go_simp <;> with_reducible rfl
  try simp only [Act.put, List.setIfInBounds_toArray, List.set_cons_zero, List.set_cons_succ, List.getElem_toArray, List.getElem_cons_succ, List.getElem_cons_zero]
  refine wpAnyB_take (i := 3) (v := ?_) rfl (by kernel_rfl) (by kernel_rfl) (by kernel_rfl) (by kernel_rfl) (fun _ _ _ h => h) (Or.inl ⟨by rfl, ?_⟩) hHeld ?_
  rotate_left 1
  · intro w hSw; (try dsimp only at hSw); obtain ⟨q1, q2, q3⟩ := hSw; go_simp <;> with_reducible rfl
  try simp only [Act.put, List.setIfInBounds_toArray, List.set_cons_zero, List.set_cons_succ, List.getElem_toArray, List.getElem_cons_succ, List.getElem_cons_zero]
  refine wpAnyB_takeW (i := 4) (v := ?_) rfl (by kernel_rfl) (by kernel_rfl) (by kernel_rfl) (fun _ _ _ h => h) (Or.inl ⟨by rfl, ?_⟩) ?_
  rotate_left 1
  · intro w hSw; go_simp <;> with_reducible rfl
  try simp only [Act.put, List.setIfInBounds_toArray, List.set_cons_zero, List.set_cons_succ, List.getElem_toArray, List.getElem_cons_succ, List.getElem_cons_zero]
  refine wpAnyB_takeW (i := 5) (v := ?_) rfl (by kernel_rfl) (by kernel_rfl) (by kernel_rfl) (fun _ _ _ h => h) (Or.inl ⟨by rfl, ?_⟩) ?_
  rotate_left 1
  · intro w hSw; go_simp <;> with_reducible rfl
  try simp only [Act.put, List.setIfInBounds_toArray, List.set_cons_zero, List.set_cons_succ, List.getElem_toArray, List.getElem_cons_succ, List.getElem_cons_zero]
  refine wpAnyB_takeW (i := 6) (v := ?_) rfl (by kernel_rfl) (by kernel_rfl) (by kernel_rfl) (fun _ _ _ h => h) (Or.inl ⟨by rfl, ?_⟩) ?_
  rotate_left 1
  · intro w hSw; go_simp <;> with_reducible rfl
  try simp only [Act.put, List.setIfInBounds_toArray, List.set_cons_zero, List.set_cons_succ, List.getElem_toArray, List.getElem_cons_succ, List.getElem_cons_zero]
  refine wpAnyB_take (i := 7) (v := ?_) rfl (by kernel_rfl) (by kernel_rfl) (by kernel_rfl) (by kernel_rfl) (fun _ _ _ h => h) (Or.inl ⟨by rfl, ?_⟩) hHeld ?_
  rotate_left 1
  · intro w hSw; (try dsimp only at hSw); obtain ⟨q1, q2, q3⟩ := hSw; go_simp <;> with_reducible rfl
  try simp only [Act.put, List.setIfInBounds_toArray, List.set_cons_zero, List.set_cons_succ, List.getElem_toArray, List.getElem_cons_succ, List.getElem_cons_zero]
  refine wpAnyB_takeW (i := 8) (v := ?_) rfl (by kernel_rfl) (by kernel_rfl) (by kernel_rfl) (fun _ _ _ h => h) (Or.inl ⟨by rfl, ?_⟩) ?_
  rotate_left 1
  · intro w hSw; go_simp <;> with_reducible rfl
  try simp only [Act.put, List.setIfInBounds_toArray, List.set_cons_zero, List.set_cons_succ, List.getElem_toArray, List.getElem_cons_succ, List.getElem_cons_zero]
  refine wpAnyB_takeW (i := 9) (v := ?_) rfl (by kernel_rfl) (by kernel_rfl) (by kernel_rfl) (fun _ _ _ h => h) (Or.inl ⟨by rfl, ?_⟩) ?_
  rotate_left 1
  · intro w hSw; go_simp <;> with_reducible rfl
  try simp only [Act.put, List.setIfInBounds_toArray, List.set_cons_zero, List.set_cons_succ, List.getElem_toArray, List.getElem_cons_succ, List.getElem_cons_zero]
  refine wpAnyB_takeW (i := 10) (v := ?_) rfl (by kernel_rfl) (by kernel_rfl) (by kernel_rfl) (fun _ _ _ h => h) (Or.inl ⟨by rfl, ?_⟩) ?_
  rotate_left 1
  · intro w hSw; go_simp <;> with_reducible rfl
  try simp only [Act.put, List.setIfInBounds_toArray, List.set_cons_zero, List.set_cons_succ, List.getElem_toArray, List.getElem_cons_succ, List.getElem_cons_zero]
  refine wpAnyB_load30 (i := 11) rfl (by kernel_rfl) (by kernel_rfl) (by kernel_rfl) (by kernel_rfl) (kb) ((j + 1) * 20) (rbd) (.tmp 48) rfl rfl (fun _ _ _ h => h) (by rfl) (fun w hSw => hSw.2.2) hHeld ?_
  try simp only [Act.put, List.setIfInBounds_toArray, List.set_cons_zero, List.set_cons_succ, List.getElem_toArray, List.getElem_cons_succ, List.getElem_cons_zero]
  refine wpAnyB_takeW (i := 12) (v := ?_) rfl (by kernel_rfl) (by kernel_rfl) (by kernel_rfl) (fun _ _ _ h => h) (Or.inl ⟨by rfl, ?_⟩) ?_
  rotate_left 1
  · intro w hSw; go_simp <;> with_reducible rfl
  try simp only [Act.put, List.setIfInBounds_toArray, List.set_cons_zero, List.set_cons_succ, List.getElem_toArray, List.getElem_cons_succ, List.getElem_cons_zero]
  have TK : wq.drew.there kbr 0 20 := by have := KR.drew.idsT (k := 0) (n := 1) (by rw [hxr.out]; omega); simpa using this
  refine wpAnyB_step (i := 13) (by kernel_rfl) rfl (fun Kq hKq => ?_)
  refine step_st30 rfl rfl (.tmp 50) (.tmp 49) rfl kbr 0 rbd rfl rfl TK ?_
  refine hKq.out _ _ (fun h => absurd h (by decide)) ?_
  clear hKq Kq
  try simp only [Act.put, List.setIfInBounds_toArray, List.set_cons_zero, List.set_cons_succ, List.getElem_toArray, List.getElem_cons_succ, List.getElem_cons_zero]
  refine wpAnyB_done (by kernel_rfl) ?_ _
  have KR1 : Blk (wq.drew.setCells kbr 0 (idc rbd)) kbr (ids (xr.set 0 rbd)) 30 := by
    have := KR.drew.idsS (k := 0) (ys := [rbd]) (by rw [hxr.out]; simp)
    rw [← set_eq rbd xr 0 (by rw [hxr.out]; omega)]
    simpa [ids] using this
  have kA : Kept (· = kbr) wq (wq.drew.setCells kbr 0 (idc rbd)) := kept_sets (Kept.refl _ wq).drew _ _
  generalize wq.drew.setCells kbr 0 (idc rbd) = w0 at *
  replace N := N.kept kA d7.out
  replace KB := KB.kept kA d14.out
  replace CB := CB.kept kA d20.out
  replace NL := NL.kept kA d25.out
  replace KL := KL.kept kA d29.out
  replace CL := CL.kept kA d32.out
  replace NR := NR.kept kA d34.out
  replace CR := CR.kept kA (Ne.symm d36.out)
  replace KR := KR1
  have hs0 : w.heap.size ≤ w0.heap.size := Nat.le_trans hsq kA.size
  replace kk := kk.trans (kA.mono (fun b _ h => by subst h; simp))
  clear hHeld u1 u2 u3 TK KR1 kA cl1
  go_wp2_with fail
  have u1 : w0.cell? ⟨lnb, 0, none⟩ = some (.slice (some ⟨kbl, 0, none⟩) ln 33) := NL.cell 0
  have u2 : w0.cell? ⟨rnb, 0, none⟩ = some (.slice (some ⟨kbr, 0, none⟩) rn 33) := NR.cell 0
  have hsrc : ∀ j u, (ids yr)[j]? = some u → w0.drew.cell? ((⟨kbr, 0, none⟩ : Addr).add j) = some u := fun j u hu => by
    rw [Addr.add_mid]
    exact KR.drew.sub (k := 0) (zs := yr) (by rw [← hxset.out]; exact List.take_prefix _ _) j u hu
  refine wp_region_B (fun w' => w'.cell? ⟨lnb, 0, none⟩ = some (.slice (some ⟨kbl, 0, none⟩) ln 33) ∧ w'.cell? ⟨rnb, 0, none⟩ = some (.slice (some ⟨kbr, 0, none⟩) rn 33)) (fun j => j != 12) (by kernel_rfl) (⟨by simpa using u1, by simpa using u2⟩) (fun hHeld => ?_)
  simp only [List.size_toArray, List.length_cons, List.length_nil, Nat.reduceAdd, Array.replicate_succ, Array.replicate_zero, List.push_toArray, List.append_toArray, List.nil_append, List.cons_append]
  refine wpAnyB_takeW (i := 0) (v := ?_) rfl (by kernel_rfl) (by kernel_rfl) (by kernel_rfl) (fun _ _ _ h => h) (Or.inl ⟨by rfl, ?_⟩) ?_
  rotate_left 1
  · intro w hSw; go_simp <;> with_reducible rfl
  try simp only [Act.put, List.setIfInBounds_toArray, List.set_cons_zero, List.set_cons_succ, List.getElem_toArray, List.getElem_cons_succ, List.getElem_cons_zero]
  refine wpAnyB_takeW (i := 1) (v := ?_) rfl (by kernel_rfl) (by kernel_rfl) (by kernel_rfl) (fun _ _ _ h => h) (Or.inl ⟨by rfl, ?_⟩) ?_
  rotate_left 1
  · intro w hSw; go_simp <;> with_reducible rfl
  try simp only [Act.put, List.setIfInBounds_toArray, List.set_cons_zero, List.set_cons_succ, List.getElem_toArray, List.getElem_cons_succ, List.getElem_cons_zero]
  refine wpAnyB_takeW (i := 2) (v := ?_) rfl (by kernel_rfl) (by kernel_rfl) (by kernel_rfl) (fun _ _ _ h => h) (Or.inl ⟨by rfl, ?_⟩) ?_
  rotate_left 1
  · intro w hSw; go_simp <;> with_reducible rfl
  try simp only [Act.put, List.setIfInBounds_toArray, List.set_cons_zero, List.set_cons_succ, List.getElem_toArray, List.getElem_cons_succ, List.getElem_cons_zero]
  refine wpAnyB_takeW (i := 3) (v := ?_) rfl (by kernel_rfl) (by kernel_rfl) (by kernel_rfl) (fun _ _ _ h => h) (Or.inl ⟨by rfl, ?_⟩) ?_
  rotate_left 1
  · intro w hSw; go_simp <;> with_reducible rfl
  try simp only [Act.put, List.setIfInBounds_toArray, List.set_cons_zero, List.set_cons_succ, List.getElem_toArray, List.getElem_cons_succ, List.getElem_cons_zero]
  refine wpAnyB_take (i := 4) (v := ?_) rfl (by kernel_rfl) (by kernel_rfl) (by kernel_rfl) (by kernel_rfl) (fun _ _ _ h => h) (Or.inl ⟨by rfl, ?_⟩) hHeld ?_
  rotate_left 1
  · intro w hSw; (try dsimp only at hSw); obtain ⟨q1, q2⟩ := hSw; go_simp <;> with_reducible rfl
  try simp only [Act.put, List.setIfInBounds_toArray, List.set_cons_zero, List.set_cons_succ, List.getElem_toArray, List.getElem_cons_succ, List.getElem_cons_zero]
  refine wpAnyB_takeW (i := 5) (v := ?_) rfl (by kernel_rfl) (by kernel_rfl) (by kernel_rfl) (fun _ _ _ h => h) (Or.inl ⟨by rfl, ?_⟩) ?_
  rotate_left 1
  · intro w hSw; go_simp <;> with_reducible rfl
  try simp only [Act.put, List.setIfInBounds_toArray, List.set_cons_zero, List.set_cons_succ, List.getElem_toArray, List.getElem_cons_succ, List.getElem_cons_zero]
  refine wpAnyB_takeW (i := 6) (v := ?_) rfl (by kernel_rfl) (by kernel_rfl) (by kernel_rfl) (fun _ _ _ h => h) (Or.inl ⟨by rfl, ?_⟩) ?_
  rotate_left 1
  · intro w hSw; go_simp <;> with_reducible rfl
  try simp only [Act.put, List.setIfInBounds_toArray, List.set_cons_zero, List.set_cons_succ, List.getElem_toArray, List.getElem_cons_succ, List.getElem_cons_zero]
  refine wpAnyB_takeW (i := 7) (v := ?_) rfl (by kernel_rfl) (by kernel_rfl) (by kernel_rfl) (fun _ _ _ h => h) (Or.inl ⟨by rfl, ?_⟩) ?_
  rotate_left 1
  · intro w hSw; go_simp <;> with_reducible rfl
  try simp only [Act.put, List.setIfInBounds_toArray, List.set_cons_zero, List.set_cons_succ, List.getElem_toArray, List.getElem_cons_succ, List.getElem_cons_zero]
  refine wpAnyB_take (i := 8) (v := ?_) rfl (by kernel_rfl) (by kernel_rfl) (by kernel_rfl) (by kernel_rfl) (fun _ _ _ h => h) (Or.inl ⟨by rfl, ?_⟩) hHeld ?_
  rotate_left 1
  · intro w hSw; (try dsimp only at hSw); obtain ⟨q1, q2⟩ := hSw; go_simp <;> with_reducible rfl
  try simp only [Act.put, List.setIfInBounds_toArray, List.set_cons_zero, List.set_cons_succ, List.getElem_toArray, List.getElem_cons_succ, List.getElem_cons_zero]
  refine wpAnyB_step (i := 9) (by kernel_rfl) rfl (fun Kq hKq => ?_)
  refine step_any30 rfl (.tmp 55) (.tmp 59) rfl kbl ln 33 rfl ⟨kbr, 0, none⟩ rn 33 xl yr KL.drew rfl hyrl.out hsrc hxl.out (by omega) (by omega) ?_
  intro w1 bl capl xl' BL hlen1 htk1 hcap1 hb1 k1 hz1 hcapE
  replace k1 : Kept (· = kbl) w0 w1 := (Kept.refl _ w0).drew.trans k1
  have hHeld := (⟨(k1.cell (p := ⟨lnb, 0, none⟩) NL.lt d22.out).trans u1, (k1.cell (p := ⟨rnb, 0, none⟩) NR.lt (Ne.symm d28.out)).trans u2⟩ : _ ∧ _)
  refine hKq.out _ _ (fun _ _ => hHeld) ?_
  clear hKq Kq
  try simp only [Act.put, List.setIfInBounds_toArray, List.set_cons_zero, List.set_cons_succ, List.getElem_toArray, List.getElem_cons_succ, List.getElem_cons_zero]
  refine wpAnyB_takeW (i := 10) (v := ?_) rfl (by kernel_rfl) (by kernel_rfl) (by kernel_rfl) (fun _ _ _ h => h) (Or.inl ⟨by rfl, ?_⟩) ?_
  rotate_left 1
  · intro w hSw; go_simp <;> with_reducible rfl
  try simp only [Act.put, List.setIfInBounds_toArray, List.set_cons_zero, List.set_cons_succ, List.getElem_toArray, List.getElem_cons_succ, List.getElem_cons_zero]
  refine wpAnyB_takeW (i := 11) (v := ?_) rfl (by kernel_rfl) (by kernel_rfl) (by kernel_rfl) (fun _ _ _ h => h) (Or.inl ⟨by rfl, ?_⟩) ?_
  rotate_left 1
  · intro w hSw; go_simp <;> with_reducible rfl
  try simp only [Act.put, List.setIfInBounds_toArray, List.set_cons_zero, List.set_cons_succ, List.getElem_toArray, List.getElem_cons_succ, List.getElem_cons_zero]
  have hbl : ∀ X, X < w.heap.size → kbl ≠ X → bl ≠ X := fun X h1 h2 => by
    rcases hb1 with h | h
    · rw [h]; exact h2
    · intro e; rw [e] at h; exact absurd (Nat.lt_of_lt_of_le h1 hs0) (Nat.not_lt.2 h)
  replace hbl := Hid.mk' hbl
  replace N := N.kept k1 d4.out
  replace KB := KB.kept k1 d11.out
  replace CB := CB.kept k1 d17.out
  replace NL := NL.kept k1 d22.out
  replace CL := CL.kept k1 (Ne.symm d27.out)
  replace NR := NR.kept k1 (Ne.symm d28.out)
  replace KR := KR.kept k1 (Ne.symm d29.out)
  replace CR := CR.kept k1 (Ne.symm d30.out)
  have cl : w1.cell? ⟨lnb, 0, none⟩ = some (.slice (some ⟨kbl, 0, none⟩) ln 33) := NL.cell 0
  have fl := NL.frozen 0
  refine wpAnyB_step (i := 12) (by kernel_rfl) rfl (fun Kq hKq => ?_)
  go_simp
  refine hKq.out _ _ (fun h => absurd h (by decide)) ?_
  clear hKq Kq
  try simp only [Act.put, List.setIfInBounds_toArray, List.set_cons_zero, List.set_cons_succ, List.getElem_toArray, List.getElem_cons_succ, List.getElem_cons_zero]
  refine wpAnyB_done (by kernel_rfl) ?_ _
  replace NL := NL.setKeys (.slice (some ⟨bl, 0, none⟩) (ln + rn) capl)
  have k2 : Kept (· = lnb) w1 (w1.setCell ⟨lnb, 0, none⟩ (.slice (some ⟨bl, 0, none⟩) (ln + rn) capl)) := kept_set (Kept.refl _ w1) _ _
  generalize w1.setCell ⟨lnb, 0, none⟩ (.slice (some ⟨bl, 0, none⟩) (ln + rn) capl) = w2 at *
  replace N := N.kept k2 d3.out
  replace KB := KB.kept k2 d10.out
  replace CB := CB.kept k2 d16.out
  replace CL := CL.kept k2 (Ne.symm d23.out)
  replace NR := NR.kept k2 (Ne.symm d24.out)
  replace KR := KR.kept k2 (Ne.symm d25.out)
  replace CR := CR.kept k2 (Ne.symm d26.out)
  have hblt2 : bl < w2.heap.size := Nat.lt_of_lt_of_le BL.lt k2.size
  replace BL := BL.kept k2 (hbl.out lnb lNL (Ne.symm d22.out))
  replace kk := (kk.trans (k1.mono (fun b _ h => by subst h; simp))).trans (k2.mono (fun b _ h => by subst h; simp))
  have hs2 : w.heap.size ≤ w2.heap.size := kk.size
  clear hHeld u1 u2 hsrc cl fl k1 k2 KL
  go_wp2_with fail
  have u1 : w2.cell? ⟨lnb, 1, none⟩ = some (.slice (some ⟨cbl, 0, none⟩) ln 33) := NL.cell 1
  have u2 : w2.cell? ⟨rnb, 1, none⟩ = some (.slice (some ⟨cbr, 0, none⟩) rn 33) := NR.cell 1
  have hsrc : ∀ j u, qr[j]? = some u → w2.drew.cell? ((⟨cbr, 0, none⟩ : Addr).add j) = some u := fun j u hu => by
    rw [Addr.add_mid, CR.drew.cell, Nat.zero_add]
    rw [← htpr2.out, List.getElem?_take] at hu
    split at hu
    · exact hu
    · cases hu
  refine wp_region_B (fun w' => w'.cell? ⟨lnb, 1, none⟩ = some (.slice (some ⟨cbl, 0, none⟩) ln 33) ∧ w'.cell? ⟨rnb, 1, none⟩ = some (.slice (some ⟨cbr, 0, none⟩) rn 33)) (fun j => j != 12) (by kernel_rfl) (⟨by simpa using u1, by simpa using u2⟩) (fun hHeld => ?_)
  simp only [List.size_toArray, List.length_cons, List.length_nil, Nat.reduceAdd, Array.replicate_succ, Array.replicate_zero, List.push_toArray, List.append_toArray, List.nil_append, List.cons_append]
  refine wpAnyB_takeW (i := 0) (v := ?_) rfl (by kernel_rfl) (by kernel_rfl) (by kernel_rfl) (fun _ _ _ h => h) (Or.inl ⟨by rfl, ?_⟩) ?_
  rotate_left 1
  · intro w hSw; go_simp <;> with_reducible rfl
  try simp only [Act.put, List.setIfInBounds_toArray, List.set_cons_zero, List.set_cons_succ, List.getElem_toArray, List.getElem_cons_succ, List.getElem_cons_zero]
  refine wpAnyB_takeW (i := 1) (v := ?_) rfl (by kernel_rfl) (by kernel_rfl) (by kernel_rfl) (fun _ _ _ h => h) (Or.inl ⟨by rfl, ?_⟩) ?_
  rotate_left 1
  · intro w hSw; go_simp <;> with_reducible rfl
  try simp only [Act.put, List.setIfInBounds_toArray, List.set_cons_zero, List.set_cons_succ, List.getElem_toArray, List.getElem_cons_succ, List.getElem_cons_zero]
  refine wpAnyB_takeW (i := 2) (v := ?_) rfl (by kernel_rfl) (by kernel_rfl) (by kernel_rfl) (fun _ _ _ h => h) (Or.inl ⟨by rfl, ?_⟩) ?_
  rotate_left 1
  · intro w hSw; go_simp <;> with_reducible rfl
  try simp only [Act.put, List.setIfInBounds_toArray, List.set_cons_zero, List.set_cons_succ, List.getElem_toArray, List.getElem_cons_succ, List.getElem_cons_zero]
  refine wpAnyB_takeW (i := 3) (v := ?_) rfl (by kernel_rfl) (by kernel_rfl) (by kernel_rfl) (fun _ _ _ h => h) (Or.inl ⟨by rfl, ?_⟩) ?_
  rotate_left 1
  · intro w hSw; go_simp <;> with_reducible rfl
  try simp only [Act.put, List.setIfInBounds_toArray, List.set_cons_zero, List.set_cons_succ, List.getElem_toArray, List.getElem_cons_succ, List.getElem_cons_zero]
  refine wpAnyB_take (i := 4) (v := ?_) rfl (by kernel_rfl) (by kernel_rfl) (by kernel_rfl) (by kernel_rfl) (fun _ _ _ h => h) (Or.inl ⟨by rfl, ?_⟩) hHeld ?_
  rotate_left 1
  · intro w hSw; (try dsimp only at hSw); obtain ⟨q1, q2⟩ := hSw; go_simp <;> with_reducible rfl
  try simp only [Act.put, List.setIfInBounds_toArray, List.set_cons_zero, List.set_cons_succ, List.getElem_toArray, List.getElem_cons_succ, List.getElem_cons_zero]
  refine wpAnyB_takeW (i := 5) (v := ?_) rfl (by kernel_rfl) (by kernel_rfl) (by kernel_rfl) (fun _ _ _ h => h) (Or.inl ⟨by rfl, ?_⟩) ?_
  rotate_left 1
  · intro w hSw; go_simp <;> with_reducible rfl
  try simp only [Act.put, List.setIfInBounds_toArray, List.set_cons_zero, List.set_cons_succ, List.getElem_toArray, List.getElem_cons_succ, List.getElem_cons_zero]
  refine wpAnyB_takeW (i := 6) (v := ?_) rfl (by kernel_rfl) (by kernel_rfl) (by kernel_rfl) (fun _ _ _ h => h) (Or.inl ⟨by rfl, ?_⟩) ?_
  rotate_left 1
  · intro w hSw; go_simp <;> with_reducible rfl
  try simp only [Act.put, List.setIfInBounds_toArray, List.set_cons_zero, List.set_cons_succ, List.getElem_toArray, List.getElem_cons_succ, List.getElem_cons_zero]
  refine wpAnyB_takeW (i := 7) (v := ?_) rfl (by kernel_rfl) (by kernel_rfl) (by kernel_rfl) (fun _ _ _ h => h) (Or.inl ⟨by rfl, ?_⟩) ?_
  rotate_left 1
  · intro w hSw; go_simp <;> with_reducible rfl
  try simp only [Act.put, List.setIfInBounds_toArray, List.set_cons_zero, List.set_cons_succ, List.getElem_toArray, List.getElem_cons_succ, List.getElem_cons_zero]
  refine wpAnyB_take (i := 8) (v := ?_) rfl (by kernel_rfl) (by kernel_rfl) (by kernel_rfl) (by kernel_rfl) (fun _ _ _ h => h) (Or.inl ⟨by rfl, ?_⟩) hHeld ?_
  rotate_left 1
  · intro w hSw; (try dsimp only at hSw); obtain ⟨q1, q2⟩ := hSw; go_simp <;> with_reducible rfl
  try simp only [Act.put, List.setIfInBounds_toArray, List.set_cons_zero, List.set_cons_succ, List.getElem_toArray, List.getElem_cons_succ, List.getElem_cons_zero]
  refine wpAnyB_step (i := 9) (by kernel_rfl) rfl (fun Kq hKq => ?_)
  refine step_any57 rfl (.tmp 67) (.tmp 71) rfl cbl ln 33 rfl ⟨cbr, 0, none⟩ rn 33 pl qr CL.drew rfl hqrl.out h1pl h1qr hsrc hpl.out (by omega) (by omega) ?_
  intro w3 cl2 capc pl' BC hlen2 htk2 hcap2 hb2 k1 hz2 hcapE2
  replace k1 : Kept (· = cbl) w2 w3 := (Kept.refl _ w2).drew.trans k1
  have hHeld := (⟨(k1.cell (p := ⟨lnb, 1, none⟩) NL.lt d23.out).trans u1, (k1.cell (p := ⟨rnb, 1, none⟩) NR.lt (Ne.symm d31.out)).trans u2⟩ : _ ∧ _)
  refine hKq.out _ _ (fun _ _ => hHeld) ?_
  clear hKq Kq
  try simp only [Act.put, List.setIfInBounds_toArray, List.set_cons_zero, List.set_cons_succ, List.getElem_toArray, List.getElem_cons_succ, List.getElem_cons_zero]
  refine wpAnyB_takeW (i := 10) (v := ?_) rfl (by kernel_rfl) (by kernel_rfl) (by kernel_rfl) (fun _ _ _ h => h) (Or.inl ⟨by rfl, ?_⟩) ?_
  rotate_left 1
  · intro w hSw; go_simp <;> with_reducible rfl
  try simp only [Act.put, List.setIfInBounds_toArray, List.set_cons_zero, List.set_cons_succ, List.getElem_toArray, List.getElem_cons_succ, List.getElem_cons_zero]
  refine wpAnyB_takeW (i := 11) (v := ?_) rfl (by kernel_rfl) (by kernel_rfl) (by kernel_rfl) (fun _ _ _ h => h) (Or.inl ⟨by rfl, ?_⟩) ?_
  rotate_left 1
  · intro w hSw; go_simp <;> with_reducible rfl
  try simp only [Act.put, List.setIfInBounds_toArray, List.set_cons_zero, List.set_cons_succ, List.getElem_toArray, List.getElem_cons_succ, List.getElem_cons_zero]
  have hcl : ∀ X, X < w2.heap.size → cbl ≠ X → cl2 ≠ X := fun X h1 h2 => by
    rcases hb2 with h | h
    · rw [h]; exact h2
    · intro e; rw [e] at h; exact absurd h1 (Nat.not_lt.2 h)
  replace hcl := Hid.mk' hcl
  replace N := N.kept k1 d5.out
  replace KB := KB.kept k1 d12.out
  replace CB := CB.kept k1 d18.out
  replace NL := NL.kept k1 d23.out
  replace NR := NR.kept k1 (Ne.symm d31.out)
  replace KR := KR.kept k1 (Ne.symm d32.out)
  replace CR := CR.kept k1 (Ne.symm d33.out)
  replace BL := BL.kept k1 (hbl.out cbl lCL d27.out)
  have cl : w3.cell? ⟨lnb, 1, none⟩ = some (.slice (some ⟨cbl, 0, none⟩) ln 33) := NL.cell 1
  have fl := NL.frozen 1
  refine wpAnyB_step (i := 12) (by kernel_rfl) rfl (fun Kq hKq => ?_)
  go_simp
  refine hKq.out _ _ (fun h => absurd h (by decide)) ?_
  clear hKq Kq
  try simp only [Act.put, List.setIfInBounds_toArray, List.set_cons_zero, List.set_cons_succ, List.getElem_toArray, List.getElem_cons_succ, List.getElem_cons_zero]
  refine wpAnyB_done (by kernel_rfl) ?_ _
  replace NL := NL.setKids (.slice (some ⟨cl2, 0, none⟩) (ln + rn) capc)
  have k2 : Kept (· = lnb) w3 (w3.setCell ⟨lnb, 1, none⟩ (.slice (some ⟨cl2, 0, none⟩) (ln + rn) capc)) := kept_set (Kept.refl _ w3) _ _
  generalize w3.setCell ⟨lnb, 1, none⟩ (.slice (some ⟨cl2, 0, none⟩) (ln + rn) capc) = V at *
  replace N := N.kept k2 d3.out
  replace KB := KB.kept k2 d10.out
  replace CB := CB.kept k2 d16.out
  replace NR := NR.kept k2 (Ne.symm d24.out)
  replace KR := KR.kept k2 (Ne.symm d25.out)
  replace CR := CR.kept k2 (Ne.symm d26.out)
  replace BL := BL.kept k2 (hbl.out lnb lNL (Ne.symm d22.out))
  replace BC := BC.kept k2 (hcl.out lnb (Nat.lt_of_lt_of_le lNL hs2) (Ne.symm d23.out))
  replace kk := (kk.trans (k1.mono (fun b _ h => by subst h; simp))).trans (k2.mono (fun b _ h => by subst h; simp))
  clear hHeld u1 u2 hsrc cl fl k1 k2 CL
  obtain ⟨lc, hlc⟩ : ∃ lc, Hid (lks.length = lc) := ⟨_, rfl⟩
  obtain ⟨rc, hrc⟩ : ∃ rc, Hid (rks.length = rc) := ⟨_, rfl⟩
  obtain ⟨ls, hls⟩ : ∃ ls, Hid (lks.sum = ls) := ⟨_, rfl⟩
  obtain ⟨rs, hrs⟩ : ∃ rs, Hid (rks.sum = rs) := ⟨_, rfl⟩
  rw [hlc.out, hls.out] at NL
  rw [hrc.out, hrs.out] at NR
  have hA := fun w => add_calls ls rs (by rw [← hls.out, ← hrs.out]; exact hsum) w
  have hwrap : IntKind.i64.wrap ((lc : Int) + (rc : Int)) = (lc : Int) + (rc : Int) := by
    have := hlc.out
    have := hrc.out
    have := hcnt.out
    rw [IntKind.wrap_i64]
    omega
  go_wp2_with fail
  have v1 : V.cell? ⟨lnb, 2, none⟩ = some (.int .i64 (lc : Nat)) := NL.cell 2
  have v2 : V.cell? ⟨rnb, 2, none⟩ = some (.int .i64 (rc : Nat)) := NR.cell 2
  refine wp_region_B (fun w' => w'.cell? ⟨lnb, 2, none⟩ = some (.int .i64 (lc : Nat)) ∧ w'.cell? ⟨rnb, 2, none⟩ = some (.int .i64 (rc : Nat)) ∧ Below V.heap.size V w') (fun j => j != 22 && j != 25) (by kernel_rfl) (⟨by simpa using v1, by simpa using v2, (Below.refl _ V).drew⟩) (fun hHeld => ?_)
  simp only [List.size_toArray, List.length_cons, List.length_nil, Nat.reduceAdd, Array.replicate_succ, Array.replicate_zero, List.push_toArray, List.append_toArray, List.nil_append, List.cons_append]
  refine wpAnyB_takeW (i := 0) (v := ?_) rfl (by kernel_rfl) (by kernel_rfl) (by kernel_rfl) (fun _ _ _ h => h) (Or.inl ⟨by rfl, ?_⟩) ?_
  rotate_left 1
  · intro w hSw; go_simp <;> with_reducible rfl
  try simp only [Act.put, List.setIfInBounds_toArray, List.set_cons_zero, List.set_cons_succ, List.getElem_toArray, List.getElem_cons_succ, List.getElem_cons_zero]
  refine wpAnyB_takeW (i := 1) (v := ?_) rfl (by kernel_rfl) (by kernel_rfl) (by kernel_rfl) (fun _ _ _ h => h) (Or.inl ⟨by rfl, ?_⟩) ?_
  rotate_left 1
  · intro w hSw; go_simp <;> with_reducible rfl
  try simp only [Act.put, List.setIfInBounds_toArray, List.set_cons_zero, List.set_cons_succ, List.getElem_toArray, List.getElem_cons_succ, List.getElem_cons_zero]
  refine wpAnyB_takeW (i := 2) (v := ?_) rfl (by kernel_rfl) (by kernel_rfl) (by kernel_rfl) (fun _ _ _ h => h) (Or.inl ⟨by rfl, ?_⟩) ?_
  rotate_left 1
  · intro w hSw; go_simp <;> with_reducible rfl
  try simp only [Act.put, List.setIfInBounds_toArray, List.set_cons_zero, List.set_cons_succ, List.getElem_toArray, List.getElem_cons_succ, List.getElem_cons_zero]
  refine wpAnyB_takeW (i := 3) (v := ?_) rfl (by kernel_rfl) (by kernel_rfl) (by kernel_rfl) (fun _ _ _ h => h) (Or.inl ⟨by rfl, ?_⟩) ?_
  rotate_left 1
  · intro w hSw; go_simp <;> with_reducible rfl
  try simp only [Act.put, List.setIfInBounds_toArray, List.set_cons_zero, List.set_cons_succ, List.getElem_toArray, List.getElem_cons_succ, List.getElem_cons_zero]
  refine wpAnyB_takeW (i := 4) (v := ?_) rfl (by kernel_rfl) (by kernel_rfl) (by kernel_rfl) (fun _ _ _ h => h) (Or.inl ⟨by rfl, ?_⟩) ?_
  rotate_left 1
  · intro w hSw; go_simp <;> with_reducible rfl
  try simp only [Act.put, List.setIfInBounds_toArray, List.set_cons_zero, List.set_cons_succ, List.getElem_toArray, List.getElem_cons_succ, List.getElem_cons_zero]
  refine wpAnyB_take (i := 5) (v := ?_) rfl (by kernel_rfl) (by kernel_rfl) (by kernel_rfl) (by kernel_rfl) (fun _ _ _ h => h) (Or.inl ⟨by rfl, ?_⟩) hHeld ?_
  rotate_left 1
  · intro w hSw; (try dsimp only at hSw); obtain ⟨q1, q2, q3⟩ := hSw; go_simp <;> with_reducible rfl
  try simp only [Act.put, List.setIfInBounds_toArray, List.set_cons_zero, List.set_cons_succ, List.getElem_toArray, List.getElem_cons_succ, List.getElem_cons_zero]
  refine wpAnyB_takeW (i := 6) (v := ?_) rfl (by kernel_rfl) (by kernel_rfl) (by kernel_rfl) (fun _ _ _ h => h) (Or.inl ⟨by rfl, ?_⟩) ?_
  rotate_left 1
  · intro w hSw; go_simp <;> with_reducible rfl
  try simp only [Act.put, List.setIfInBounds_toArray, List.set_cons_zero, List.set_cons_succ, List.getElem_toArray, List.getElem_cons_succ, List.getElem_cons_zero]
  refine wpAnyB_takeW (i := 7) (v := ?_) rfl (by kernel_rfl) (by kernel_rfl) (by kernel_rfl) (fun _ _ _ h => h) (Or.inl ⟨by rfl, ?_⟩) ?_
  rotate_left 1
  · intro w hSw; go_simp <;> with_reducible rfl
  try simp only [Act.put, List.setIfInBounds_toArray, List.set_cons_zero, List.set_cons_succ, List.getElem_toArray, List.getElem_cons_succ, List.getElem_cons_zero]
  refine wpAnyB_takeW (i := 8) (v := ?_) rfl (by kernel_rfl) (by kernel_rfl) (by kernel_rfl) (fun _ _ _ h => h) (Or.inl ⟨by rfl, ?_⟩) ?_
  rotate_left 1
  · intro w hSw; go_simp <;> with_reducible rfl
  try simp only [Act.put, List.setIfInBounds_toArray, List.set_cons_zero, List.set_cons_succ, List.getElem_toArray, List.getElem_cons_succ, List.getElem_cons_zero]
  refine wpAnyB_take (i := 9) (v := ?_) rfl (by kernel_rfl) (by kernel_rfl) (by kernel_rfl) (by kernel_rfl) (fun _ _ _ h => h) (Or.inl ⟨by rfl, ?_⟩) hHeld ?_
  rotate_left 1
  · intro w hSw; (try dsimp only at hSw); obtain ⟨q1, q2, q3⟩ := hSw; go_simp <;> with_reducible rfl
  try simp only [Act.put, List.setIfInBounds_toArray, List.set_cons_zero, List.set_cons_succ, List.getElem_toArray, List.getElem_cons_succ, List.getElem_cons_zero]
  refine wpAnyB_takeW (i := 10) (v := ?_) rfl (by kernel_rfl) (by kernel_rfl) (by kernel_rfl) (fun _ _ _ h => h) (Or.inl ⟨by rfl, ?_⟩) ?_
  rotate_left 1
  · intro w hSw; go_simp <;> with_reducible rfl
  try simp only [Act.put, List.setIfInBounds_toArray, List.set_cons_zero, List.set_cons_succ, List.getElem_toArray, List.getElem_cons_succ, List.getElem_cons_zero]
  refine wpAnyB_takeW (i := 11) (v := ?_) rfl (by kernel_rfl) (by kernel_rfl) (by kernel_rfl) (fun _ _ _ h => h) (Or.inl ⟨by rfl, ?_⟩) ?_
  rotate_left 1
  · intro w hSw; go_simp <;> with_reducible rfl
  try simp only [Act.put, List.setIfInBounds_toArray, List.set_cons_zero, List.set_cons_succ, List.getElem_toArray, List.getElem_cons_succ, List.getElem_cons_zero]
  refine wpAnyB_takeW (i := 12) (v := ?_) rfl (by kernel_rfl) (by kernel_rfl) (by kernel_rfl) (fun _ _ _ h => h) (Or.inl ⟨by rfl, ?_⟩) ?_
  rotate_left 1
  · intro w hSw; go_simp <;> with_reducible rfl
  try simp only [Act.put, List.setIfInBounds_toArray, List.set_cons_zero, List.set_cons_succ, List.getElem_toArray, List.getElem_cons_succ, List.getElem_cons_zero]
  refine wpAnyB_takeW (i := 13) (v := ?_) rfl (by kernel_rfl) (by kernel_rfl) (by kernel_rfl) (fun _ _ _ h => h) (Or.inl ⟨by rfl, ?_⟩) ?_
  rotate_left 1
  · intro w hSw; go_simp <;> with_reducible rfl
  try simp only [Act.put, List.setIfInBounds_toArray, List.set_cons_zero, List.set_cons_succ, List.getElem_toArray, List.getElem_cons_succ, List.getElem_cons_zero]
  refine wpAnyB_load47 (i := 14) rfl (by kernel_rfl) (by kernel_rfl) (by kernel_rfl) (by kernel_rfl) (lnb) (3) (ls) (.tmp 88) rfl rfl (fun _ _ _ h => h) (by rfl) (fun w hSw => rangeAt_of_block NL.digR (hSw.2.2.block _ NL.lt)) hHeld ?_
  try simp only [Act.put, List.setIfInBounds_toArray, List.set_cons_zero, List.set_cons_succ, List.getElem_toArray, List.getElem_cons_succ, List.getElem_cons_zero]
  refine wpAnyB_takeW (i := 15) (v := ?_) rfl (by kernel_rfl) (by kernel_rfl) (by kernel_rfl) (fun _ _ _ h => h) (Or.inl ⟨by rfl, ?_⟩) ?_
  rotate_left 1
  · intro w hSw; go_simp <;> with_reducible rfl
  try simp only [Act.put, List.setIfInBounds_toArray, List.set_cons_zero, List.set_cons_succ, List.getElem_toArray, List.getElem_cons_succ, List.getElem_cons_zero]
  refine wpAnyB_takeW (i := 16) (v := ?_) rfl (by kernel_rfl) (by kernel_rfl) (by kernel_rfl) (fun _ _ _ h => h) (Or.inl ⟨by rfl, ?_⟩) ?_
  rotate_left 1
  · intro w hSw; go_simp <;> with_reducible rfl
  try simp only [Act.put, List.setIfInBounds_toArray, List.set_cons_zero, List.set_cons_succ, List.getElem_toArray, List.getElem_cons_succ, List.getElem_cons_zero]
  refine wpAnyB_takeW (i := 17) (v := ?_) rfl (by kernel_rfl) (by kernel_rfl) (by kernel_rfl) (fun _ _ _ h => h) (Or.inl ⟨by rfl, ?_⟩) ?_
  rotate_left 1
  · intro w hSw; go_simp <;> with_reducible rfl
  try simp only [Act.put, List.setIfInBounds_toArray, List.set_cons_zero, List.set_cons_succ, List.getElem_toArray, List.getElem_cons_succ, List.getElem_cons_zero]
  refine wpAnyB_load47 (i := 18) rfl (by kernel_rfl) (by kernel_rfl) (by kernel_rfl) (by kernel_rfl) (rnb) (3) (rs) (.tmp 92) rfl rfl (fun _ _ _ h => h) (by rfl) (fun w hSw => rangeAt_of_block NR.digR (hSw.2.2.block _ NR.lt)) hHeld ?_
  try simp only [Act.put, List.setIfInBounds_toArray, List.set_cons_zero, List.set_cons_succ, List.getElem_toArray, List.getElem_cons_succ, List.getElem_cons_zero]
  refine wpAnyB_step (i := 19) (by kernel_rfl) rfl (fun Kq hKq => ?_)
  go_simp
  refine (hA _).mono ?_
  rintro e w7 ⟨rfl, hw7⟩
  dsimp only
  have hb7 : Below V.heap.size V w7 := hHeld.2.2.trans (hw7.mono hHeld.2.2.size)
  have hHeld := (⟨(hb7.cell (p := ⟨lnb, 2, none⟩) NL.lt).trans v1, (hb7.cell (p := ⟨rnb, 2, none⟩) NR.lt).trans v2, hb7⟩ : _ ∧ _ ∧ _)
  refine hKq.out _ _ (fun _ _ => hHeld) ?_
  clear hKq Kq
  try simp only [Act.put, List.setIfInBounds_toArray, List.set_cons_zero, List.set_cons_succ, List.getElem_toArray, List.getElem_cons_succ, List.getElem_cons_zero]
  refine wpAnyB_takeW (i := 20) (v := ?_) rfl (by kernel_rfl) (by kernel_rfl) (by kernel_rfl) (fun _ _ _ h => h) (Or.inl ⟨by rfl, ?_⟩) ?_
  rotate_left 1
  · intro w hSw; go_simp <;> with_reducible rfl
  try simp only [Act.put, List.setIfInBounds_toArray, List.set_cons_zero, List.set_cons_succ, List.getElem_toArray, List.getElem_cons_succ, List.getElem_cons_zero]
  refine wpAnyB_takeW (i := 21) (v := ?_) rfl (by kernel_rfl) (by kernel_rfl) (by kernel_rfl) (fun _ _ _ h => h) (Or.inl ⟨by rfl, ?_⟩) ?_
  rotate_left 1
  · intro w hSw; go_simp <;> with_reducible rfl
  try simp only [Act.put, List.setIfInBounds_toArray, List.set_cons_zero, List.set_cons_succ, List.getElem_toArray, List.getElem_cons_succ, List.getElem_cons_zero]
  have N7 := NL.below hb7
  have c7 : w7.cell? ⟨lnb, 2, none⟩ = some (.int .i64 (lc : Nat)) := N7.cell 2
  have f7 := N7.frozen 2
  refine wpAnyB_step (i := 22) (by kernel_rfl) rfl (fun Kq hKq => ?_)
  go_simp
  refine hKq.out _ _ (fun h => absurd h (by decide)) ?_
  clear hKq Kq
  try simp only [Act.put, List.setIfInBounds_toArray, List.set_cons_zero, List.set_cons_succ, List.getElem_toArray, List.getElem_cons_succ, List.getElem_cons_zero]
  have e8 : (lc : Int) + (rc : Int) = ((lc + rc : Nat) : Int) := by omega
  rw [e8]
  clear e8 hwrap
  have N8 := N7.setCount (lc + rc)
  have T8 := N8.digT
  refine wpAnyB_takeW (i := 23) (v := ?_) rfl (by kernel_rfl) (by kernel_rfl) (by kernel_rfl) (fun _ _ _ h => h) (Or.inl ⟨by rfl, ?_⟩) ?_
  rotate_left 1
  · intro w hSw; go_simp <;> with_reducible rfl
  try simp only [Act.put, List.setIfInBounds_toArray, List.set_cons_zero, List.set_cons_succ, List.getElem_toArray, List.getElem_cons_succ, List.getElem_cons_zero]
  refine wpAnyB_takeW (i := 24) (v := ?_) rfl (by kernel_rfl) (by kernel_rfl) (by kernel_rfl) (fun _ _ _ h => h) (Or.inl ⟨by rfl, ?_⟩) ?_
  rotate_left 1
  · intro w hSw; go_simp <;> with_reducible rfl
  try simp only [Act.put, List.setIfInBounds_toArray, List.set_cons_zero, List.set_cons_succ, List.getElem_toArray, List.getElem_cons_succ, List.getElem_cons_zero]
  refine wpAnyB_step (i := 25) (by kernel_rfl) rfl (fun Kq hKq => ?_)
  refine step_st47 rfl rfl (.tmp 98) (.tmp 94) rfl lnb 3 (ls + rs) rfl rfl T8 ?_
  refine hKq.out _ _ (fun h => absurd h (by decide)) ?_
  clear hKq Kq
  try simp only [Act.put, List.setIfInBounds_toArray, List.set_cons_zero, List.set_cons_succ, List.getElem_toArray, List.getElem_cons_succ, List.getElem_cons_zero]
  refine wpAnyB_done (by kernel_rfl) ?_ _
  have N9 := N8.setDig (ls + rs)
  have k9 : Kept (· = lnb) V ((w7.setCell ⟨lnb, 2, none⟩ (.int .i64 ((lc + rc : Nat) : Int))).setCells lnb 3 (dgc (ls + rs))) := kept_sets (kept_set (Kept.of_below hb7) _ _) _ _
  generalize (w7.setCell ⟨lnb, 2, none⟩ (.int .i64 ((lc + rc : Nat) : Int))).setCells lnb 3 (dgc (ls + rs)) = X at *
  clear hA N7 c7 f7 N8 T8 hHeld hb7 hw7 v1 v2
  replace N := N.kept k9 d3.out
  replace KB := KB.kept k9 d10.out
  replace CB := CB.kept k9 d16.out
  replace NR := NR.kept k9 (Ne.symm d24.out)
  replace KR := KR.kept k9 (Ne.symm d25.out)
  replace CR := CR.kept k9 (Ne.symm d26.out)
  replace BL := BL.kept k9 (hbl.out lnb lNL (Ne.symm d22.out))
  replace BC := BC.kept k9 (hcl.out lnb (Nat.lt_of_lt_of_le lNL hs2) (Ne.symm d23.out))
  replace kk := kk.trans (k9.mono (fun b _ h => by subst h; simp))
  replace NL := N9
  clear k9 N9
  have hblow : Hid (bl = kbl ∨ w.heap.size ≤ bl) := Hid.mk' (hb1.elim Or.inl (fun h => Or.inr (Nat.le_trans hs0 h)))
  have hclow : Hid (cl2 = cbl ∨ w2.heap.size ≤ cl2) := hb2
  have hOlt : ∀ b ∈ ownOf (esl ++ f :: esr), b < w.heap.size := fun b hb => by
    rw [← hownJ.out] at hb
    obtain ⟨e, he, hb⟩ := List.mem_flatMap.1 hb
    exact (hkJ.out e he).2.2.lt b hb
  have FT : Tree (d + 1) capl capc X lnb (lks ++ rks) (ln + rn) (lnb :: bl :: cl2 :: ownOf (esl ++ f :: esr)) := by
    refine ⟨bl, cl2, xl', pl', esl ++ ((rbd, f.2) : Kid) :: esr, ?_, ?_⟩
    · refine { hOwn := by rw [hownJ.out], hNodup := ?_, hN := hlenJ.out.symm, hPos := by omega, hXs := hlen1, hTake := by rw [htk1, hmapJ.out], hSmall := ?_, hLe := hcap1, hPs := hlen2, hTakeP := by rw [htk2, hmapP.out], hOne := hz2, hLeC := hcap2, hKs := hkeysJ.out.symm, hNode := ?_, hKeys := BL, hKids := BC, hOrd := hOrdJ.out }
      · simp only [List.nodup_cons, List.mem_cons, not_or]
        refine ⟨⟨fun e => hbl.out lnb lNL (Ne.symm d22.out) e.symm, fun e => hcl.out lnb (Nat.lt_of_lt_of_le lNL hs2) (Ne.symm d23.out) e.symm, fun hm => (hOL.out _ hm).2.2.2.1 rfl⟩, ⟨fun e => hcl.out bl hblt2 ?_ e.symm, fun hm => ?_⟩, fun hm => ?_, hndO.out⟩
        · rcases hblow.out with h | h
          · rw [h]; exact (Ne.symm d27.out)
          · intro e; rw [← e] at h; exact absurd lCL (Nat.not_lt.2 h)
        · rcases hblow.out with h | h
          · exact (hOL.out _ hm).2.2.2.2.1 h
          · exact absurd (hOlt _ hm) (Nat.not_lt.2 h)
        · rcases hclow.out with h | h
          · exact (hOL.out _ hm).2.2.2.2.2.1 h
          · exact absurd (Nat.lt_of_lt_of_le (hOlt _ hm) hs2) (Nat.not_lt.2 h)
      · intro z hz
        rcases hz1 z hz with h | h | h
        · exact hsmJ.out.1 z h
        · exact hsmJ.out.2 z h
        · rw [h]; decide
      · rw [List.length_append, List.sum_append, hlc.out, hrc.out, hls.out, hrs.out]; exact NL
    · intro e he
      refine ⟨(hkJ.out e he).1, (hkJ.out e he).2.1, (hkJ.out e he).2.2.kept kk (fun b hb h => ?_)⟩
      have hm : b ∈ ownOf (esl ++ f :: esr) := by rw [← hownJ.out]; exact mem_ownOf he hb
      obtain ⟨e1, e2, e3, e4, e5, e6, e7, e8, e9⟩ := hOL.out b hm
      rcases h with h | h | h | h | h | h | h | h | h
      · exact e1 h
      · exact e2 h
      · exact e3 h
      · exact e4 h
      · exact e5 h
      · exact e6 h
      · exact e7 h
      · exact e8 h
      · exact e9 h
  have hownF : Hid (∀ x ∈ lnb :: bl :: cl2 :: ownOf (esl ++ f :: esr), x ∈ l.own ++ r.own ∨ w.heap.size ≤ x) := by
    intro x hx
    rw [hlOwn.out.1, hlOwn.out.2]
    simp only [List.mem_cons] at hx
    rcases hx with rfl | rfl | rfl | hx
    · exact .inl (by simp)
    · rcases hblow.out with h | h
      · exact .inl (by rw [h]; simp)
      · exact .inr h
    · rcases hclow.out with h | h
      · exact .inl (by rw [h]; simp)
      · exact .inr (Nat.le_trans hs2 h)
    · rw [ownOf_append] at hx
      rcases List.mem_append.1 hx with h | h
      · exact .inl (by simp [h])
      · exact .inl (by simp [h])
  have hkept : Kept (fun b => b = nb ∨ b = kb ∨ b = cb ∨ b ∈ l.own ++ r.own) w X := kk.mono (fun b _ h => by
    rw [hlOwn.out.1, hlOwn.out.2]
    rcases h with h | h | h | h | h | h | h | h | h <;> simp [h])
  have hlnbO : Hid (lnb ∈ l.own ++ r.own) := by rw [hlOwn.out.1]; show _ ∈ _; simp
  have hdisF : Hid (∀ b ∈ lnb :: bl :: cl2 :: ownOf (esl ++ f :: esr), ¬ (b = nb ∨ b = kb ∨ b = cb)) := by
    intro b hb
    simp only [List.mem_cons] at hb
    rcases hb with rfl | rfl | rfl | hb
    · rintro (h | h | h)
      · exact (Ne.symm d3.out) h
      · exact (Ne.symm d10.out) h
      · exact (Ne.symm d16.out) h
    · rintro (h | h | h)
      · exact hbl.out nb lN (Ne.symm d4.out) h
      · exact hbl.out kb lKB (Ne.symm d11.out) h
      · exact hbl.out cb lCB (Ne.symm d17.out) h
    · rintro (h | h | h)
      · exact hcl.out nb (Nat.lt_of_lt_of_le lN hs2) (Ne.symm d5.out) h
      · exact hcl.out kb (Nat.lt_of_lt_of_le lKB hs2) (Ne.symm d12.out) h
      · exact hcl.out cb (Nat.lt_of_lt_of_le lCB hs2) (Ne.symm d18.out) h
    · obtain ⟨e1, e2, e3, _⟩ := hOL.out b hb
      rintro (h | h | h)
      · exact e1 h
      · exact e2 h
      · exact e3 h
  have hlks2 : l.ks = lks := hlks.out
  have hrks2 : r.ks = rks := hrks.out
  have hlnb2 : l.nb = lnb := hlnb.out
  have hjA : j = A.length := hj.out
  have hlne : l.ks ≠ [] := by rw [hlks2]; exact hlksne.out
  replace hlks2 := Hid.mk' hlks2
  replace hrks2 := Hid.mk' hrks2
  replace hlnb2 := Hid.mk' hlnb2
  replace hjA := Hid.mk' hjA
  replace hlne := Hid.mk' hlne
  replace hltA := Hid.mk' hltA
  have hsumF : (lks ++ rks).sum < 18446744073709551616 := by rw [List.sum_append]; exact hsum
  have hcntF : (lks ++ rks).length < 1099511627776 := by rw [List.length_append]; exact hcnt.out
  by_cases hsm : ln + rn ≤ 32
  · have hcap33 := hcapE (by omega)
    have hcap34 := hcapE2 (by omega)
    have FT3 : Tree (d + 1) 33 33 X lnb (lks ++ rks) (ln + rn) (lnb :: bl :: cl2 :: ownOf (esl ++ f :: esr)) := by rw [hcap33, hcap34] at FT; exact FT
    have hD : Calls Yba.prog 14 #[.slice (some ⟨kb, 0, none⟩) n 33, .int .i64 ((j : Int) + 1), .int .i64 ((j : Int) + 2)] X fun e w' => e = .returned (.slice (some ⟨kb, 0, none⟩) (n - 1) 33) ∧ Blk w' kb (ids ((xs.take n).eraseIdx (j + 1) ++ 0 :: xs.drop n)) 30 ∧ Kept (· = kb) X w' := by
      have := del_calls kb n 33 (j + 1) xs X KB (by rw [Sh.hXs]; omega) Sh.hXs.symm (by omega) (by rw [Sh.hXs]; omega)
      rw [show (((j + 1 : Nat) : Int) + 1) = (j : Int) + 2 by omega, show (((j + 1 : Nat) : Int)) = (j : Int) + 1 by omega] at this
      exact this
    have hE : ∀ Y, Blk Y cb ps 32 → Calls Yba.prog 53 #[.slice (some ⟨cb, 0, none⟩) n 33, .int .i64 ((j : Int) + 1), .int .i64 ((j : Int) + 2)] Y fun e w' => e = .returned (.slice (some ⟨cb, 0, none⟩) (n - 1) 33) ∧ Blk w' cb ((ps.take n).eraseIdx (j + 1) ++ .pointer none :: ps.drop n) 32 ∧ Kept (· = cb) Y w' := fun Y hY => by
      have := delp_calls cb n 33 (j + 1) ps Y hY Sh.hOne (by rw [Sh.hPs]; omega) Sh.hPs.symm (by omega) (by rw [Sh.hPs]; omega)
      rw [show (((j + 1 : Nat) : Int) + 1) = (j : Int) + 2 by omega, show (((j + 1 : Nat) : Int)) = (j : Int) + 1 by omega] at this
      exact this
    have en2 := @run_neq_pointer_nil Yba.prog
    have x0 : X.cell? ⟨nb, 0, none⟩ = some (.slice (some ⟨kb, 0, none⟩) n 33) := N.cell 0
    go_wp2_with (first
      | (go_at_call 52; refine (split_none FT3 hsm).mono ?_; rintro e w5 ⟨rfl, hw5⟩; rw [hw5]; clear hw5)
      | (go_at_call 14; refine hD.mono ?_; rintro e X1 ⟨rfl, KB1, k1⟩; have N1 := N.kept k1 d1.out; have CB1 := CB.kept k1 (Ne.symm d9.out); have x1 : X1.cell? ⟨nb, 0, none⟩ = some (.slice (some ⟨kb, 0, none⟩) n 33) := N1.cell 0; have f1 := N1.frozen 0; have N2 := N1.setKeys (.slice (some ⟨kb, 0, none⟩) (n - 1) 33); have CB2 := CB1.setOther (p := ⟨nb, 0, none⟩) d2.out (.slice (some ⟨kb, 0, none⟩) (n - 1) 33); have KB2 := KB1.setOther (p := ⟨nb, 0, none⟩) d1.out (.slice (some ⟨kb, 0, none⟩) (n - 1) 33); have x2 : (X1.setCell ⟨nb, 0, none⟩ (.slice (some ⟨kb, 0, none⟩) (n - 1) 33)).cell? ⟨nb, 1, none⟩ = some (.slice (some ⟨cb, 0, none⟩) n 33) := N2.cell 1; have hE1 := hE _ CB2; have kA := kept_set (nb := nb) (Kept.refl _ X1) 0 (.slice (some ⟨kb, 0, none⟩) (n - 1) 33))
      | (go_at_call 53; refine hE1.mono ?_; rintro e X3 ⟨rfl, CB3, k3⟩; have N3 := N2.kept k3 d2.out; have KB3 := KB2.kept k3 d9.out; have x3 : X3.cell? ⟨nb, 1, none⟩ = some (.slice (some ⟨cb, 0, none⟩) n 33) := N3.cell 1; have f3 := N3.frozen 1))
    go_end0
    refine ⟨rfl, ?_⟩
    have N4 := N3.setKids (.slice (some ⟨cb, 0, none⟩) (n - 1) 33)
    have KB4 := KB3.setOther (p := ⟨nb, 1, none⟩) d1.out (.slice (some ⟨cb, 0, none⟩) (n - 1) 33)
    have CB4 := CB3.setOther (p := ⟨nb, 1, none⟩) d2.out (.slice (some ⟨cb, 0, none⟩) (n - 1) 33)
    have kB := kept_set (nb := nb) (Kept.refl _ X3) 1 (.slice (some ⟨cb, 0, none⟩) (n - 1) 33)
    have kAll : Kept (fun b => b = nb ∨ b = kb ∨ b = cb) X _ := (((k1.mono (T := fun b => b = nb ∨ b = kb ∨ b = cb) (fun b _ h => .inr (.inl h))).trans (kA.mono (fun b _ h => .inl h))).trans (k3.mono (fun b _ h => .inr (.inr h)))).trans (kB.mono (fun b _ h => .inl h))
    have FT4 := FT3.kept kAll (fun b hb h => hdisF.out b hb h)
    rw [hjA.out] at KB4 CB4
    refine refout_merge (m := ln + rn) Sh hltA.out hlne.out (ownF := (lnb :: bl :: cl2 :: ownOf (esl ++ f :: esr))) ?_ ⟨by omega, hsm⟩ hownF.out N4 KB4 CB4 (hkept.trans (kAll.mono (fun b _ h => by rcases h with h | h | h <;> simp [h])))
    rw [hlks2.out, hrks2.out, hlnb2.out]
    exact FT4
  · have en2 := @run_neq_pointer_nil Yba.prog
    go_wp2_with (go_at_call 52; refine (split_calls FT (by omega) (by omega) hsumF hcntF).mono ?_; rintro e Y ⟨nb2, rfl, ⟨ks1, ks2, own1, own2, bd, kb2, q2, xs2, c2, s2, hks, T1, T2, hnd12, hsub, hbd1, hbd2, hbd, M2, MK2, hx0, hnb2, hkb2⟩, k1⟩; unfold ptr)
    replace N := N.kept k1 d3.out
    replace KB := KB.kept k1 d10.out
    replace CB := CB.kept k1 d16.out
    have hXw : w.heap.size ≤ X.heap.size := hkept.size
    have y1 : Y.cell? ⟨nb, 0, none⟩ = some (.slice (some ⟨kb, 0, none⟩) n 33) := N.cell 0
    have y2 : Y.cell? ⟨nb, 1, none⟩ = some (.slice (some ⟨cb, 0, none⟩) n 33) := N.cell 1
    have y3 : Y.cell? ⟨nb2, 0, none⟩ = some (.slice (some ⟨kb2, 0, none⟩) ((ln + rn) - (ln + rn) / 2) 33) := M2.cell 0
    have y4 : 0 < (ln + rn) - (ln + rn) / 2 := by omega
    have RB : Y.rangeAt kb2 0 (idc bd) := by
      have := MK2.sub (k := 0) (zs := [bd]) (by
        obtain ⟨h1, h2⟩ := List.getElem?_eq_some_iff.1 hx0
        rw [List.drop_zero]
        cases xs2 with
        | nil => simp at h1
        | cons a t => simp at h2; subst h2; exact ⟨t, rfl⟩)
      simpa [ids] using this
    generalize hmm : (ln + rn) - (ln + rn) / 2 = mm at *
    have hcbs : ∃ u, Y.cell? ⟨cb, j + 1, none⟩ = some u := by
      have := CB.there (o := j + 1) (n := 1) (by rw [Sh.hPs]; omega) 0 (by omega)
      exact Option.isSome_iff_exists.1 this.1
    obtain ⟨ux, hux⟩ := hcbs
    have hwj : IntKind.i64.wrap ((j : Int) + 1) = (j : Int) + 1 := by rw [IntKind.wrap_i64]; omega
    have hj0 : (0 : Int) ≤ (j : Int) + 1 := by omega
    have fux := CB.frozen (j + 1)
    refine wp_region_B (fun w' => w'.cell? ⟨nb, 0, none⟩ = some (.slice (some ⟨kb, 0, none⟩) n 33) ∧ w'.cell? ⟨nb, 1, none⟩ = some (.slice (some ⟨cb, 0, none⟩) n 33) ∧ w'.cell? ⟨nb2, 0, none⟩ = some (.slice (some ⟨kb2, 0, none⟩) mm 33) ∧ w'.rangeAt kb2 0 (idc bd)) (fun j => j != 20 && j != 22) (by kernel_rfl) (⟨by simpa using y1, by simpa using y2, by simpa using y3, by simpa using RB⟩) (fun hHeld => ?_)
    simp only [List.size_toArray, List.length_cons, List.length_nil, Nat.reduceAdd, Array.replicate_succ, Array.replicate_zero, List.push_toArray, List.append_toArray, List.nil_append, List.cons_append]
    refine wpAnyB_takeW (i := 0) (v := ?_) rfl (by kernel_rfl) (by kernel_rfl) (by kernel_rfl) (fun _ _ _ h => h) (Or.inl ⟨by rfl, ?_⟩) ?_
    rotate_left 1
    · intro w hSw; go_simp <;> with_reducible rfl
    try simp only [Act.put, List.setIfInBounds_toArray, List.set_cons_zero, List.set_cons_succ, List.getElem_toArray, List.getElem_cons_succ, List.getElem_cons_zero]
    refine wpAnyB_takeW (i := 1) (v := ?_) rfl (by kernel_rfl) (by kernel_rfl) (by kernel_rfl) (fun _ _ _ h => h) (Or.inl ⟨by rfl, ?_⟩) ?_
    rotate_left 1
    · intro w hSw; go_simp <;> with_reducible rfl
    try simp only [Act.put, List.setIfInBounds_toArray, List.set_cons_zero, List.set_cons_succ, List.getElem_toArray, List.getElem_cons_succ, List.getElem_cons_zero]
    refine wpAnyB_takeW (i := 2) (v := ?_) rfl (by kernel_rfl) (by kernel_rfl) (by kernel_rfl) (fun _ _ _ h => h) (Or.inl ⟨by rfl, ?_⟩) ?_
    rotate_left 1
    · intro w hSw; go_simp <;> with_reducible rfl
    try simp only [Act.put, List.setIfInBounds_toArray, List.set_cons_zero, List.set_cons_succ, List.getElem_toArray, List.getElem_cons_succ, List.getElem_cons_zero]
    refine wpAnyB_take (i := 3) (v := ?_) rfl (by kernel_rfl) (by kernel_rfl) (by kernel_rfl) (by kernel_rfl) (fun _ _ _ h => h) (Or.inl ⟨by rfl, ?_⟩) hHeld ?_
    rotate_left 1
    · intro w hSw; (try dsimp only at hSw); obtain ⟨q1, q2, q3, q4⟩ := hSw; go_simp <;> with_reducible rfl
    try simp only [Act.put, List.setIfInBounds_toArray, List.set_cons_zero, List.set_cons_succ, List.getElem_toArray, List.getElem_cons_succ, List.getElem_cons_zero]
    refine wpAnyB_takeW (i := 4) (v := ?_) rfl (by kernel_rfl) (by kernel_rfl) (by kernel_rfl) (fun _ _ _ h => h) (Or.inl ⟨by rfl, ?_⟩) ?_
    rotate_left 1
    · intro w hSw; go_simp <;> with_reducible rfl
    try simp only [Act.put, List.setIfInBounds_toArray, List.set_cons_zero, List.set_cons_succ, List.getElem_toArray, List.getElem_cons_succ, List.getElem_cons_zero]
    refine wpAnyB_takeW (i := 5) (v := ?_) rfl (by kernel_rfl) (by kernel_rfl) (by kernel_rfl) (fun _ _ _ h => h) (Or.inl ⟨by rfl, ?_⟩) ?_
    rotate_left 1
    · intro w hSw; go_simp <;> with_reducible rfl
    try simp only [Act.put, List.setIfInBounds_toArray, List.set_cons_zero, List.set_cons_succ, List.getElem_toArray, List.getElem_cons_succ, List.getElem_cons_zero]
    refine wpAnyB_takeW (i := 6) (v := ?_) rfl (by kernel_rfl) (by kernel_rfl) (by kernel_rfl) (fun _ _ _ h => h) (Or.inl ⟨by rfl, ?_⟩) ?_
    rotate_left 1
    · intro w hSw; go_simp <;> with_reducible rfl
    try simp only [Act.put, List.setIfInBounds_toArray, List.set_cons_zero, List.set_cons_succ, List.getElem_toArray, List.getElem_cons_succ, List.getElem_cons_zero]
    refine wpAnyB_takeW (i := 7) (v := ?_) rfl (by kernel_rfl) (by kernel_rfl) (by kernel_rfl) (fun _ _ _ h => h) (Or.inl ⟨by rfl, ?_⟩) ?_
    rotate_left 1
    · intro w hSw; go_simp <;> with_reducible rfl
    try simp only [Act.put, List.setIfInBounds_toArray, List.set_cons_zero, List.set_cons_succ, List.getElem_toArray, List.getElem_cons_succ, List.getElem_cons_zero]
    refine wpAnyB_takeW (i := 8) (v := ?_) rfl (by kernel_rfl) (by kernel_rfl) (by kernel_rfl) (fun _ _ _ h => h) (Or.inl ⟨by rfl, ?_⟩) ?_
    rotate_left 1
    · intro w hSw; go_simp <;> with_reducible rfl
    try simp only [Act.put, List.setIfInBounds_toArray, List.set_cons_zero, List.set_cons_succ, List.getElem_toArray, List.getElem_cons_succ, List.getElem_cons_zero]
    refine wpAnyB_take (i := 9) (v := ?_) rfl (by kernel_rfl) (by kernel_rfl) (by kernel_rfl) (by kernel_rfl) (fun _ _ _ h => h) (Or.inl ⟨by rfl, ?_⟩) hHeld ?_
    rotate_left 1
    · intro w hSw; (try dsimp only at hSw); obtain ⟨q1, q2, q3, q4⟩ := hSw; go_simp <;> with_reducible rfl
    try simp only [Act.put, List.setIfInBounds_toArray, List.set_cons_zero, List.set_cons_succ, List.getElem_toArray, List.getElem_cons_succ, List.getElem_cons_zero]
    refine wpAnyB_takeW (i := 10) (v := ?_) rfl (by kernel_rfl) (by kernel_rfl) (by kernel_rfl) (fun _ _ _ h => h) (Or.inl ⟨by rfl, ?_⟩) ?_
    rotate_left 1
    · intro w hSw; go_simp <;> with_reducible rfl
    try simp only [Act.put, List.setIfInBounds_toArray, List.set_cons_zero, List.set_cons_succ, List.getElem_toArray, List.getElem_cons_succ, List.getElem_cons_zero]
    refine wpAnyB_takeW (i := 11) (v := ?_) rfl (by kernel_rfl) (by kernel_rfl) (by kernel_rfl) (fun _ _ _ h => h) (Or.inl ⟨by rfl, ?_⟩) ?_
    rotate_left 1
    · intro w hSw; go_simp <;> with_reducible rfl
    try simp only [Act.put, List.setIfInBounds_toArray, List.set_cons_zero, List.set_cons_succ, List.getElem_toArray, List.getElem_cons_succ, List.getElem_cons_zero]
    refine wpAnyB_takeW (i := 12) (v := ?_) rfl (by kernel_rfl) (by kernel_rfl) (by kernel_rfl) (fun _ _ _ h => h) (Or.inl ⟨by rfl, ?_⟩) ?_
    rotate_left 1
    · intro w hSw; go_simp <;> with_reducible rfl
    try simp only [Act.put, List.setIfInBounds_toArray, List.set_cons_zero, List.set_cons_succ, List.getElem_toArray, List.getElem_cons_succ, List.getElem_cons_zero]
    refine wpAnyB_takeW (i := 13) (v := ?_) rfl (by kernel_rfl) (by kernel_rfl) (by kernel_rfl) (fun _ _ _ h => h) (Or.inl ⟨by rfl, ?_⟩) ?_
    rotate_left 1
    · intro w hSw; go_simp <;> with_reducible rfl
    try simp only [Act.put, List.setIfInBounds_toArray, List.set_cons_zero, List.set_cons_succ, List.getElem_toArray, List.getElem_cons_succ, List.getElem_cons_zero]
    refine wpAnyB_takeW (i := 14) (v := ?_) rfl (by kernel_rfl) (by kernel_rfl) (by kernel_rfl) (fun _ _ _ h => h) (Or.inl ⟨by rfl, ?_⟩) ?_
    rotate_left 1
    · intro w hSw; go_simp <;> with_reducible rfl
    try simp only [Act.put, List.setIfInBounds_toArray, List.set_cons_zero, List.set_cons_succ, List.getElem_toArray, List.getElem_cons_succ, List.getElem_cons_zero]
    refine wpAnyB_take (i := 15) (v := ?_) rfl (by kernel_rfl) (by kernel_rfl) (by kernel_rfl) (by kernel_rfl) (fun _ _ _ h => h) (Or.inl ⟨by rfl, ?_⟩) hHeld ?_
    rotate_left 1
    · intro w hSw; (try dsimp only at hSw); obtain ⟨q1, q2, q3, q4⟩ := hSw; go_simp <;> with_reducible rfl
    try simp only [Act.put, List.setIfInBounds_toArray, List.set_cons_zero, List.set_cons_succ, List.getElem_toArray, List.getElem_cons_succ, List.getElem_cons_zero]
    refine wpAnyB_takeW (i := 16) (v := ?_) rfl (by kernel_rfl) (by kernel_rfl) (by kernel_rfl) (fun _ _ _ h => h) (Or.inl ⟨by rfl, ?_⟩) ?_
    rotate_left 1
    · intro w hSw; go_simp <;> with_reducible rfl
    try simp only [Act.put, List.setIfInBounds_toArray, List.set_cons_zero, List.set_cons_succ, List.getElem_toArray, List.getElem_cons_succ, List.getElem_cons_zero]
    refine wpAnyB_load30 (i := 17) rfl (by kernel_rfl) (by kernel_rfl) (by kernel_rfl) (by kernel_rfl) (kb2) (0) (bd) (.tmp 120) rfl rfl (fun _ _ _ h => h) (by rfl) (fun w hSw => hSw.2.2.2) hHeld ?_
    try simp only [Act.put, List.setIfInBounds_toArray, List.set_cons_zero, List.set_cons_succ, List.getElem_toArray, List.getElem_cons_succ, List.getElem_cons_zero]
    refine wpAnyB_takeW (i := 18) (v := ?_) rfl (by kernel_rfl) (by kernel_rfl) (by kernel_rfl) (fun _ _ _ h => h) (Or.inl ⟨by rfl, ?_⟩) ?_
    rotate_left 1
    · intro w hSw; go_simp <;> with_reducible rfl
    try simp only [Act.put, List.setIfInBounds_toArray, List.set_cons_zero, List.set_cons_succ, List.getElem_toArray, List.getElem_cons_succ, List.getElem_cons_zero]
    refine wpAnyB_takeW (i := 19) (v := ?_) rfl (by kernel_rfl) (by kernel_rfl) (by kernel_rfl) (fun _ _ _ h => h) (Or.inl ⟨by rfl, ?_⟩) ?_
    rotate_left 1
    · intro w hSw; go_simp <;> with_reducible rfl
    try simp only [Act.put, List.setIfInBounds_toArray, List.set_cons_zero, List.set_cons_succ, List.getElem_toArray, List.getElem_cons_succ, List.getElem_cons_zero]
    have TK : Y.drew.there kb ((j + 1) * 20) 20 := KB.drew.idsT (k := j + 1) (n := 1) (by rw [Sh.hXs]; omega)
    have KB1 : Blk (Y.drew.setCells kb ((j + 1) * 20) (idc bd)) kb (ids (xs.set (j + 1) bd)) 30 := by
      have := KB.drew.idsS (k := j + 1) (ys := [bd]) (by rw [Sh.hXs]; simp; omega)
      rw [← set_eq bd xs (j + 1) (by rw [Sh.hXs]; omega)]
      simpa [ids] using this
    have kA : Kept (· = kb) Y (Y.drew.setCells kb ((j + 1) * 20) (idc bd)) := kept_sets (Kept.refl _ Y).drew _ _
    refine wpAnyB_step (i := 20) (by kernel_rfl) rfl (fun Kq hKq => ?_)
    refine step_st30 rfl rfl (.tmp 123) (.tmp 121) rfl kb ((j + 1) * 20) bd rfl rfl TK ?_
    refine hKq.out _ _ (fun h => absurd h (by decide)) ?_
    clear hKq Kq
    try simp only [Act.put, List.setIfInBounds_toArray, List.set_cons_zero, List.set_cons_succ, List.getElem_toArray, List.getElem_cons_succ, List.getElem_cons_zero]
    generalize Y.drew.setCells kb ((j + 1) * 20) (idc bd) = Y1 at *
    have CB1 := CB.kept kA (Ne.symm d9.out)
    have N1 := N.kept kA d1.out
    have hux1 : Y1.cell? ⟨cb, j + 1, none⟩ = some ux := (kA.cell (p := ⟨cb, j + 1, none⟩) CB.lt (Ne.symm d9.out)).trans hux
    have fux1 := CB1.frozen (j + 1)
    refine wpAnyB_takeW (i := 21) (v := ?_) rfl (by kernel_rfl) (by kernel_rfl) (by kernel_rfl) (fun _ _ _ h => h) (Or.inl ⟨by rfl, ?_⟩) ?_
    rotate_left 1
    · intro w hSw; go_simp <;> with_reducible rfl
    try simp only [Act.put, List.setIfInBounds_toArray, List.set_cons_zero, List.set_cons_succ, List.getElem_toArray, List.getElem_cons_succ, List.getElem_cons_zero]
    refine wpAnyB_step (i := 22) (by kernel_rfl) rfl (fun Kq hKq => ?_)
    go_simp
    refine hKq.out _ _ (fun h => absurd h (by decide)) ?_
    clear hKq Kq
    try simp only [Act.put, List.setIfInBounds_toArray, List.set_cons_zero, List.set_cons_succ, List.getElem_toArray, List.getElem_cons_succ, List.getElem_cons_zero]
    refine wpAnyB_done (by kernel_rfl) ?_ _
    have CB2 := CB1.set (j + 1) (.pointer (some ⟨nb2, 0, none⟩))
    have N2 := N1.setOther (p := ⟨cb, j + 1, none⟩) (Ne.symm d2.out) (.pointer (some ⟨nb2, 0, none⟩))
    have KB2 := KB1.setOther (p := ⟨cb, j + 1, none⟩) (Ne.symm d9.out) (.pointer (some ⟨nb2, 0, none⟩))
    have kB := kept_set (nb := cb) (Kept.refl _ Y1) (j + 1) (.pointer (some ⟨nb2, 0, none⟩))
    have kAll : Kept (fun b => b = kb ∨ b = cb) Y _ := (kA.mono (T := fun b => b = kb ∨ b = cb) (fun b _ h => .inl h)).trans (kB.mono (fun b _ h => .inr h))
    generalize Y1.setCell ⟨cb, j + 1, none⟩ (.pointer (some ⟨nb2, 0, none⟩)) = Y2 at *
    clear hHeld
    go_wp2_with fail
    refine bodyPost_ret (results_none rfl _ _ _) rfl ⟨rfl, ?_⟩
    have hdis2 : ∀ b ∈ own1 ++ own2, ¬ (b = kb ∨ b = cb) := fun b hb h => by
      rcases hsub b hb with h1 | h1
      · exact hdisF.out b h1 (.inr h)
      · have := lKB
        have := lCB
        rcases h with h | h <;> omega
    have T1' := T1.kept kAll (fun b hb h => hdis2 b (List.mem_append_left _ hb) h)
    have T2' := T2.kept kAll (fun b hb h => hdis2 b (List.mem_append_right _ hb) h)
    rw [hjA.out] at KB2 CB2
    refine refout_split (bd := bd) (nb2 := nb2) (ks1 := ks1) (ks2 := ks2) (m1 := (ln + rn) / 2) (m2 := mm) (own1 := own1) (own2 := own2) Sh hltA.out hlne.out ?_ T2' ⟨by omega, by omega⟩ ⟨by omega, by omega⟩ ?_ hnd12 ?_ hbd1 hbd2 hbd N2 KB2 CB2 ?_
    · rw [hlnb2.out]; exact T1'
    · rw [hlks2.out, hrks2.out]; exact hks
    · intro x hx
      rcases hsub x hx with h1 | h1
      · exact hownF.out x h1
      · exact .inr (Nat.le_trans hXw h1)
    · refine (hkept.trans (k1.mono (fun b _ h => ?_))).trans (kAll.mono (fun b _ h => by rcases h with h | h <;> simp [h]))
      subst h
      exact .inr (.inr (.inr hlnbO.out))
end Go.Proofs.Ybulkbqza
