/-
  Seat b3380a. A level of nodes while a tree is built: plain facts.
-/
import Derived.Test.YbulkbqzaEvn
namespace Go.Proofs.Ybulkbqza
open Go.RowKit
set_option linter.unusedVariables false

def seg {α : Type} (l : List α) (lo hi : Nat) : List α := (l.take hi).drop lo
theorem seg_length {α : Type} (l : List α) (lo hi : Nat) (h : hi ≤ l.length) : (seg l lo hi).length = hi - lo := by simp [seg]; omega
theorem seg_sublist {α : Type} (l : List α) (lo hi : Nat) : (seg l lo hi).Sublist l := (List.drop_sublist _ _).trans (List.take_sublist _ _)
theorem seg_get {α : Type} (l : List α) (lo hi i : Nat) : (seg l lo hi)[i]? = if lo + i < hi then l[lo + i]? else none := by
  rw [seg, List.getElem?_drop, List.getElem?_take]

theorem Runs.pos {m r : Nat} (h : Runs m r) : 0 < r := by rcases h with ⟨h1, h2⟩ | ⟨h1, h2⟩ <;> omega
theorem Runs.lt {m r : Nat} (h : Runs m r) (hm : 1 < m) : r < m := by rcases h with ⟨h1, h2⟩ | ⟨h1, h2⟩ <;> omega
theorem Runs.le {m r : Nat} (h : Runs m r) (hm : m < 10000) : r < 500 := by rcases h with ⟨h1, h2⟩ | ⟨h1, h2⟩ <;> omega
theorem runs_ex (m : Nat) : ∃ r, Runs m r := by
  by_cases h : m ≤ 32
  · exact ⟨1, .inl ⟨h, rfl⟩⟩
  · exact ⟨_, .inr ⟨by omega, rfl⟩⟩

theorem Runs.seg {m r i : Nat} (h : Runs m r) (hm : 1 ≤ m) (hi : i < r) :
    m * i / r < m * (i + 1) / r ∧ m * (i + 1) / r ≤ m ∧ m * (i + 1) / r - m * i / r ≤ 32 ∧ (1 < r → 16 ≤ m * (i + 1) / r - m * i / r) ∧ (r = 1 → m * (i + 1) / r - m * i / r = m) := by
  have hr := h.pos
  have hle : m * (i + 1) / r ≤ m := Nat.div_le_of_le_mul (by rw [Nat.mul_comm]; exact Nat.mul_le_mul_right m (by omega))
  rcases h with ⟨h1, h2⟩ | ⟨h1, h2⟩
  · subst h2
    obtain rfl : i = 0 := by omega
    simp
    omega
  · have hlo : r * 16 ≤ m := by omega
    have hhi : m ≤ r * 24 := by omega
    have e : m * (i + 1) = m * i + m := by rw [Nat.mul_add, Nat.mul_one]
    have a1 : m * i / r + 16 ≤ m * (i + 1) / r := by
      rw [e, ← Nat.add_mul_div_left _ _ hr]
      exact Nat.div_le_div_right (by omega)
    have a2 : m * (i + 1) / r ≤ m * i / r + 24 := by
      rw [e, ← Nat.add_mul_div_left _ _ hr]
      exact Nat.div_le_div_right (by omega)
    refine ⟨by omega, hle, by omega, fun _ => by omega, fun hr1 => by omega⟩

theorem take_seg {α : Type} (l : List α) {a b : Nat} (h : a ≤ b) : l.take a ++ seg l a b = l.take b := by
  have := List.take_append_drop a (l.take b)
  rwa [List.take_take, Nat.min_eq_left h] at this

theorem seg_flat_upto {α : Type} (l : List α) (m r : Nat) : ∀ k, (List.range k).flatMap (fun i => seg l (m * i / r) (m * (i + 1) / r)) = l.take (m * k / r)
  | 0 => by simp
  | k + 1 => by
    rw [List.range_succ, List.flatMap_append, seg_flat_upto l m r k]
    simp only [List.flatMap_cons, List.flatMap_nil, List.append_nil]
    exact take_seg l (Nat.div_le_div_right (Nat.mul_le_mul_left _ (by omega)))

theorem seg_flat {α : Type} (l : List α) (m r : Nat) (hl : l.length = m) (hr : 0 < r) (xs : List (Fin r)) (hx : xs.map (·.1) = List.range r) :
    xs.flatMap (fun x => seg l (m * x.1 / r) (m * (x.1 + 1) / r)) = l := by
  have h1 := seg_flat_upto l m r r
  rw [Nat.mul_div_cancel _ hr, List.take_of_length_le (by omega)] at h1
  rw [← hx, List.flatMap_map] at h1
  exact h1

/-- The node's first key. -/
def Hd (w : World) (e : Kid) : Prop := ∃ kb q c s, kb ∈ e.own ∧ Blk w e.nb (nd (sl kb e.n 33) q c s) 63 ∧ w.rangeAt kb 0 (idc e.bd)

structure Good (d : Nat) (w : World) (e : Kid) : Prop where
  pos : 1 ≤ e.n
  le : e.n ≤ 32
  tree : Tree d 33 33 w e.nb e.ks e.n e.own
  small : e.bd < 4294967296
  head : e.ks.head? = some e.bd
  hd : Hd w e

theorem Good.of_blocks {d : Nat} {w w' : World} {e : Kid} (h : Good d w e) (hb : ∀ b ∈ e.own, w'.heap[b]? = w.heap[b]?) : Good d w' e := by
  refine { h with tree := h.tree.of_blocks hb, hd := ?_ }
  obtain ⟨kb, q, c, s, h1, h2, h3⟩ := h.hd
  exact ⟨kb, q, c, s, h1, h2.of_block (hb _ h.tree.node.1), rangeAt_of_block h3 (hb _ h1)⟩

theorem Good.kept {T : Nat → Prop} {d : Nat} {w w' : World} {e : Kid} (h : Good d w e) (k : Kept T w w') (hT : ∀ b ∈ e.own, ¬ T b) : Good d w' e := h.of_blocks fun b hb => k.block b (h.tree.lt b hb) (hT b hb)

theorem good_leaf {w : World} {nb : Nat} {ks own : List Nat} (T : Tree 0 33 33 w nb ks ks.length own) (h1 : 1 ≤ ks.length) (h2 : ks.length ≤ 32) : Good 0 w (ks.headD 0, nb, ks, ks.length, own) := by
  obtain ⟨v, rest, rfl⟩ : ∃ v rest, ks = v :: rest := by
    cases ks with
    | nil => simp at h1
    | cons v rest => exact ⟨v, rest, rfl⟩
  refine ⟨h1, h2, T, T.sorted.2 v (by simp), rfl, ?_⟩
  obtain ⟨kb, xs, L⟩ := T
  have hx : ∃ ys, xs = v :: ys := by
    cases xs with
    | nil => have := L.hTake; simp at this
    | cons x ys => have := L.hTake; simp at this; exact ⟨ys, by rw [this.1]⟩
  obtain ⟨ys, rfl⟩ := hx
  refine ⟨kb, _, _, _, by show kb ∈ own; rw [L.hOwn]; simp, L.hNode, ?_⟩
  show w.rangeAt kb 0 (idc v)
  exact L.hKeys.range (fun j u hu => by rw [ids_cons, Nat.zero_add, List.getElem?_append_left (List.getElem?_eq_some_iff.1 hu).1]; exact hu)

/-- A level: its nodes, in order; together they hold the keys ks. -/
structure Lev (d : Nat) (w : World) (es : List Kid) (ks : List Nat) : Prop where
  good : ∀ e ∈ es, Good d w e
  big : 1 < es.length → ∀ e ∈ es, 16 ≤ e.n
  two : 0 < d → ∀ e ∈ es, 2 ≤ e.n
  nodup : (ownOf es).Nodup
  keys : keysOf es = ks

theorem Lev.of_blocks {d : Nat} {w w' : World} {es : List Kid} {ks : List Nat} (h : Lev d w es ks) (hb : ∀ b ∈ ownOf es, w'.heap[b]? = w.heap[b]?) : Lev d w' es ks :=
  { h with good := fun e he => (h.good e he).of_blocks fun b hbb => hb b (mem_ownOf he hbb) }
theorem Lev.lt {d : Nat} {w : World} {es : List Kid} {ks : List Nat} (h : Lev d w es ks) : ∀ b ∈ ownOf es, b < w.heap.size := fun b hb => by
  obtain ⟨e, he, hb⟩ := List.mem_flatMap.1 hb
  exact (h.good e he).tree.lt b hb
theorem Lev.kept {T : Nat → Prop} {d : Nat} {w w' : World} {es : List Kid} {ks : List Nat} (h : Lev d w es ks) (k : Kept T w w') (hT : ∀ b ∈ ownOf es, ¬ T b) : Lev d w' es ks := h.of_blocks fun b hb => k.block b (h.lt b hb) (hT b hb)
theorem Lev.below {d : Nat} {w w' : World} {es : List Kid} {ks : List Nat} (h : Lev d w es ks) (k : Below w.heap.size w w') : Lev d w' es ks := h.of_blocks fun b hb => k.block b (h.lt b hb)

theorem ord_of : ∀ {es : List Kid}, (∀ e ∈ es, e.ks.head? = some e.bd) → (keysOf es).Pairwise (· < ·) → Ord es
  | [], _, _ => List.Pairwise.nil
  | a :: es, hh, hp => by
    rw [keysOf_cons, List.pairwise_append] at hp
    refine List.pairwise_cons.2 ⟨fun b hb => ?_, ord_of (fun e he => hh e (by simp [he])) hp.2.1⟩
    have hbh := hh b (by simp [hb])
    have hbm : b.bd ∈ b.ks := List.mem_of_head? hbh
    refine ⟨fun x hx => hp.2.2 x hx _ (mem_keysOf hb hbm), fun y hy => ?_⟩
    have hsub : b.ks.Pairwise (· < ·) := by
      have : b.ks.Sublist (keysOf es) := by
        obtain ⟨l1, l2, e⟩ := List.append_of_mem hb
        rw [e, keysOf_append, keysOf_cons]
        exact (List.sublist_append_left _ _).trans (List.sublist_append_right _ _)
      exact hp.2.1.sublist this
    cases hks : b.ks with
    | nil => rw [hks] at hy; cases hy
    | cons z zs =>
      rw [hks] at hbh hy hsub
      simp at hbh
      rw [← hbh]
      rcases List.mem_cons.1 hy with rfl | hy
      · exact Nat.le_refl _
      · exact Nat.le_of_lt ((List.pairwise_cons.1 hsub).1 y hy)

/-- The first level, whole. -/
theorem lev_zero {w : World} {L : List Kid} {ks : List Nat} {r : Nat} (hr : Runs ks.length r) (hpos : 1 ≤ ks.length) (pre : List (Fin r)) (hp : pre.map (·.1) = List.range r)
    (hk : L.map Kid.ks = pre.map fun x => seg ks (ks.length * x.1 / r) (ks.length * (x.1 + 1) / r)) (hg : ∀ e ∈ L, Good 0 w e) (hn : ∀ e ∈ L, e.n = e.ks.length) (hnd : (ownOf L).Nodup) : Lev 0 w L ks := by
  have hlen : L.length = r := by
    have h1 := congrArg List.length hk
    have h2 := congrArg List.length hp
    simp at h1 h2
    omega
  refine ⟨hg, fun h1 e he => ?_, fun h => absurd h (by omega), hnd, ?_⟩
  · have hm : e.ks ∈ L.map Kid.ks := List.mem_map_of_mem he
    rw [hk] at hm
    obtain ⟨x, _, hx⟩ := List.mem_map.1 hm
    have := hr.seg hpos x.2
    rw [hn e he, ← hx, seg_length _ _ _ this.2.1]
    exact this.2.2.2.1 (by omega)
  · unfold keysOf
    rw [List.flatMap_def, hk, ← List.flatMap_def]
    exact seg_flat ks _ r rfl hr.pos pre hp

/-- A new inner node over the nodes sub. -/
def Made (w : World) (e : Kid) (sub : List Kid) : Prop :=
  ∃ kb cb xs ps, Inner 33 33 w e.nb (keysOf sub) sub.length (e.nb :: kb :: cb :: ownOf sub) kb cb xs ps sub ∧ e.own = [e.nb, kb, cb] ∧ e.n = sub.length ∧ e.ks = keysOf sub ∧ (sub.map Kid.bd).head? = some e.bd

theorem Made.of_blocks {w w' : World} {e : Kid} {sub : List Kid} (h : Made w e sub) (hb : ∀ b ∈ e.own, w'.heap[b]? = w.heap[b]?) : Made w' e sub := by
  obtain ⟨kb, cb, xs, ps, hI, ho, hr⟩ := h
  rw [ho] at hb
  exact ⟨kb, cb, xs, ps, hI.of_blocks hb, ho, hr⟩
theorem Made.lt {w : World} {e : Kid} {sub : List Kid} (h : Made w e sub) : ∀ b ∈ e.own, b < w.heap.size := by
  obtain ⟨kb, cb, xs, ps, hI, ho, hr⟩ := h
  intro b hb
  rw [ho] at hb
  simp at hb
  rcases hb with rfl | rfl | rfl
  · exact hI.hNode.lt
  · exact hI.hKeys.lt
  · exact hI.hKids.lt

def full (e : Kid) (sub : List Kid) : Kid := (e.bd, e.nb, e.ks, e.n, e.own ++ ownOf sub)

theorem Made.good {d : Nat} {w : World} {e : Kid} {sub : List Kid} (h : Made w e sub) (hg : ∀ x ∈ sub, Good d w x) (hb : ∀ x ∈ sub, 16 ≤ x.n) (h1 : 1 ≤ sub.length) (h2 : sub.length ≤ 32) : Good (d + 1) w (full e sub) := by
  obtain ⟨kb, cb, xs, ps, hI, ho, hn, hk, hh⟩ := h
  obtain ⟨x, rest, rfl⟩ : ∃ x rest, sub = x :: rest := by
    cases sub with
    | nil => simp at h1
    | cons x rest => exact ⟨x, rest, rfl⟩
  have hx : x.bd = e.bd := by simpa using hh
  have gx := hg x (by simp)
  have hxs : ∃ ys, xs = e.bd :: ys := by
    have h3 := hI.hTake
    cases xs with
    | nil => simp at h3
    | cons z ys => simp at h3; exact ⟨ys, by rw [h3.1, hx]⟩
  obtain ⟨ys, rfl⟩ := hxs
  refine ⟨by show 1 ≤ e.n; rw [hn]; exact h1, by show e.n ≤ 32; rw [hn]; exact h2, ?_, by show e.bd < _; rw [← hx]; exact gx.small, ?_, ?_⟩
  · show Tree (d + 1) 33 33 w e.nb e.ks e.n (e.own ++ ownOf (x :: rest))
    rw [hn, hk, ho]
    exact ⟨kb, cb, _, ps, x :: rest, hI, fun y hy => ⟨hb y hy, (hg y hy).le, (hg y hy).tree⟩⟩
  · show e.ks.head? = some e.bd
    rw [hk, keysOf_cons, List.head?_append, gx.head, hx]
    rfl
  · refine ⟨kb, _, _, _, by show kb ∈ e.own ++ _; rw [ho]; simp, by show Blk w e.nb (nd (sl kb e.n 33) _ _ _) 63; rw [hn]; exact hI.hNode, ?_⟩
    show w.rangeAt kb 0 (idc e.bd)
    exact hI.hKeys.range (fun j u hu => by rw [ids_cons, Nat.zero_add, List.getElem?_append_left (List.getElem?_eq_some_iff.1 hu).1]; exact hu)

theorem own_zip {β : Type} (f : β → List Kid) : ∀ (L : List Kid) (pre : List β), L.length = pre.length → List.Perm (ownOf (List.zipWith (fun e x => full e (f x)) L pre)) (ownOf L ++ ownOf (pre.flatMap f))
  | [], [], _ => List.Perm.refl _
  | [], _ :: _, h => by simp at h
  | _ :: _, [], h => by simp at h
  | e :: L, x :: pre, h => by
    have ih := own_zip f L pre (by simpa using h)
    show List.Perm ((e.own ++ ownOf (f x)) ++ ownOf (List.zipWith (fun e x => full e (f x)) L pre)) ((e.own ++ ownOf L) ++ ownOf (f x ++ pre.flatMap f))
    rw [ownOf_append]
    refine (List.Perm.append_left _ ih).trans ?_
    rw [List.append_assoc, List.append_assoc]
    refine List.Perm.append_left _ ?_
    rw [← List.append_assoc, ← List.append_assoc]
    exact List.Perm.append_right _ List.perm_append_comm

theorem keys_zip {β : Type} (f : β → List Kid) : ∀ (L : List Kid) (pre : List β), L.length = pre.length → (∀ p ∈ L.zip pre, p.1.ks = keysOf (f p.2)) → keysOf (List.zipWith (fun e x => full e (f x)) L pre) = keysOf (pre.flatMap f)
  | [], [], _, _ => rfl
  | [], _ :: _, h, _ => by simp at h
  | _ :: _, [], h, _ => by simp at h
  | e :: L, x :: pre, h, hk => by
    have ih := keys_zip f L pre (by simpa using h) (fun p hp => hk p (by simp [hp]))
    have h1 := hk (e, x) (by simp)
    show e.ks ++ keysOf (List.zipWith (fun e x => full e (f x)) L pre) = keysOf (f x ++ pre.flatMap f)
    rw [ih, keysOf_append, h1]

theorem mem_zipWith {β γ δ : Type} {f : β → γ → δ} {l : List β} {m : List γ} {z : δ} (h : z ∈ List.zipWith f l m) : ∃ p ∈ l.zip m, z = f p.1 p.2 := by
  rw [← List.map_uncurry_zip_eq_zipWith] at h
  obtain ⟨p, hp, e⟩ := List.mem_map.1 h
  exact ⟨p, hp, e.symm⟩

/-- The next level, whole. -/
theorem lev_succ {d : Nat} {w : World} {es L : List Kid} {ks : List Nat} {r : Nat} (hL : Lev d w es ks) (h1 : 1 < es.length) (hr : Runs es.length r) (pre : List (Fin r)) (hp : pre.map (·.1) = List.range r)
    (hlen : L.length = pre.length) (hz : ∀ p ∈ L.zip pre, Made w p.1 (seg es (es.length * p.2.1 / r) (es.length * (p.2.1 + 1) / r))) (hnd : (ownOf L).Nodup) (hsep : ∀ b ∈ ownOf L, b ∉ ownOf es) :
    ∃ es', Lev (d + 1) w es' ks ∧ es'.length = r ∧ es'.map Kid.nb = L.map Kid.nb ∧ ∀ b ∈ ownOf es', b ∈ ownOf L ∨ b ∈ ownOf es := by
  have hpl : pre.length = r := by have := congrArg List.length hp; simpa using this
  have hfl := seg_flat es _ r rfl hr.pos pre hp
  have hperm := own_zip (fun x : Fin r => seg es (es.length * x.1 / r) (es.length * (x.1 + 1) / r)) L pre hlen
  rw [hfl] at hperm
  refine ⟨List.zipWith (fun e (x : Fin r) => full e (seg es (es.length * x.1 / r) (es.length * (x.1 + 1) / r))) L pre, ⟨?_, ?_, ?_, ?_, ?_⟩, by rw [List.length_zipWith]; omega, ?_, fun b hb => List.mem_append.1 (hperm.mem_iff.1 hb)⟩
  · intro e he
    obtain ⟨p, hpm, rfl⟩ := mem_zipWith he
    have h2 := hr.seg (by omega) p.2.2
    have hl := seg_length es (es.length * p.2.1 / r) (es.length * (p.2.1 + 1) / r) h2.2.1
    have hsub := seg_sublist es (es.length * p.2.1 / r) (es.length * (p.2.1 + 1) / r)
    exact (hz p hpm).good (fun x hx => hL.good x (hsub.mem hx)) (fun x hx => hL.big h1 x (hsub.mem hx)) (by omega) (by omega)
  · intro h3 e he
    rw [List.length_zipWith] at h3
    obtain ⟨p, hpm, rfl⟩ := mem_zipWith he
    have h2 := hr.seg (by omega) p.2.2
    have hl := seg_length es (es.length * p.2.1 / r) (es.length * (p.2.1 + 1) / r) h2.2.1
    obtain ⟨_, _, _, _, _, _, hn, _⟩ := hz p hpm
    show 16 ≤ p.1.n
    rw [hn, hl]
    exact h2.2.2.2.1 (by omega)
  · intro _ e he
    obtain ⟨p, hpm, rfl⟩ := mem_zipWith he
    have h2 := hr.seg (by omega) p.2.2
    have hl := seg_length es (es.length * p.2.1 / r) (es.length * (p.2.1 + 1) / r) h2.2.1
    obtain ⟨_, _, _, _, _, _, hn, _⟩ := hz p hpm
    show 2 ≤ p.1.n
    rw [hn, hl]
    by_cases h4 : 1 < r
    · have := h2.2.2.2.1 h4; omega
    · have := h2.2.2.2.2 (by have := hr.pos; omega); omega
  · rw [hperm.nodup_iff, List.nodup_append]
    exact ⟨hnd, hL.nodup, fun a ha b hb e => hsep a ha (e ▸ hb)⟩
  · rw [keys_zip _ L pre hlen (fun p hp => by obtain ⟨_, _, _, _, _, _, _, hk, _⟩ := hz p hp; exact hk), hfl, hL.keys]
  · rw [List.map_zipWith]
    clear hperm hfl hz hnd hsep hp hpl
    induction L generalizing pre with
    | nil => simp
    | cons e L ih =>
      cases pre with
      | nil => simp at hlen
      | cons x pre =>
        simp only [List.zipWith_cons_cons, List.map_cons]
        rw [ih pre (by simpa using hlen)]
        rfl
end Go.Proofs.Ybulkbqza
