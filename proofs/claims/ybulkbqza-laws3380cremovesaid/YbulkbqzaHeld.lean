/-
  Seat b3380a. A region that draws its order: a condition S on the world that is kept till the last of the marked operations; a store that waits for all loads may break it.
-/
import Derived.Test.YbulkbqzaNode
namespace Go.Proofs.Ybulkbqza
open Go.RowKit
set_option linter.unusedVariables false

section
variable {P : Program} {ops : Array Oper} {Q : Exit → Act → World → Prop} {md : Region.Mode} {S : World → Prop} {B : Nat → Bool}

def wpAnyB (P : Program) (md : Region.Mode) (ops : Array Oper) (Q : Exit → Act → World → Prop) (S : World → Prop) (B : Nat → Bool) : Nat → Array Bool → Act → World → Prop
  | 0, listed, a, w => Region.ready md ops listed = [] ∧ Q .normal a w
  | fuel + 1, listed, a, w =>
    (Region.ready md ops listed = [] → Q .normal a w) ∧
    ∀ i ∈ Region.ready md ops listed, wpOp P ops Q i (fun a' w' => (B i = true → S w → S w') ∧ wpAnyB P md ops Q S B fuel (listed.setIfInBounds i true) a' w') a w

theorem wpAny_of_B : ∀ (fuel : Nat) (listed : Array Bool) (a : Act) (w : World), wpAnyB P md ops Q S B fuel listed a w → wpAny P md ops Q fuel listed a w
  | 0, _, _, _, h => h
  | fuel + 1, _, _, _, h => ⟨h.1, fun i hi => wpOp_mono (fun a' w' h' => wpAny_of_B fuel _ a' w' h'.2) (h.2 i hi)⟩

/-- Each operation that may break S waits for number i. -/
def waits (md : Region.Mode) (ops : Array Oper) (B : Nat → Bool) (i : Nat) : Bool :=
  (List.range ops.size).all fun j => j == i || B j || (match ops[j]? with | some o => o.after.toList.any (fun e => Region.binds md e && e.on == i) | none => true)

theorem waits_spec {i : Nat} (h : waits md ops B i = true) : ∀ (j : Nat) (oj : Oper), ops[j]? = some oj → j ≠ i → (∀ e ∈ oj.after, Region.binds md e = true → e.on ≠ i) → B j = true := by
  intro j oj hj hji hno
  have hlt : j < ops.size := by
    rcases Nat.lt_or_ge j ops.size with h1 | h1
    · exact h1
    · rw [Array.getElem?_eq_none h1] at hj; cases hj
  have h1 := (List.all_eq_true.1 h) j (List.mem_range.2 hlt)
  rw [hj] at h1
  simp only [Bool.or_eq_true, beq_iff_eq, List.any_eq_true, Bool.and_eq_true] at h1
  rcases h1 with (h1 | h1) | ⟨e, he, hb, hon⟩
  · exact absurd h1 hji
  · exact h1
  · exact absurd hon (hno e (by simpa using he) hb)

theorem wpAnyB_first {i : Nat} {oi : Oper} {v : Value} (hi : ops[i]? = some oi) (hsel : ∀ (j : Nat) (o : Oper) cs b, ops[j]? = some o → o.op ≠ .select cs b)
    (hQ : ∀ c a w, Q (.panic c) (a.put oi.dst v) w → Q (.panic c) a w)
    (hB : ∀ (j : Nat) (oj : Oper), ops[j]? = some oj → j ≠ i → (∀ e ∈ oj.after, Region.binds md e = true → e.on ≠ i) → B j = true) :
    ∀ (fuel : Nat) (listed : Array Bool) (a : Act) (w : World),
      (∀ j oj, ops[j]? = some oj → j ≠ i → listed.getD j true = false → (∀ e ∈ oj.after, Region.binds md e = true → e.on ≠ i) → oi.apart ops oj = true) →
      i ∈ Region.ready md ops listed → YieldsIf P ops S oi v a → S w →
      wpAnyB P md ops Q S B fuel (listed.setIfInBounds i true) (a.put oi.dst v) w → wpAnyB P md ops Q S B (fuel + 1) listed a w := by
  intro fuel
  induction fuel with
  | zero =>
    intro listed a w _ hr hy hS H
    refine ⟨fun h => (by rw [h] at hr; cases hr), fun j hj => ?_⟩
    by_cases hji : j = i
    · subst hji; exact hy.wpOp hi hS ⟨fun _ h => h, H⟩
    · have := ready_mono hj hji
      rw [H.1] at this
      cases this
  | succ fuel ih =>
    intro listed a w hfree hr hy hS H
    refine ⟨fun h => (by rw [h] at hr; cases hr), fun j hj => ?_⟩
    by_cases hji : j = i
    · subst hji; exact hy.wpOp hi hS ⟨fun _ h => h, H⟩
    · have h1 := H.2 j (ready_mono hj hji)
      obtain ⟨hjun, oj, hoj, hall⟩ := mem_ready.1 hj
      have hnot : ∀ e ∈ oj.after, Region.binds md e = true → e.on ≠ i := fun e he hb heq => by
        have h1 := hall e he hb
        have h0 := (mem_ready.1 hr).1
        rw [heq] at h1
        rcases Nat.lt_or_ge i listed.size with h' | h'
        · simp [h'] at h0 h1; rw [h0] at h1; cases h1
        · simp [Array.getElem?_eq_none h'] at h1
      have h2 := wpOp_putIf hoj (hfree j oj hoj hji hjun hnot) (fun cs b => hsel i oi cs b hi) (fun cs b => hsel j oj cs b hoj) hQ hy h1
      have hfree' : ∀ k ok, ops[k]? = some ok → k ≠ i → (listed.setIfInBounds j true).getD k true = false →
          (∀ e ∈ ok.after, Region.binds md e = true → e.on ≠ i) → oi.apart ops ok = true := fun k ok hk hki hun hno => by
        refine hfree k ok hk hki ?_ hno
        by_cases hjk : j = k
        · subst hjk; exact hjun
        · rw [getD_set_ne true hjk] at hun; exact hun
      refine wpOp_mono (fun a' w' h3 => ⟨h3.2.1, ih (listed.setIfInBounds j true) a' w' hfree' (ready_mono hr (Ne.symm hji)) h3.1 (h3.2.1 (hB j oj hoj hji hnot) hS) ?_⟩) h2
      rw [Array.setIfInBounds_comm _ _ hji]
      exact h3.2.2

theorem wpAnyB_take {i : Nat} {oi : Oper} {v : Value} {fuel : Nat} {listed : Array Bool} {a : Act} {w : World} (hi : ops[i]? = some oi)
    (hs : Region.noSelect ops = true) (hf : Region.free md ops listed i = true) (hr : (Region.ready md ops listed).contains i = true) (hw : waits md ops B i = true)
    (hQ : ∀ c a w, Q (.panic c) (a.put oi.dst v) w → Q (.panic c) a w) (hy : YieldsIf P ops S oi v a) (hS : S w)
    (h : wpAnyB P md ops Q S B fuel (listed.setIfInBounds i true) (a.put oi.dst v) w) : wpAnyB P md ops Q S B (fuel + 1) listed a w :=
  wpAnyB_first hi (Region.noSelect_spec hs) hQ (waits_spec hw) fuel listed a w (Region.free_spec hi hf) (by simpa using hr) hy hS h

theorem wpAnyB_firstW {i : Nat} {oi : Oper} {v : Value} (hi : ops[i]? = some oi) (hsel : ∀ (j : Nat) (o : Oper) cs b, ops[j]? = some o → o.op ≠ .select cs b)
    (hQ : ∀ c a w, Q (.panic c) (a.put oi.dst v) w → Q (.panic c) a w) :
    ∀ (fuel : Nat) (listed : Array Bool) (a : Act) (w : World),
      (∀ j oj, ops[j]? = some oj → j ≠ i → listed.getD j true = false → (∀ e ∈ oj.after, Region.binds md e = true → e.on ≠ i) → oi.apart ops oj = true) →
      i ∈ Region.ready md ops listed → YieldsIf P ops (fun _ => True) oi v a →
      wpAnyB P md ops Q S B fuel (listed.setIfInBounds i true) (a.put oi.dst v) w → wpAnyB P md ops Q S B (fuel + 1) listed a w := by
  intro fuel
  induction fuel with
  | zero =>
    intro listed a w _ hr hy H
    refine ⟨fun h => (by rw [h] at hr; cases hr), fun j hj => ?_⟩
    by_cases hji : j = i
    · subst hji; exact hy.wpOp hi trivial ⟨fun _ h => h, H⟩
    · have := ready_mono hj hji
      rw [H.1] at this
      cases this
  | succ fuel ih =>
    intro listed a w hfree hr hy H
    refine ⟨fun h => (by rw [h] at hr; cases hr), fun j hj => ?_⟩
    by_cases hji : j = i
    · subst hji; exact hy.wpOp hi trivial ⟨fun _ h => h, H⟩
    · have h1 := H.2 j (ready_mono hj hji)
      obtain ⟨hjun, oj, hoj, hall⟩ := mem_ready.1 hj
      have hnot : ∀ e ∈ oj.after, Region.binds md e = true → e.on ≠ i := fun e he hb heq => by
        have h1 := hall e he hb
        have h0 := (mem_ready.1 hr).1
        rw [heq] at h1
        rcases Nat.lt_or_ge i listed.size with h' | h'
        · simp [h'] at h0 h1; rw [h0] at h1; cases h1
        · simp [Array.getElem?_eq_none h'] at h1
      have h2 := wpOp_putIf hoj (hfree j oj hoj hji hjun hnot) (fun cs b => hsel i oi cs b hi) (fun cs b => hsel j oj cs b hoj) hQ hy h1
      have hfree' : ∀ k ok, ops[k]? = some ok → k ≠ i → (listed.setIfInBounds j true).getD k true = false →
          (∀ e ∈ ok.after, Region.binds md e = true → e.on ≠ i) → oi.apart ops ok = true := fun k ok hk hki hun hno => by
        refine hfree k ok hk hki ?_ hno
        by_cases hjk : j = k
        · subst hjk; exact hjun
        · rw [getD_set_ne true hjk] at hun; exact hun
      refine wpOp_mono (fun a' w' h3 => ⟨h3.2.1, ih (listed.setIfInBounds j true) a' w' hfree' (ready_mono hr (Ne.symm hji)) h3.1 ?_⟩) h2
      rw [Array.setIfInBounds_comm _ _ hji]
      exact h3.2.2

/-- What yields in whatever world. -/
theorem wpAnyB_takeW {i : Nat} {oi : Oper} {v : Value} {fuel : Nat} {listed : Array Bool} {a : Act} {w : World} (hi : ops[i]? = some oi)
    (hs : Region.noSelect ops = true) (hf : Region.free md ops listed i = true) (hr : (Region.ready md ops listed).contains i = true)
    (hQ : ∀ c a w, Q (.panic c) (a.put oi.dst v) w → Q (.panic c) a w) (hy : YieldsIf P ops (fun _ => True) oi v a)
    (h : wpAnyB P md ops Q S B fuel (listed.setIfInBounds i true) (a.put oi.dst v) w) : wpAnyB P md ops Q S B (fuel + 1) listed a w :=
  wpAnyB_firstW hi (Region.noSelect_spec hs) hQ fuel listed a w (Region.free_spec hi hf) (by simpa using hr) hy h

theorem wpAnyB_done {listed : Array Bool} {a : Act} {w : World} (hr : Region.ready md ops listed = []) (h : Q .normal a w) :
    ∀ fuel, wpAnyB P md ops Q S B fuel listed a w
  | 0 => ⟨hr, h⟩
  | _ + 1 => ⟨fun _ => h, by rw [hr]; simp⟩

/-- The only operation that may come up. -/
theorem wpAnyB_step {i : Nat} {o : Oper} {fuel : Nat} {listed : Array Bool} {a : Act} {w : World} (hr : Region.ready md ops listed = [i]) (ho : ops[i]? = some o)
    (h : ∀ K' : Act → World → Prop, Shut (∀ a' w', (B i = true → S w → S w') → wpAnyB P md ops Q S B fuel (listed.setIfInBounds i true) a' w' → K' a' w') → if Region.wanted o (yielded ops a.tmps) = true then Oper.wp P o a w K' Q else K' (a.put o.dst undef) w) :
    wpAnyB P md ops Q S B (fuel + 1) listed a w :=
  ⟨fun h0 => (by rw [hr] at h0; cases h0), fun j hj => (by
    rw [hr] at hj
    obtain rfl : j = i := (by simpa using hj)
    exact wpOp_step ho (fun K' hK => h K' (fun a w hS hW => hK a w ⟨hS, hW⟩)))⟩

theorem wp_region_B {id : Nat} {a : Act} {w : World} (S : World → Prop) (B : Nat → Bool) (hm : P.follows .mixedOrders = true) (hS : S w.drew)
    (h : S w.drew → wpAnyB P .any ops Q S B ops.size (Array.replicate ops.size false) a w.drew) : (Code.region id ops true).wp P Q a w :=
  wp_region_any hm (wpAny_of_B _ _ _ _ (h hS))

/-- An operation that is not wanted, or whose run is told, among the steps. -/
theorem wpAnyB_load47 {i : Nat} {oi : Oper} {fuel : Nat} {listed : Array Bool} {a : Act} {w : World} (hi : ops[i]? = some oi)
    (hs : Region.noSelect ops = true) (hf : Region.free md ops listed i = true) (hr : (Region.ready md ops listed).contains i = true) (hwt : waits md ops B i = true)
    (b o s : Nat) (x : Operand) (ho : oi.op = .load 47 x) (hx : a.eval x = .pointer (some ⟨b, o, none⟩)) (hQ : ∀ c a w, Q (.panic c) (a.put oi.dst (.agg (dgc s).toArray)) w → Q (.panic c) a w)
    (hw : Region.wanted oi (yielded ops a.tmps) = true) (hc : ∀ w, S w → w.rangeAt b o (dgc s)) (hS : S w)
    (h : wpAnyB Yba.prog md ops Q S B fuel (listed.setIfInBounds i true) (a.put oi.dst (.agg (dgc s).toArray)) w) : wpAnyB Yba.prog md ops Q S B (fuel + 1) listed a w :=
  wpAnyB_take hi hs hf hr hwt hQ (yieldsIf_load_mid hw 47 x ho b o hx (dgc s) _ hc Yba.underlying47 rfl (by rw [dgc_length]; exact info47)) hS h
theorem wpAnyB_load30 {i : Nat} {oi : Oper} {fuel : Nat} {listed : Array Bool} {a : Act} {w : World} (hi : ops[i]? = some oi)
    (hs : Region.noSelect ops = true) (hf : Region.free md ops listed i = true) (hr : (Region.ready md ops listed).contains i = true) (hwt : waits md ops B i = true)
    (b o s : Nat) (x : Operand) (ho : oi.op = .load 30 x) (hx : a.eval x = .pointer (some ⟨b, o, none⟩)) (hQ : ∀ c a w, Q (.panic c) (a.put oi.dst (.agg (idc s).toArray)) w → Q (.panic c) a w)
    (hw : Region.wanted oi (yielded ops a.tmps) = true) (hc : ∀ w, S w → w.rangeAt b o (idc s)) (hS : S w)
    (h : wpAnyB Yba.prog md ops Q S B fuel (listed.setIfInBounds i true) (a.put oi.dst (.agg (idc s).toArray)) w) : wpAnyB Yba.prog md ops Q S B (fuel + 1) listed a w :=
  wpAnyB_take hi hs hf hr hwt hQ (yieldsIf_load_mid hw 30 x ho b o hx (idc s) _ hc Yba.underlying30 rfl (by rw [idc_length]; exact info30)) hS h

/-- A store of a digest, of an id, as a step of a region that draws. -/
theorem step_st47 {o : Oper} {a : Act} {w : World} {K : Act → World → Prop} {E : Prop} (hg : o.guard = none) (hd : o.dst = none) (x y : Operand) (ho : o.op = .store 47 x y) (b off s : Nat)
    (hx : a.eval x = .pointer (some ⟨b, off, none⟩)) (hy : a.eval y = .agg (dgc s).toArray) (hT : w.there b off 32) (hK : K a (w.setCells b off (dgc s))) :
    if Region.wanted o (yielded ops a.tmps) = true then Oper.wp Yba.prog o a w K Q else E := by
  have hw : Region.wanted o (yielded ops a.tmps) = true := by simp [Region.wanted, hg]
  rw [if_pos hw]
  exact wp_store_mid 47 x y ho b off (dgc s).toArray hx hy (by simpa [dgc_length] using hT) (by simpa [dgc_length] using info47) (all_oneCell_toArray (dgc_one s)) (by rw [hd]; exact hK)
theorem step_st30 {o : Oper} {a : Act} {w : World} {K : Act → World → Prop} {E : Prop} (hg : o.guard = none) (hd : o.dst = none) (x y : Operand) (ho : o.op = .store 30 x y) (b off s : Nat)
    (hx : a.eval x = .pointer (some ⟨b, off, none⟩)) (hy : a.eval y = .agg (idc s).toArray) (hT : w.there b off 20) (hK : K a (w.setCells b off (idc s))) :
    if Region.wanted o (yielded ops a.tmps) = true then Oper.wp Yba.prog o a w K Q else E := by
  have hw : Region.wanted o (yielded ops a.tmps) = true := by simp [Region.wanted, hg]
  rw [if_pos hw]
  exact wp_store_mid 30 x y ho b off (idc s).toArray hx hy (by simpa [idc_length] using hT) (by simpa [idc_length] using info30) (all_oneCell_toArray (idc_one s)) (by rw [hd]; exact hK)
end
end Go.Proofs.Ybulkbqza
