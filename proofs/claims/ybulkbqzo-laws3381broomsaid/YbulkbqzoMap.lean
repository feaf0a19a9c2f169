/-
  Seat b3381a. The map r.index: a map[string]int that the call makes, as a function from names to numbers.
-/
import Derived.Test.YbulkbqzoRows
import Derived.WalkKit
import Derived.Maps.OwnSet
import Derived.StringKeys
import Derived.Deep.Draws
namespace Go.Proofs.Ybulkbqzo
open Go.RowKit Go.Maps Go.WideMaps
set_option linter.unusedVariables false

theorem keyed9 : Keyed Yba.prog 9 := string_keyed Yba.underlying9
theorem zero3 (w : World) : (zeroValue 3).run Yba.prog w = .ok (.int .i64 0) w := by kernel_rfl

/-- Block b is a map of n entries; the name l leads to 'f l'. -/
def MapIs (w : World) (b : Nat) (f : List UInt8 → Option Nat) (n : Nat) : Prop :=
  ∃ D : DataW Unit, w.ownsMap Yba.prog 9 (plainElem Yba.prog 3) b n D ∧ Maps.size D = n ∧
    ∀ l : List UInt8, Maps.has D (.string l) = (f l).isSome ∧ ∀ v : Nat, f l = some v → D.atKey (.string l) (.lit (.int .i64 0)) = .lit (.int .i64 v)

theorem ownsMap_tight {w : World} {b n : Nat} {D : DataW Unit} (h : w.ownsMap Yba.prog 9 (plainElem Yba.prog 3) b n D) : w.ownsMap Yba.prog 9 (plainElem Yba.prog 3) b (Maps.size D) D := by
  obtain ⟨es, clock, hb, F, hs, rfl⟩ := h
  exact ⟨es, clock, hb, F, by simp [Maps.size, length_sorted], rfl⟩

theorem MapIs.made (w : World) : MapIs (w.alloc (.map #[] 0)) w.heap.size (fun _ => none) 0 :=
  ⟨.map [], World.ownsMap_made w _ _ _, rfl, fun l => ⟨rfl, fun v h => by cases h⟩⟩

theorem MapIs.lt {w : World} {b : Nat} {f : List UInt8 → Option Nat} {n : Nat} (h : MapIs w b f n) : b < w.heap.size := by
  obtain ⟨D, h1, _⟩ := h
  exact h1.lt

theorem MapIs.of_block {w w' : World} {b : Nat} {f : List UInt8 → Option Nat} {n : Nat} (h : MapIs w b f n) (hb : w'.heap[b]? = w.heap[b]?) : MapIs w' b f n := by
  obtain ⟨D, h1, h2, h3⟩ := h
  obtain ⟨es, clock, hb1, r⟩ := h1
  exact ⟨D, ⟨es, clock, hb.trans hb1, r⟩, h2, h3⟩

theorem MapIs.notCell {w : World} {b : Nat} {f : List UInt8 → Option Nat} {n : Nat} (h : MapIs w b f n) (o : Nat) : w.cell? ⟨b, o, none⟩ = none := by
  obtain ⟨D, h1, h2, h3⟩ := h
  obtain ⟨es, clock, hb1, r⟩ := h1
  simp [World.cell?, hb1]

theorem MapIs.look {w : World} {b : Nat} {f : List UInt8 → Option Nat} {n : Nat} (h : MapIs w b f n) (s : ByteArray) (hs : s.size ≤ maxLen) :
    (Instr.lookup 34 (.map (some b)) (.string s) true).run Yba.prog w = .ok (.tuple #[.int .i64 ((f s.data.toList).getD 0 : Nat), .bool (f s.data.toList).isSome]) w := by
  obtain ⟨D, h1, h2, h3⟩ := h
  obtain ⟨v, ps, hrun, hv⟩ := h1.look_ok keyed9 Yba.underlying34 (zero3 w) (zd := .lit (.int .i64 0)) (zp := []) (plainElem_int Yba.underlying3 (by decide)) (keyOf_string_mk Yba.underlying9 hs)
  obtain ⟨c, rfl, hc, hwc⟩ := plainElem_int_inv Yba.underlying3 hv
  have hat : D.atKey (.string s.data.toList) (.lit (.int .i64 0)) = .lit (.int .i64 c) := congrArg Prod.fst hc
  rw [hrun, (h3 _).1]
  cases hf : f s.data.toList with
  | none =>
    have := atKey_of_not_has (H := Unit) (D := D) (k := .string s.data.toList) (by rw [(h3 _).1, hf]; rfl) (.lit (.int .i64 0))
    rw [this] at hat
    have e : c = 0 := by injection hat with e1; injection e1 with _ e2; exact e2.symm
    subst e
    rfl
  | some m =>
    have := (h3 _).2 m hf
    rw [this] at hat
    have e : c = m := by injection hat with e1; injection e1 with _ e2; exact e2.symm
    subst e
    rfl

theorem MapIs.len {w : World} {b : Nat} {f : List UInt8 → Option Nat} {n : Nat} (h : MapIs w b f n) (ty : TypeId) : (Builtin.len_ #[34] ty #[.map (some b)]).run Yba.prog w = .ok (.int .i64 n) w := by
  obtain ⟨D, h1, h2, h3⟩ := h
  rw [h1.len Yba.underlying34 ty, h2]

theorem MapIs.store {w : World} {b : Nat} {f : List UInt8 → Option Nat} {n : Nat} (h : MapIs w b f n) (hn : n < maxLen) (s : ByteArray) (hs : s.size ≤ maxLen) (v : Nat) (hv : v ≤ 9223372036854775807) :
    ∃ w', (Instr.mapUpdate 34 (.map (some b)) (.string s) (.int .i64 v)).run Yba.prog w = .ok () w' ∧ MapIs w' b (fun l => if l = s.data.toList then some v else f l) (if (f s.data.toList).isSome then n else n + 1) ∧ w.mapTurned w' b := by
  obtain ⟨D, h1, h2, h3⟩ := h
  obtain ⟨w', hrun, ho, ht⟩ := h1.store keyed9 Yba.underlying34 hn (keyOf_string_mk Yba.underlying9 hs) (plainElem_int Yba.underlying3 (a := (v : Int)) (WalkArith.wf_i64 (by omega)))
  have hsz : Maps.size (D.put (.string s.data.toList) (.lit (.int .i64 v))) = if (f s.data.toList).isSome then n else n + 1 := by
    rw [size_put (h1.tidy keyed9), (h3 _).1, h2]
  refine ⟨w', hrun, ⟨_, hsz ▸ ownsMap_tight ho, hsz, fun l => ?_⟩, ht⟩
  by_cases hl : l = s.data.toList
  · subst hl
    refine ⟨by rw [has_put_same h1.isMap (by trivial)]; simp, fun v' hv' => ?_⟩
    simp at hv'
    subst hv'
    exact atKey_put_same h1.isMap (by trivial) _ _
  · have hne : (Lit.string l) ≠ .string s.data.toList := fun e => hl (by injection e)
    refine ⟨by rw [has_put_other hne, (h3 l).1]; simp [hl], fun v' hv' => ?_⟩
    simp only [if_neg hl] at hv'
    rw [atKey_put_other hne]
    exact (h3 l).2 v' hv'

end Go.Proofs.Ybulkbqzo
