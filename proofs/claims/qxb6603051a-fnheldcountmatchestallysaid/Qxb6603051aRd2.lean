/-
  Seat b6603051a: from the row's readings of the arguments to 'Slc' (for FnHeldCountMatchesTally).
-/
import Derived.Test.Qxb6603051aG1
import Derived.ProofKit
import Derived.OpenShut
import Derived.Deep.Slices
import Derived.ShutString
import Derived.ChangeOld
namespace Go.Proofs.Qxb6603051a
open Go.ChangeShapes Go.WideShapes Go.ChangeAt Go.RowKit Go.Deep
set_option linter.unusedVariables false

section
variable {H : Type} {enc : TypeId × Value → H} {P : Program} {w : World} {base : Nat} {spare : Nat → Bool} {held : Bool}

theorem list_of_fn {α : Type} [Inhabited α] (n : Nat) (f : Nat → α) : ∃ xs : List α, xs.length = n ∧ ∀ i, i < n → xs[i]? = some (f i) :=
  ⟨(List.range n).map f, by simp, fun i hi => by simp [hi]⟩

/-- A slice of one-cell elements, as its elements' reader says. -/
theorem slc_of_trod {α : Type} [Inhabited α] {E : World → Value → α → Prop} {Q : α → Prop} {t e : TypeId} (ht : P.underlying t = some (.slice e)) (hc : P.cellsOf e = 1)
    (hE : ∀ n u y, DataW.trod enc P w base spare held n e [u] = some y → ∃ z, E w u z ∧ Q z) {fuel : Nat} {v : Value} {x : DataW H × List MemPlace} (h : DataW.trod enc P w base spare held fuel t [v] = some x) :
    ∃ xs, Slc E w v xs ∧ (∀ z ∈ xs, Q z) ∧ xs.length ≤ 9223372036854775807 := by
  rcases open_slice1 ht hc h with ⟨hv, _⟩ | ⟨a, len, cap, m, n, V, D, Pl, hv, hb, hl, hm, hmm, _, hx⟩
  · simp only [List.cons.injEq, and_true] at hv
    subst hv
    exact ⟨[], ⟨none, 0, 0, rfl, rfl, Nat.le_refl _, fun _ => ⟨rfl, rfl⟩, fun i x h => by simp at h⟩, (fun z hz => by cases hz), by simp⟩
  · simp only [List.cons.injEq, and_true] at hv
    subst hv
    have hlm : len ≤ m := by rw [hmm]; split <;> omega
    have hz : ∀ i, i < len → ∃ z, E w (V i) z ∧ Q z := fun i hi => hE n (V i) _ (hx i (by omega)).2
    obtain ⟨f, hf⟩ := choose_lt hz
    obtain ⟨xs, hxl, hxs⟩ := list_of_fn len f
    refine ⟨xs, ⟨some a, len, cap, rfl, hxl, hl, (fun h => by cases h), fun i x hi => ?_⟩, fun z hz => ?_, by unfold maxLen at hm; omega⟩
    · have hil : i < len := by have := (List.getElem?_eq_some_iff.1 hi).1; omega
      rw [hxs i hil] at hi
      simp only [Option.some.injEq] at hi
      subst hi
      have hcell := (hx i (by omega)).1
      obtain ⟨b, off, spot⟩ := a
      have e0 := (hx 0 (by omega)).1
      have hspot : spot = none := by simpa [Addr.add] using World.cell?_spot e0
      subst hspot
      rw [Addr.add_lit] at hcell
      exact ⟨b, off, V i, rfl, hcell, (hf i hil).1⟩
    · obtain ⟨i, hi, rfl⟩ := List.getElem_of_mem hz
      have := hxs i (by omega)
      rw [List.getElem?_eq_getElem hi] at this
      simp only [Option.some.injEq] at this
      rw [this]
      exact (hf i (by omega)).2

theorem str_of_trod {e : TypeId} (he : P.underlying e = some .string) : ∀ n u y, DataW.trod enc P w base spare held n e [u] = some y → ∃ z, EStr w u z ∧ z.size ≤ 9223372036854775807 := by
  intro n u y h
  obtain ⟨s, hs, _, hm⟩ := DataW.trod_string he h
  simp only [List.cons.injEq, and_true] at hs
  exact ⟨s, hs, by unfold maxLen at hm; omega⟩

theorem int_of_trod {e : TypeId} (he : P.underlying e = some (.int .i64)) : ∀ n u y, DataW.trod enc P w base spare held n e [u] = some y → ∃ z, EInt w u z ∧ (-9223372036854775808 ≤ z ∧ z ≤ 9223372036854775807) := by
  intro n u y h
  obtain ⟨s, hs, _, hm⟩ := DataW.trod_int he h
  simp only [List.cons.injEq, and_true] at hs
  refine ⟨s, hs, ?_⟩
  exact bounds_i64 hm

theorem bool_of_trod {e : TypeId} (he : P.underlying e = some .bool) : ∀ n u y, DataW.trod enc P w base spare held n e [u] = some y → ∃ z, EBool w u z ∧ True := by
  intro n u y h
  obtain ⟨s, hs, _⟩ := DataW.trod_bool he h
  simp only [List.cons.injEq, and_true] at hs
  exact ⟨s, hs, trivial⟩

theorem strs_of_trod {t e : TypeId} (ht : P.underlying t = some (.slice e)) (hc : P.cellsOf e = 1) (he : P.underlying e = some .string) : ∀ n u y, DataW.trod enc P w base spare held n t [u] = some y → ∃ z, Strs w u z ∧ (okS z ∧ z.length ≤ 9223372036854775807) := by
  intro n u y h
  obtain ⟨xs, h1, h2, h3⟩ := slc_of_trod ht hc (str_of_trod he) h
  exact ⟨xs, h1, h2, h3⟩

theorem intss_of_trod {t e : TypeId} (ht : P.underlying t = some (.slice e)) (hc : P.cellsOf e = 1) (he : P.underlying e = some (.int .i64)) : ∀ n u y, DataW.trod enc P w base spare held n t [u] = some y → ∃ z, Ints w u z ∧ ((∀ x ∈ z, -9223372036854775808 ≤ x ∧ x ≤ 9223372036854775807) ∧ z.length ≤ 9223372036854775807) := by
  intro n u y h
  obtain ⟨xs, h1, h2, h3⟩ := slc_of_trod ht hc (int_of_trod he) h
  exact ⟨xs, h1, h2, h3⟩
end

end Go.Proofs.Qxb6603051a
