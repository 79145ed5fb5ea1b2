/-
  Seat b6603244a: ZZModelUses (32).
-/
import Derived.Test.Qxb6603244aU1
import Derived.Test.Qxb6603244aE0
namespace Go.Proofs.Qxb6603244a
open Go.RowKit
set_option linter.unusedVariables false
set_option linter.unusedSimpArgs false

theorem own_cells {w : World} {base size : Nat} {e : TypeId} {ao : Option Addr} {n c : Nat} {xs : List Value} (h : w.ownsRow base e size (.slice ao n c) n xs) : Rd w ao xs := by
  intro i u hu
  have hlt : i < xs.length := (List.getElem?_eq_some_iff.1 hu).1
  obtain ⟨h1, h2⟩ := h
  rcases h2 with ⟨hn, hn0⟩ | ⟨g, cap, cur, hv, h4, h5, h6⟩
  · subst hn0; simp at h1; subst h1; simp at hlt
  · cases hv
    refine ⟨g, 0, rfl, ?_⟩
    rw [Nat.zero_add, cell_of_block (xs := cur.toList) (e := e) (by simpa using h5)]
    rw [← h6.2.2.2, List.getElem?_take] at hu
    split at hu
    · exact hu
    · cases hu

theorem flatU_get : ∀ (l : List (Nat × Nat)) (j : Nat) (p : Nat × Nat), l[j]? = some p → (flatU l)[j * 2]? = some (.int .i64 (selT p)) ∧ (flatU l)[j * 2 + 1]? = some (.int .i64 (selC p))
  | [], j, p, h => by simp at h
  | x :: l, 0, p, h => by
    simp at h
    subst h
    exact ⟨rfl, rfl⟩
  | x :: l, j + 1, p, h => by
    have := flatU_get l j p (by simpa using h)
    have e : flatU (x :: l) = .int .i64 (x.1 : Int) :: .int .i64 (x.2 : Int) :: flatU l := rfl
    rw [e, show (j + 1) * 2 = j * 2 + 1 + 1 by omega, show j * 2 + 1 + 1 + 1 = (j * 2 + 1) + 1 + 1 by omega]
    simpa using this

/-- What ZZModelUses reads of the arcs. -/
theorem U2I.read {w w1 : World} {ga : Nat} {rv : Value} {R : List ByteArray} {steps : List (List ByteArray)} {D : List ByteArray} {n : Nat} (h : U2I w w1 ga rv R steps D n 0) :
    ∃ A : List (List (Nat × Nat)), AOK R steps D A n 0 ∧ w1.cell? ⟨w.heap.size, 0, none⟩ = some rv ∧ w1.cell? ⟨w.heap.size, 1, none⟩ = some (.slice (some ⟨ga, 0, none⟩) D.length D.length) ∧ w1.ownsRow (w.heap.size + 2) 9 1 rv D.length (D.map Value.string) ∧ Below w.heap.size w w1 ∧
      ∀ f, f < D.length → ∃ va vc, w1.cell? ⟨ga, f, none⟩ = some (.slice va (A.getD f []).length vc) ∧ ∀ j p, (A.getD f [])[j]? = some p → ∃ b, va = some ⟨b, 0, none⟩ ∧ w1.cell? ⟨b, j * 2, none⟩ = some (.int .i64 (selT p)) ∧ w1.cell? ⟨b, j * 2 + 1, none⟩ = some (.int .i64 (selC p)) := by
  obtain ⟨h1, h2, mp, vs, A, h3, h4, h5, h6, h7, h8, h9, h10⟩ := h
  have h3' : w1.heap[w.heap.size]? = some (.cells [rv, .slice (some ⟨ga, 0, none⟩) D.length D.length].toArray 98 (0, 0)) := by simpa using h3
  refine ⟨A, h10, ?_, ?_, h6, h1, fun f hf => ?_⟩
  · rw [cell_of_block h3']; rfl
  · rw [cell_of_block h3']; rfl
  · have hfA : f < A.length := by rw [h10.1]; exact hf
    have hfv : f < vs.length := by rw [h9.1]; exact hfA
    have eg : A.getD f [] = A[f] := by simp [hfA]
    have hrow := h9.2.1 f _ _ (List.getElem?_eq_getElem hfv) (List.getElem?_eq_getElem hfA)
    obtain ⟨va, vc, e, -, -⟩ := own_shape hrow
    rw [e] at hrow
    refine ⟨va, vc, ?_, fun j p hp => ?_⟩
    · rw [cell_of_block h8, List.getElem?_eq_getElem hfv, e, eg]
    · rw [eg] at hp
      obtain ⟨g1, g2⟩ := flatU_get _ _ _ hp
      obtain ⟨b, off, e1, c1⟩ := own_cells hrow _ _ g1
      obtain ⟨b', off', e2, c2⟩ := own_cells hrow _ _ g2
      rw [e1] at e2
      cases e2
      rcases hrow.2 with ⟨hn, _⟩ | ⟨g, cap, cur, hv, _⟩
      · rw [e1] at hn; cases hn
      · rw [e1] at hv
        simp only [Value.slice.injEq, Option.some.injEq, Addr.mk.injEq, and_true] at hv
        obtain ⟨⟨rfl, rfl⟩, -, -⟩ := hv
        exact ⟨b, e1, by simpa using c1, by simpa using c2⟩

end Go.Proofs.Qxb6603244a
