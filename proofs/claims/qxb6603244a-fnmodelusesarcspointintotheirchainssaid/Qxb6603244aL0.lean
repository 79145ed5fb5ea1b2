/-
  Seat b6603244a: the plain laws of the law: first appearance, the count of arcs.
-/
import Derived.Test.Qxb6603244aE2
namespace Go.Proofs.Qxb6603244a
open Go.RowKit
set_option linter.unusedVariables false
set_option linter.unusedSimpArgs false

/-- D stands in the order of first appearance in l. -/
def Ord (l D : List ByteArray) : Prop := ∀ (a b : Nat) x y, a < b → D[a]? = some x → D[b]? = some y → ∃ i j, idx l x = some i ∧ idx l y = some j ∧ i < j

theorem ord_take (R : List ByteArray) : ∀ k, k ≤ R.length → Ord (R.take k) (dd (R.take k))
  | 0, _ => by
    intro a b x y _ hx _
    simp [dd] at hx
  | k + 1, hk => by
    have ih := ord_take R k (by omega)
    have hk' : k < R.length := by omega
    have hmem : ∀ z, z ∈ dd (R.take k) ↔ z ∈ R.take k := dd_mem _
    rw [dd_succ hk', List.take_succ_eq_append_getElem hk']
    have up : ∀ z i, idx (R.take k) z = some i → idx (R.take k ++ [R[k]]) z = some i := fun z i h => by rw [idx_snoc, h]
    unfold ddStep
    cases hx : idx (dd (R.take k)) R[k] with
    | some f =>
      simp only [Option.isSome_some, if_true]
      intro a b x y hab ha hb
      obtain ⟨i, j, h1, h2, h3⟩ := ih a b x y hab ha hb
      exact ⟨i, j, up _ _ h1, up _ _ h2, h3⟩
    | none =>
      simp only [Option.isSome_none, Bool.false_eq_true, if_false]
      have hnot : idx (R.take k) R[k] = none := by
        rw [idx_none] at hx ⊢
        exact fun h => hx ((hmem _).2 h)
      intro a b x y hab ha hb
      have hbl : b < (dd (R.take k) ++ [R[k]]).length := (List.getElem?_eq_some_iff.1 hb).1
      simp only [List.length_append, List.length_cons, List.length_nil] at hbl
      rw [List.getElem?_append_left (by omega)] at ha
      by_cases hbb : b < (dd (R.take k)).length
      · rw [List.getElem?_append_left hbb] at hb
        obtain ⟨i, j, h1, h2, h3⟩ := ih a b x y hab ha hb
        exact ⟨i, j, up _ _ h1, up _ _ h2, h3⟩
      · rw [List.getElem?_append_right (by omega), show b - (dd (R.take k)).length = 0 by omega] at hb
        simp only [List.getElem?_cons_zero, Option.some.injEq] at hb
        subst hb
        have hxm : x ∈ R.take k := (hmem x).1 (List.mem_of_getElem? ha)
        cases hi : idx (R.take k) x with
        | none => rw [idx_none] at hi; exact absurd hxm hi
        | some i =>
          refine ⟨i, (R.take k).length, up _ _ hi, by rw [idx_snoc, hnot]; simp, idx_lt hi⟩

theorem ord_dd (R : List ByteArray) : Ord R (dd R) := by
  have := ord_take R R.length (Nat.le_refl _)
  rw [List.take_length] at this
  exact this

/-- Each relation stands once. -/
theorem idx_dd_self (R : List ByteArray) {k : Nat} {x : ByteArray} (h : (dd R)[k]? = some x) : idx (dd R) x = some k := by
  refine idx_at h (fun j hj e => ?_)
  obtain ⟨i, i', h1, h2, h3⟩ := ord_dd R j k x x hj e h
  rw [h1] at h2
  cases h2
  omega

theorem idx_R_of_dd (R : List ByteArray) {k : Nat} {x : ByteArray} (h : (dd R)[k]? = some x) : ∃ i, idx R x = some i := by
  cases e : idx R x with
  | some i => exact ⟨i, rfl⟩
  | none =>
    rw [idx_none] at e
    exact absurd ((dd_mem R x).1 (List.mem_of_getElem? h)) e

theorem isSome_dd (R : List ByteArray) (s : ByteArray) : (idx (dd R) s).isSome = (idx R s).isSome := by
  cases e : idx R s with
  | none =>
    have : idx (dd R) s = none := by rw [idx_none, dd_mem, ← idx_none]; exact e
    rw [this]
  | some i =>
    cases e' : idx (dd R) s with
    | some j => rfl
    | none =>
      rw [idx_none, dd_mem, ← idx_none, e] at e'
      cases e'

end Go.Proofs.Qxb6603244a
