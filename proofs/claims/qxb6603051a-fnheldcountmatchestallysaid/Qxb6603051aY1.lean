/-
  Seat b6603051a: the tally's model as a plain state; how its memory follows.
-/
import Derived.Test.Qxb6603051aY0
namespace Go.Proofs.Qxb6603051a
open Go.RowKit
set_option linter.unusedVariables false
set_option linter.unusedSimpArgs false

structure TS where
  N : List ByteArray
  FK : ByteArray → List ByteArray
  r0 : ByteArray → Int
  l0 : ByteArray → Int
  nr : ByteArray → Nat
  nl : ByteArray → Nat
  f0 : ByteArray → ByteArray → Int
  nf : ByteArray → ByteArray → Nat

def intV (z : Int) : Value := .int .i64 z
def cntV (n : Nat) : Value := .int .i64 (wrap64 n)

/-- A map that numbers the list. -/
def NumbL (mp : AMap) (D : List ByteArray) : Prop := ∀ x, aget mp x = (idx D x).map (fun i : Nat => Value.int .i64 i)

theorem idx_snocL (D : List ByteArray) (x y : ByteArray) : idx (D ++ [x]) y = (match idx D y with | some i => some i | none => if y = x then some D.length else none) := by
  induction D with
  | nil => simp [idx]
  | cons a D ih =>
    simp only [List.cons_append, idx, ih]
    by_cases e : y = a
    · simp [e]
    · simp only [e, if_false]
      cases idx D y with
      | some i => rfl
      | none =>
        simp only [Option.map_none]
        by_cases e' : y = x <;> simp [e']

theorem NumbL.nil : NumbL [] [] := fun x => rfl
theorem NumbL.snoc {mp : AMap} {D : List ByteArray} {x : ByteArray} (h : NumbL mp D) (hx : x ∉ D) : NumbL (aset mp x (.int .i64 (D.length : Int))) (D ++ [x]) := by
  intro y
  rw [aget_aset, idx_snocL, h]
  by_cases e : y = x
  · subst e
    rw [idx_none.2 hx]
    simp
  · rw [if_neg e]
    cases idx D y with
    | some i => rfl
    | none => simp [e]

/-- Of the plain state alone. -/
def TP (U : List ByteArray) (s : TS) : Prop :=
  s.N.Nodup ∧ (∀ a, (s.FK a).Nodup) ∧ (∀ a, a ∉ s.N → s.FK a = [] ∧ s.r0 a = 0 ∧ s.l0 a = 0 ∧ s.nr a = 0 ∧ s.nl a = 0) ∧ (∀ a k, k ∉ s.FK a → s.f0 a k = 0 ∧ s.nf a k = 0) ∧ (∀ a, a ∈ s.N → a ∈ U) ∧ (∀ a k, k ∈ s.FK a → k ∈ U)

/-- What the rows hold. -/
def TX (s : TS) (V : Nat → Value) (X : Nat → List Value) (FM : List (Nat × AMap)) : Prop :=
  X 0 = s.N.map Value.string ∧ X 1 = s.N.map (fun a => intV (s.r0 a)) ∧ X 2 = s.N.map (fun a => intV (s.l0 a)) ∧ X 3 = s.N.map (fun a => cntV (s.nr a)) ∧ X 4 = s.N.map (fun a => cntV (s.nl a)) ∧
  X 5 = (List.range s.N.length).map (fun e => V (9 + 3 * e)) ∧ X 6 = (List.range s.N.length).map (fun e => V (10 + 3 * e)) ∧ X 7 = (List.range s.N.length).map (fun e => V (11 + 3 * e)) ∧
  X 8 = FM.map (fun p => Value.map (some p.1)) ∧ FM.length = s.N.length ∧
  (∀ e a, s.N[e]? = some a → X (9 + 3 * e) = (s.FK a).map Value.string ∧ X (10 + 3 * e) = (s.FK a).map (fun k => intV (s.f0 a k)) ∧ X (11 + 3 * e) = (s.FK a).map (fun k => cntV (s.nf a k))) ∧
  (∀ x, 9 + 3 * s.N.length ≤ x → V x = .slice none 0 0 ∧ X x = [])

def TMaps (s : TS) (ma : Nat) (mp : AMap) (FM : List (Nat × AMap)) : Prop :=
  NumbL mp s.N ∧ (∀ (e : Nat) (p : Nat × AMap) a, FM[e]? = some p → s.N[e]? = some a → NumbL p.2 (s.FK a)) ∧ ((ma, mp) :: FM).Pairwise (fun p q => p.1 ≠ q.1)

def TM (w0 w : World) (gm : Nat) (U : List ByteArray) (s : TS) : Prop :=
  TP U s ∧ ∃ ma V X mp FM, RM w0 w gm ma V X ((ma, mp) :: FM) ∧ TX s V X FM ∧ TMaps s ma mp FM

theorem TM.later {w0 w w' : World} {gm : Nat} {U : List ByteArray} {s : TS} (h : TM w0 w gm U s) (hb : Below w.heap.size w w') : TM w0 w' gm U s := by
  obtain ⟨h1, ma, V, X, mp, FM, h2, h3, h4⟩ := h
  exact ⟨h1, ma, V, X, mp, FM, h2.later hb, h3, h4⟩

theorem len_le_of_sub : ∀ {N U : List ByteArray}, N.Nodup → (∀ a, a ∈ N → a ∈ U) → N.length ≤ U.length
  | [], U, _, _ => Nat.zero_le _
  | a :: N, U, hn, hs => by
    rw [List.nodup_cons] at hn
    obtain ⟨U1, U2, rfl⟩ := List.append_of_mem (hs a (.head _))
    have := len_le_of_sub (N := N) (U := U1 ++ U2) hn.2 (fun b hb => by
      have h1 := hs b (.tail _ hb)
      have hne : b ≠ a := fun e => hn.1 (e ▸ hb)
      simp only [List.mem_append, List.mem_cons] at h1 ⊢
      rcases h1 with h | h | h
      · exact .inl h
      · exact absurd h hne
      · exact .inr h)
    simp only [List.length_append, List.length_cons] at this ⊢
    omega

theorem map_upd_set {β : Type} {N : List ByteArray} (hn : N.Nodup) {f : ByteArray → β} {e : Nat} {a : ByteArray} (he : N[e]? = some a) (g : β → Value) (v : β) : (N.map fun x => g (f x)).set e (g v) = N.map fun x => g (upd f a v x) := by
  have hel : e < N.length := (List.getElem?_eq_some_iff.1 he).1
  apply List.ext_getElem?
  intro j
  rw [List.getElem?_set]
  simp only [List.length_map, List.getElem?_map]
  by_cases ej : e = j
  · subst ej
    simp only [hel, he, upd, if_true, Option.map_some]
  · simp only [ej, if_false]
    cases hj : N[j]? with
    | none => rfl
    | some b =>
      have hne : b ≠ a := fun eb => ej (by
        subst eb
        have h1 := idx_nodup hn he
        have h2 := idx_nodup hn hj
        rw [h1] at h2
        simpa using h2)
      simp [upd, hne]

end Go.Proofs.Qxb6603051a
