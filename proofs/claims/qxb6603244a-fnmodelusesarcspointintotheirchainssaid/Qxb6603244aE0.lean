/-
  Seat b6603244a: the rows of ZZModelUses: a family of rows of integers, no two in one block, under two heads.
-/
import Derived.Test.Qxb6603244aU2
namespace Go.Proofs.Qxb6603244a
open Go.RowKit
set_option linter.unusedVariables false
set_option linter.unusedSimpArgs false

/-- The rows vs hold the integers XS, each in a block of its own. -/
def FamI (w : World) (base : Nat) (vs : List Value) (XS : List (List Int)) : Prop :=
  vs.length = XS.length ∧ (∀ (f : Nat) v a, vs[f]? = some v → XS[f]? = some a → w.ownsRow base 3 1 v a.length (a.map (Value.int .i64))) ∧
    (∀ (f f' : Nat) v v' b, vs[f]? = some v → vs[f']? = some v' → v.ownBlock = some b → v'.ownBlock = some b → f = f')

theorem FamI.nil (w : World) (base n : Nat) : FamI w base (List.replicate n (.slice none 0 0)) (List.replicate n []) := by
  refine ⟨by simp, fun f v a hv ha => ?_, fun f f' v v' b hv hv' hb hb' => ?_⟩
  · have e1 := List.eq_of_mem_replicate (List.mem_of_getElem? hv)
    have e2 := List.eq_of_mem_replicate (List.mem_of_getElem? ha)
    subst e1 e2
    exact World.ownsRow_nil _ _ _ _
  · have e1 := List.eq_of_mem_replicate (List.mem_of_getElem? hv)
    subst e1
    simp [Value.ownBlock] at hb

theorem FamI.keep {w w' : World} {base : Nat} {vs : List Value} {A : List (List Int)} (h : FamI w base vs A) (hb : ∀ g, base ≤ g → g < w.heap.size → w'.heap[g]? = w.heap[g]?) : FamI w' base vs A :=
  ⟨h.1, fun f v a hv ha => own_keep (h.2.1 f v a hv ha) (fun g h1 h2 _ => hb g h1 h2), h.2.2⟩

theorem FamI.push {w w1 w' : World} {base f H : Nat} {vs : List Value} {A : List (List Int)} {v v' : Value} {a : List Int} {p : Int} (h : FamI w base vs A) (hv : vs[f]? = some v) (ha : A[f]? = some a)
    (hw1 : ∀ g, g < w.heap.size → w1.heap[g]? = w.heap[g]?) (hs1 : w.heap.size ≤ w1.heap.size) (hH : w1.heap.size = H)
    (hown : w'.ownsRow base 3 1 v' (a.length + 1) (a.map (Value.int .i64) ++ [.int .i64 p])) (hg : w1.grownBy w' v.ownBlock) (hat : v'.ownBlock = v.ownBlock ∨ v'.ownBlock = some H) :
    FamI w' base (vs.set f v') (A.set f (a ++ [p])) := by
  have hf : f < vs.length := (List.getElem?_eq_some_iff.1 hv).1
  have hfA : f < A.length := (List.getElem?_eq_some_iff.1 ha).1
  have lt : ∀ (g : Nat) u b, vs[g]? = some u → u.ownBlock = some b → b < w.heap.size := fun g u b hu hb => by
    obtain ⟨a', ha'⟩ : ∃ a', A[g]? = some a' := ⟨_, List.getElem?_eq_getElem (by rw [← h.1]; exact (List.getElem?_eq_some_iff.1 hu).1)⟩
    exact ((h.2.1 g u a' hu ha').lt b hb).2
  refine ⟨by simp [h.1], fun g u a' hu ha' => ?_, fun g g' u u' b hu hu' hb hb' => ?_⟩
  · rw [getElem?_set' _ _ _ _ hf] at hu
    rw [getElem?_set' _ _ _ _ hfA] at ha'
    by_cases e : f = g
    · subst e
      simp only [if_true, Option.some.injEq] at hu ha'
      subst hu ha'
      rw [List.length_append, List.map_append]
      exact hown
    · simp only [e, if_false] at hu ha'
      refine own_keep (h.2.1 g u a' hu ha') (fun b hb1 hb2 hb3 => ?_)
      rw [hg.block b (by omega) (fun e' => e (h.2.2 f g v u b hv hu e'.symm hb3)), hw1 b hb2]
  · rw [getElem?_set' _ _ _ _ hf] at hu hu'
    by_cases e : f = g
    · by_cases e' : f = g'
      · rw [← e, ← e']
      · rw [if_pos e, Option.some.injEq] at hu
        rw [if_neg e'] at hu'
        subst hu
        rcases hat with h1 | h1
        · rw [h1] at hb
          exact e ▸ (h.2.2 f g' v u' b hv hu' hb hb')
        · rw [h1] at hb
          have := lt g' u' b hu' hb'
          simp only [Option.some.injEq] at hb
          omega
    · by_cases e' : f = g'
      · rw [if_neg e] at hu
        rw [if_pos e', Option.some.injEq] at hu'
        subst hu'
        rcases hat with h1 | h1
        · rw [h1] at hb'
          exact e' ▸ (h.2.2 g f u v b hu hv hb hb')
        · rw [h1] at hb'
          have := lt g u b hu hb
          simp only [Option.some.injEq] at hb'
          omega
      · rw [if_neg e] at hu
        rw [if_neg e'] at hu'
        exact h.2.2 g g' u u' b hu hu' hb hb'

/-- The numbers read so far: rows 0 .. n - 1 the first halves, rows n .. 2n - 1 the second halves; of row i the first j (jt of the targets, jc of the chains). -/
def part (sel : Nat × Nat → Int) (A : List (List (Nat × Nat))) (i j : Nat) : List (List Int) :=
  (List.range A.length).map fun f => if f < i then (A.getD f []).map sel else if f = i then ((A.getD f []).take j).map sel else []

theorem part_len (sel : Nat × Nat → Int) (A : List (List (Nat × Nat))) (i j : Nat) : (part sel A i j).length = A.length := by simp [part]

theorem part_get (sel : Nat × Nat → Int) (A : List (List (Nat × Nat))) (i j f : Nat) (hf : f < A.length) : (part sel A i j)[f]? = some (if f < i then (A.getD f []).map sel else if f = i then ((A.getD f []).take j).map sel else []) := by
  simp [part, hf]

theorem part_zero (sel : Nat × Nat → Int) (A : List (List (Nat × Nat))) : part sel A 0 0 = List.replicate A.length [] := by
  apply List.ext_getElem?
  intro f
  by_cases hf : f < A.length
  · rw [part_get _ _ _ _ _ hf]
    simp [hf]
  · rw [List.getElem?_eq_none (by rw [part_len]; omega), List.getElem?_eq_none (by simp; omega)]

theorem part_next (sel : Nat × Nat → Int) (A : List (List (Nat × Nat))) (i : Nat) : part sel A (i + 1) 0 = part sel A i (A.getD i []).length := by
  apply List.ext_getElem?
  intro f
  by_cases hf : f < A.length
  · rw [part_get _ _ _ _ _ hf, part_get _ _ _ _ _ hf]
    by_cases h1 : f < i
    · simp [h1, show f < i + 1 by omega]
    · by_cases h2 : f = i
      · subst h2; simp
      · simp only [show ¬ f < i + 1 by omega, h1, h2, if_false]
        by_cases h3 : f = i + 1 <;> simp [h3]
  · rw [List.getElem?_eq_none (by rw [part_len]; omega), List.getElem?_eq_none (by rw [part_len]; omega)]

theorem part_step (sel : Nat × Nat → Int) (A : List (List (Nat × Nat))) (i j : Nat) (hi : i < A.length) (hj : j < (A.getD i []).length) : part sel A i (j + 1) = (part sel A i j).set i (((A.getD i []).take j).map sel ++ [sel (A.getD i [])[j]]) := by
  apply List.ext_getElem?
  intro f
  rw [getElem?_set' _ _ _ _ (by rw [part_len]; exact hi)]
  by_cases hf : f < A.length
  · rw [part_get _ _ _ _ _ hf, part_get _ _ _ _ _ hf]
    by_cases h2 : i = f
    · subst h2
      simp only [Nat.lt_irrefl, if_false, if_true]
      rw [List.take_succ_eq_append_getElem hj, List.map_append]
      rfl
    · have h3 : ¬ f = i := fun e => h2 e.symm
      simp [h2, h3]
  · rw [if_neg (by omega), List.getElem?_eq_none (by rw [part_len]; omega), List.getElem?_eq_none (by rw [part_len]; omega)]

theorem part_full (sel : Nat × Nat → Int) (A : List (List (Nat × Nat))) : part sel A A.length 0 = A.map (fun a => a.map sel) := by
  apply List.ext_getElem?
  intro f
  by_cases hf : f < A.length
  · rw [part_get _ _ _ _ _ hf]
    simp [hf]
  · rw [List.getElem?_eq_none (by rw [part_len]; omega), List.getElem?_eq_none (by simp; omega)]

def selT (p : Nat × Nat) : Int := (p.1 : Int)
def selC (p : Nat × Nat) : Int := (p.2 : Int)

/-- What stands while ZZModelUses reads row i: jt targets and jc chains are laid. -/
def E1I (w1 wr : World) (n : Nat) (A : List (List (Nat × Nat))) (i jt jc : Nat) : Prop :=
  Below w1.heap.size w1 wr ∧ A.length = n ∧ ∃ vs : List Value, vs.length = n + n ∧ wr.heap[w1.heap.size]? = some (.cells (vs.take n).toArray 42 (0, 0)) ∧ wr.heap[w1.heap.size + 1]? = some (.cells (vs.drop n).toArray 42 (0, 0)) ∧
    FamI wr (w1.heap.size + 2) vs (part selT A i jt ++ part selC A i jc)

theorem E1I.later {w1 wr wy : World} {n : Nat} {A : List (List (Nat × Nat))} {i jt jc : Nat} (h : E1I w1 wr n A i jt jc) (hb : Below wr.heap.size wr wy) : E1I w1 wy n A i jt jc := by
  obtain ⟨h1, h2, vs, h3, h4, h5, h6⟩ := h
  refine ⟨h1.trans (hb.mono h1.size), h2, vs, h3, ?_, ?_, h6.keep (fun g _ hg => hb.block g hg)⟩
  · rw [hb.block _ (lt_of_block h4)]; exact h4
  · rw [hb.block _ (lt_of_block h5)]; exact h5

theorem E1I.next {w1 wr : World} {n : Nat} {A : List (List (Nat × Nat))} {i : Nat} (h : E1I w1 wr n A i (A.getD i []).length (A.getD i []).length) : E1I w1 wr n A (i + 1) 0 0 := by
  obtain ⟨h1, h2, vs, h3, h4, h5, h6⟩ := h
  exact ⟨h1, h2, vs, h3, h4, h5, by rw [part_next, part_next]; exact h6⟩

/-- The core of both appends: row f of the family, kept in the head block g0 at place i. -/
theorem E1I.core {w1 wr w3 : World} {f : Nat} {vs : List Value} {P : List (List Int)} {a : List Int} {v : Value} {p : Int} {gg cap : Nat} (hB : Below w1.heap.size w1 wr) (hF : FamI wr (w1.heap.size + 2) vs P) (hv : vs[f]? = some v) (ha : P[f]? = some a) (hs : w1.heap.size + 2 ≤ wr.heap.size)
    (hown : w3.ownsRow (w1.heap.size + 2) 3 1 (.slice (some ⟨gg, 0, none⟩) (a.length + 1) cap) (a.length + 1) (a.map (Value.int .i64) ++ [.int .i64 p])) (hgrow : ((wr.alloc (.cells #[.int .i64 p] 3)).drew).grownBy w3 v.ownBlock) (hat : v.ownBlock = some gg ∨ gg = wr.heap.size + 1) :
    FamI w3 (w1.heap.size + 2) (vs.set f (.slice (some ⟨gg, 0, none⟩) (a.length + 1) cap)) (P.set f (a ++ [p])) ∧ Below w1.heap.size w1 w3 ∧ ∀ g, g < w1.heap.size + 2 → w3.heap[g]? = wr.heap[g]? := by
  have hblk := (hF.2.1 f v a hv ha).lt
  have hsz : ((wr.alloc (.cells #[.int .i64 p] 3)).drew).heap.size = wr.heap.size + 1 := by simp
  have B2 : Below w1.heap.size w1 ((wr.alloc (.cells #[.int .i64 p] 3)).drew) := (hB.alloc hB.size _).drew
  refine ⟨hF.push (w1 := (wr.alloc (.cells #[.int .i64 p] 3)).drew) hv ha (fun g hg => Below.heap_alloc _ _ _ hg) (by rw [hsz]; omega) hsz hown hgrow (by
      rcases hat with h | h
      · left; rw [h]; rfl
      · right; rw [h]; rfl), B2.grown hgrow (by rw [hsz]; have := hB.size; omega) (fun g hg => by have := (hblk g hg).1; omega), fun g hg => ?_⟩
  rw [hgrow.block g (by rw [hsz]; omega) (fun e => by have := (hblk g e.symm).1; omega)]
  exact Below.heap_alloc _ _ _ (by omega)

theorem E1I.arcT {w1 wr : World} {n : Nat} {A : List (List (Nat × Nat))} {i j : Nat} (h : E1I w1 wr n A i j j) (hi : i < n) (hj : j < (A.getD i []).length) :
    ∃ va vc, wr.cell? ⟨w1.heap.size, i, none⟩ = some (.slice va j vc) ∧ wr.frozen? ⟨w1.heap.size, i, none⟩ = false ∧ wr.ownsRow (w1.heap.size + 2) 3 1 (.slice va j vc) j ((((A.getD i []).take j).map selT).map (Value.int .i64)) ∧ (Value.slice va j vc).ownBlock ≠ some w1.heap.size ∧ w1.heap.size < wr.heap.size ∧ w1.heap.size + 2 ≤ wr.heap.size ∧
      ∀ gg cap w3, w3.ownsRow (w1.heap.size + 2) 3 1 (.slice (some ⟨gg, 0, none⟩) (j + 1) cap) (j + 1) ((((A.getD i []).take j).map selT).map (Value.int .i64) ++ [.int .i64 (selT (A.getD i [])[j])]) → ((wr.alloc (.cells #[.int .i64 (selT (A.getD i [])[j])] 3)).drew).grownBy w3 (Value.slice va j vc).ownBlock →
        ((Value.slice va j vc).ownBlock = some gg ∨ gg = wr.heap.size + 1) → E1I w1 (w3.setCell ⟨w1.heap.size, i, none⟩ (.slice (some ⟨gg, 0, none⟩) (j + 1) cap)) n A i (j + 1) j := by
  obtain ⟨h1, h2, vs, h3, h4, h5, h6⟩ := h
  have l5 := lt_of_block h5
  have hiv : i < vs.length := by omega
  have hpl : i < (part selT A i j).length := by rw [part_len, h2]; exact hi
  have ea : (part selT A i j ++ part selC A i j)[i]? = some (((A.getD i []).take j).map selT) := by
    rw [List.getElem?_append_left hpl, part_get _ _ _ _ _ (by omega)]
    simp
  have ev : vs[i]? = some vs[i] := List.getElem?_eq_getElem hiv
  have hlen : (((A.getD i []).take j).map selT).length = j := by rw [List.length_map, List.length_take]; omega
  have hrow := h6.2.1 i _ _ ev ea
  rw [hlen] at hrow
  obtain ⟨va, vc, e, -, -⟩ := own_shape hrow
  rw [e] at hrow ev
  have hblk := hrow.lt
  refine ⟨va, vc, ?_, free_of_block h4, hrow, ?_, lt_of_block h4, by omega, ?_⟩
  · rw [cell_of_block h4, List.getElem?_take, if_pos hi]; exact ev
  · intro e; have := (hblk _ e).1; omega
  · intro gg cap w3 hown hgrow hat
    obtain ⟨c1, c2, c3⟩ := E1I.core (a := ((A.getD i []).take j).map selT) (p := selT (A.getD i [])[j]) h1 h6 ev ea (by omega) (by rw [hlen]; exact hown) hgrow hat
    rw [hlen] at c1
    refine ⟨c2.setCell (Nat.le_refl _) _, h2, vs.set i (.slice (some ⟨gg, 0, none⟩) (j + 1) cap), by simp [h3], ?_, ?_, ?_⟩
    · rw [List.take_set]
      exact block_setCell (by rw [c3 _ (by omega)]; exact h4) _
    · rw [Below.heap_setCell _ _ _ _ (by simp), c3 _ (by omega), List.drop_set_of_lt hi]
      exact h5
    · rw [part_step _ _ _ _ (by omega) hj]
      rw [List.set_append_left _ _ hpl] at c1
      exact c1.keep (fun g hg _ => Below.heap_setCell _ _ _ _ (by simp; omega))

theorem E1I.arcC {w1 wr : World} {n : Nat} {A : List (List (Nat × Nat))} {i j : Nat} (h : E1I w1 wr n A i (j + 1) j) (hi : i < n) (hj : j < (A.getD i []).length) :
    ∃ va vc, wr.cell? ⟨w1.heap.size + 1, i, none⟩ = some (.slice va j vc) ∧ wr.frozen? ⟨w1.heap.size + 1, i, none⟩ = false ∧ wr.ownsRow (w1.heap.size + 2) 3 1 (.slice va j vc) j ((((A.getD i []).take j).map selC).map (Value.int .i64)) ∧ (Value.slice va j vc).ownBlock ≠ some (w1.heap.size + 1) ∧ w1.heap.size + 1 < wr.heap.size ∧ w1.heap.size + 2 ≤ wr.heap.size ∧
      ∀ gg cap w3, w3.ownsRow (w1.heap.size + 2) 3 1 (.slice (some ⟨gg, 0, none⟩) (j + 1) cap) (j + 1) ((((A.getD i []).take j).map selC).map (Value.int .i64) ++ [.int .i64 (selC (A.getD i [])[j])]) → ((wr.alloc (.cells #[.int .i64 (selC (A.getD i [])[j])] 3)).drew).grownBy w3 (Value.slice va j vc).ownBlock →
        ((Value.slice va j vc).ownBlock = some gg ∨ gg = wr.heap.size + 1) → E1I w1 (w3.setCell ⟨w1.heap.size + 1, i, none⟩ (.slice (some ⟨gg, 0, none⟩) (j + 1) cap)) n A i (j + 1) (j + 1) := by
  obtain ⟨h1, h2, vs, h3, h4, h5, h6⟩ := h
  have l5 := lt_of_block h5
  have hiv : n + i < vs.length := by omega
  have hpl : (part selT A i (j + 1)).length = n := by rw [part_len, h2]
  have ea : (part selT A i (j + 1) ++ part selC A i j)[n + i]? = some (((A.getD i []).take j).map selC) := by
    rw [List.getElem?_append_right (by omega), hpl, Nat.add_sub_cancel_left, part_get _ _ _ _ _ (by omega)]
    simp
  have ev : vs[n + i]? = some vs[n + i] := List.getElem?_eq_getElem hiv
  have hlen : (((A.getD i []).take j).map selC).length = j := by rw [List.length_map, List.length_take]; omega
  have hrow := h6.2.1 (n + i) _ _ ev ea
  rw [hlen] at hrow
  obtain ⟨va, vc, e, -, -⟩ := own_shape hrow
  rw [e] at hrow ev
  have hblk := hrow.lt
  refine ⟨va, vc, ?_, free_of_block h5, hrow, ?_, l5, by omega, ?_⟩
  · rw [cell_of_block h5, List.getElem?_drop]; exact ev
  · intro e; have := (hblk _ e).1; omega
  · intro gg cap w3 hown hgrow hat
    obtain ⟨c1, c2, c3⟩ := E1I.core (a := ((A.getD i []).take j).map selC) (p := selC (A.getD i [])[j]) h1 h6 ev ea (by omega) (by rw [hlen]; exact hown) hgrow hat
    rw [hlen] at c1
    refine ⟨c2.setCell (by simp) _, h2, vs.set (n + i) (.slice (some ⟨gg, 0, none⟩) (j + 1) cap), by simp [h3], ?_, ?_, ?_⟩
    · rw [Below.heap_setCell _ _ _ _ (by simp), c3 _ (by omega), List.take_set_of_le (by omega)]
      exact h4
    · rw [List.drop_set, if_neg (by omega), Nat.add_sub_cancel_left]
      exact block_setCell (by rw [c3 _ (by omega)]; exact h5) _
    · rw [part_step selC _ _ _ (by omega) hj]
      rw [List.set_append_right _ _ (by omega), hpl, Nat.add_sub_cancel_left] at c1
      exact c1.keep (fun g hg _ => Below.heap_setCell _ _ _ _ (by simp; omega))

end Go.Proofs.Qxb6603244a
