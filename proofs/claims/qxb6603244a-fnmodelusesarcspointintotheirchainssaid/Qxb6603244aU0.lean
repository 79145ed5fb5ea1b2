/-
  Seat b6603244a: the plain model of (*Model).uses: the relations in order of first appearance, their numbers.
-/
import Derived.Test.Qxb6603244aN1
namespace Go.Proofs.Qxb6603244a
open Go.RowKit
set_option linter.unusedVariables false

def ddStep (D : List ByteArray) (x : ByteArray) : List ByteArray := if (idx D x).isSome then D else D ++ [x]
def dd (l : List ByteArray) : List ByteArray := l.foldl ddStep []

theorem dd_succ {R : List ByteArray} {k : Nat} (h : k < R.length) : dd (R.take (k + 1)) = ddStep (dd (R.take k)) R[k] := by
  unfold dd
  rw [List.take_succ_eq_append_getElem h, List.foldl_append]
  rfl

theorem idx_snoc (D : List ByteArray) (x y : ByteArray) : idx (D ++ [x]) y = (match idx D y with | some i => some i | none => if y = x then some D.length else none) := by
  induction D with
  | nil => simp [idx]
  | cons d D ih =>
    simp only [List.cons_append, idx]
    split
    · rfl
    · rw [ih]
      cases idx D y with
      | some i => rfl
      | none =>
        simp only [Option.map_none]
        split <;> simp

/-- The map holds the place of each relation. -/
def Numb (mp : AMap) (D : List ByteArray) : Prop := ∀ x, aget mp x = (idx D x).map (fun i : Nat => Value.int .i64 i)

theorem Numb.nil : Numb [] [] := fun x => rfl

theorem Numb.snoc {mp : AMap} {D : List ByteArray} {x : ByteArray} (h : Numb mp D) (hx : idx D x = none) : Numb (aset mp x (.int .i64 (D.length : Int))) (D ++ [x]) := by
  intro y
  rw [aget_aset, idx_snoc, h y]
  by_cases e : y = x
  · subst e
    rw [hx]
    simp
  · simp only [e, if_false]
    cases idx D y <;> rfl

/-- What stands behind k rounds of the first loop. -/
def U1I (w wr : World) (R : List ByteArray) (k : Nat) : Prop :=
  Below w.heap.size w wr ∧ ∃ rv mp, wr.heap[w.heap.size]? = some (.cells #[rv, .slice none 0 0] 98 (0, 0)) ∧ MapIs wr (w.heap.size + 1) mp ∧ Numb mp (dd (R.take k)) ∧ wr.ownsRow (w.heap.size + 2) 9 1 rv (dd (R.take k)).length ((dd (R.take k)).map Value.string)

theorem U1I.later {w wr wy : World} {R : List ByteArray} {k : Nat} (h : U1I w wr R k) (hb : Below wr.heap.size wr wy) : U1I w wy R k := by
  obtain ⟨h1, rv, mp, h2, h3, h4, h5⟩ := h
  refine ⟨h1.trans (hb.mono h1.size), rv, mp, ?_, h3.below hb, h4, own_below h5 hb⟩
  rw [hb.block _ (lt_of_block h2)]; exact h2

theorem own_keep {w w' : World} {base : Nat} {e : TypeId} {size n : Nat} {v : Value} {xs : List Value} (h : w.ownsRow base e size v n xs) (hb : ∀ g, base ≤ g → g < w.heap.size → v.ownBlock = some g → w'.heap[g]? = w.heap[g]?) : w'.ownsRow base e size v n xs := by
  obtain ⟨h1, h2⟩ := h
  refine ⟨h1, ?_⟩
  rcases h2 with h2 | ⟨g, cap, cur, rfl, h4, h5, h6⟩
  · exact Or.inl h2
  · exact Or.inr ⟨g, cap, cur, rfl, h4, by rw [hb g h4 (lt_of_block h5) rfl]; exact h5, h6⟩

theorem U1I.size {w wr : World} {R : List ByteArray} {k : Nat} (h : U1I w wr R k) : w.heap.size + 2 ≤ wr.heap.size := by
  obtain ⟨h1, rv, mp, h2, h3, h4, h5⟩ := h
  exact h3.lt

theorem ddStep_len (D : List ByteArray) (x : ByteArray) : (ddStep D x).length ≤ D.length + 1 := by
  unfold ddStep
  split <;> simp

theorem dd_len : ∀ (l D : List ByteArray), (l.foldl ddStep D).length ≤ D.length + l.length
  | [], D => by simp
  | x :: l, D => by
    have h1 := dd_len l (ddStep D x)
    have h2 := ddStep_len D x
    simp only [List.foldl_cons, List.length_cons]
    omega

theorem dd_take_len (R : List ByteArray) (k : Nat) : (dd (R.take k)).length ≤ k := by
  have h1 := dd_len (R.take k) []
  have h2 := List.length_take_le k R
  have e : dd (R.take k) = (R.take k).foldl ddStep [] := rfl
  rw [e]
  simp only [List.length_nil, Nat.zero_add] at h1
  omega

theorem U1I.grow {w w2 w3 : World} {R D : List ByteArray} {k rc gg cap : Nat} {vR : ByteArray} {mp : AMap} {ra : Option Addr} (hd : dd (R.take (k + 1)) = D ++ [vR]) (hB : Below w.heap.size w w2) (hm : MapIs w2 (w.heap.size + 1) mp) (hn : Numb mp (D ++ [vR]))
    (h1 : w2.heap[w.heap.size]? = some (.cells #[.slice ra D.length rc, .slice none 0 0] 98 (0, 0))) (h4 : w2.ownsRow (w.heap.size + 2) 9 1 (.slice ra D.length rc) D.length (D.map Value.string))
    (hown : w3.ownsRow (w.heap.size + 2) 9 1 (.slice (some ⟨gg, 0, none⟩) (D.length + 1) cap) (D.length + 1) (D.map Value.string ++ [.string vR]))
    (hgrow : ((w2.alloc (.cells #[.string vR] 9)).drew).grownBy w3 (Value.slice ra D.length rc).ownBlock) :
    U1I w (w3.setCell ⟨w.heap.size, 0, none⟩ (.slice (some ⟨gg, 0, none⟩) (D.length + 1) cap)) R (k + 1) := by
  have hlt := h4.lt
  have l1 := lt_of_block h1
  have l2 := hm.lt
  have hsz : ((w2.alloc (.cells #[.string vR] 9)).drew).heap.size = w2.heap.size + 1 := by simp
  have keep : ∀ g, g < w.heap.size + 2 → g < w2.heap.size → w3.heap[g]? = w2.heap[g]? := fun g hg hg2 => by
    rw [hgrow.block g (by rw [hsz]; omega) (fun e => by have := (hlt g e.symm).1; omega)]
    exact Below.heap_alloc _ _ _ hg2
  have B2 : Below w.heap.size w ((w2.alloc (.cells #[.string vR] 9)).drew) := (hB.alloc hB.size _).drew
  have B3 : Below w.heap.size w w3 := B2.grown hgrow (by rw [hsz]; have := hB.size; omega) (fun g hg => by have := (hlt g hg).1; omega)
  refine ⟨B3.setCell (Nat.le_refl _) _, .slice (some ⟨gg, 0, none⟩) (D.length + 1) cap, mp, ?_, ?_, ?_, ?_⟩
  · have := block_setCell (w := w3) (g := w.heap.size) (k := 0) (xs := [.slice ra D.length rc, .slice none 0 0]) (e := 98) (by rw [keep _ (by omega) l1]; simpa using h1) (.slice (some ⟨gg, 0, none⟩) (D.length + 1) cap)
    simpa using this
  · exact (hm.of_block (keep _ (by omega) l2)).setCell _ _
  · rw [hd]; exact hn
  · rw [hd]
    simp only [List.length_append, List.length_cons, List.length_nil, List.map_append, List.map_cons, List.map_nil]
    exact ownsRow_setCell_below hown (by simp) _

end Go.Proofs.Qxb6603244a
