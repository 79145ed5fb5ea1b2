/-
  Seat b6603244a: the arcs: a family of rows that the call owns, no two in one block; the plain law of the arcs.
-/
import Derived.Test.Qxb6603244aU0
namespace Go.Proofs.Qxb6603244a
open Go.RowKit
set_option linter.unusedVariables false
set_option linter.unusedSimpArgs false

def flatU (l : List (Nat × Nat)) : List Value := l.flatMap fun p => [.int .i64 (p.1 : Int), .int .i64 (p.2 : Int)]

theorem flatU_snoc (l : List (Nat × Nat)) (p : Nat × Nat) : flatU (l ++ [p]) = flatU l ++ [.int .i64 (p.1 : Int), .int .i64 (p.2 : Int)] := by
  simp [flatU]

/-- The rows vs hold the arcs A, each in a block of its own. -/
def Fam (w : World) (base : Nat) (vs : List Value) (A : List (List (Nat × Nat))) : Prop :=
  vs.length = A.length ∧ (∀ (f : Nat) v a, vs[f]? = some v → A[f]? = some a → w.ownsRow base 101 2 v a.length (flatU a)) ∧
    (∀ (f f' : Nat) v v' b, vs[f]? = some v → vs[f']? = some v' → v.ownBlock = some b → v'.ownBlock = some b → f = f')

theorem Fam.nil (w : World) (base n : Nat) : Fam w base (List.replicate n (.slice none 0 0)) (List.replicate n []) := by
  refine ⟨by simp, fun f v a hv ha => ?_, fun f f' v v' b hv hv' hb hb' => ?_⟩
  · have e1 := List.eq_of_mem_replicate (List.mem_of_getElem? hv)
    have e2 := List.eq_of_mem_replicate (List.mem_of_getElem? ha)
    subst e1 e2
    exact World.ownsRow_nil _ _ _ _
  · have e1 := List.eq_of_mem_replicate (List.mem_of_getElem? hv)
    subst e1
    simp [Value.ownBlock] at hb

theorem Fam.keep {w w' : World} {base : Nat} {vs : List Value} {A : List (List (Nat × Nat))} (h : Fam w base vs A) (hb : ∀ g, base ≤ g → g < w.heap.size → w'.heap[g]? = w.heap[g]?) : Fam w' base vs A :=
  ⟨h.1, fun f v a hv ha => own_keep (h.2.1 f v a hv ha) (fun g h1 h2 _ => hb g h1 h2), h.2.2⟩

theorem getElem?_set' {α : Type} (l : List α) (f g : Nat) (x : α) (hf : f < l.length) : (l.set f x)[g]? = if f = g then some x else l[g]? := by
  by_cases e : f = g
  · subst e; simp [hf]
  · simp [e]

theorem Fam.push {w w1 w' : World} {base f H : Nat} {vs : List Value} {A : List (List (Nat × Nat))} {v v' : Value} {a : List (Nat × Nat)} {p : Nat × Nat} (h : Fam w base vs A) (hv : vs[f]? = some v) (ha : A[f]? = some a)
    (hw1 : ∀ g, g < w.heap.size → w1.heap[g]? = w.heap[g]?) (hs1 : w.heap.size ≤ w1.heap.size) (hH : w1.heap.size = H)
    (hown : w'.ownsRow base 101 2 v' (a.length + 1) (flatU a ++ [.int .i64 (p.1 : Int), .int .i64 (p.2 : Int)])) (hg : w1.grownBy w' v.ownBlock) (hat : v'.ownBlock = v.ownBlock ∨ v'.ownBlock = some H) :
    Fam w' base (vs.set f v') (A.set f (a ++ [p])) := by
  have hf : f < vs.length := (List.getElem?_eq_some_iff.1 hv).1
  have hfA : f < A.length := (List.getElem?_eq_some_iff.1 ha).1
  have lt : ∀ (g : Nat) u b, vs[g]? = some u → u.ownBlock = some b → b < w.heap.size := fun g u b hu hb => by
    obtain ⟨a', ha'⟩ : ∃ a', A[g]? = some a' := ⟨_, List.getElem?_eq_getElem (by rw [← h.1]; exact (List.getElem?_eq_some_iff.1 hu).1)⟩
    exact ((h.2.1 g u a' hu ha').lt b hb).2
  refine ⟨by simp [h.1], fun g u a' hu ha' => ?_, fun g g' u u' b hu hu' hb hb' => ?_⟩
  · rw [getElem?_set' _ _ _ _ hf] at hu
    rw [getElem?_set' _ _ _ _ hfA] at ha'
    by_cases e : f = g
    · subst e
      simp only [if_true, Option.some.injEq] at hu ha'
      subst hu ha'
      rw [List.length_append, flatU_snoc]
      exact hown
    · simp only [e, if_false] at hu ha'
      refine own_keep (h.2.1 g u a' hu ha') (fun b hb1 hb2 hb3 => ?_)
      rw [hg.block b (by omega) (fun e' => e (h.2.2 f g v u b hv hu e'.symm hb3)), hw1 b hb2]
  · rw [getElem?_set' _ _ _ _ hf] at hu hu'
    by_cases e : f = g
    · by_cases e' : f = g'
      · rw [← e, ← e']
      · simp only [e, if_true, e', if_false, Option.some.injEq] at hu hu'
        rw [if_neg (by rw [← e]; exact e')] at hu'
        subst hu
        rcases hat with h1 | h1
        · rw [h1] at hb
          exact e ▸ (h.2.2 f g' v u' b hv hu' hb hb')
        · rw [h1] at hb
          have := lt g' u' b hu' hb'
          simp only [Option.some.injEq] at hb
          omega
    · by_cases e' : f = g'
      · rw [if_neg e] at hu
        rw [if_pos e', Option.some.injEq] at hu'
        subst hu'
        rcases hat with h1 | h1
        · rw [h1] at hb'
          exact e' ▸ (h.2.2 g f u v b hu hv hb hb')
        · rw [h1] at hb'
          have := lt g u b hu hb
          simp only [Option.some.injEq] at hb'
          omega
      · rw [if_neg e] at hu
        rw [if_neg e'] at hu'
        exact h.2.2 g g' u u' b hu hu' hb hb'

/-- How many of l are relations of D. -/
def cD (D l : List ByteArray) : Nat := (l.filter fun s => (idx D s).isSome).length
def wantAt (D : List ByteArray) (steps : List (List ByteArray)) (i j : Nat) : Nat := ((steps.take i).map (cD D)).sum + cD D ((steps.getD i []).take j)

theorem cD_snoc (D l : List ByteArray) (s : ByteArray) : cD D (l ++ [s]) = cD D l + (if (idx D s).isSome then 1 else 0) := by
  unfold cD
  rw [List.filter_append, List.length_append]
  congr 1
  by_cases h : (idx D s).isSome = true
  · simp [h]
  · simp [h]

theorem wantAt_step {D : List ByteArray} {steps : List (List ByteArray)} {i j : Nat} (hj : j < (steps.getD i []).length) : wantAt D steps i (j + 1) = wantAt D steps i j + (if (idx D (steps.getD i [])[j]).isSome then 1 else 0) := by
  unfold wantAt
  rw [List.take_succ_eq_append_getElem hj, cD_snoc]
  omega

theorem wantAt_next {D : List ByteArray} {steps : List (List ByteArray)} {i : Nat} (hi : i < steps.length) : wantAt D steps (i + 1) 0 = wantAt D steps i (steps.getD i []).length := by
  have e : steps.getD i [] = steps[i] := by simp [hi]
  unfold wantAt
  rw [List.take_succ_eq_append_getElem hi, List.map_append, List.sum_append, List.take_zero, List.take_length, e]
  simp [cD]

/-- What the arcs are while chain i is read. -/
def AOK (R : List ByteArray) (steps : List (List ByteArray)) (D : List ByteArray) (A : List (List (Nat × Nat))) (i j : Nat) : Prop :=
  A.length = D.length ∧ (∀ (f : Nat) a, A[f]? = some a → (∀ p ∈ a, p.2 ≤ i ∧ p.2 < R.length ∧ p.1 < D.length ∧ R[p.2]? = D[f]? ∧ ∃ s, D[p.1]? = some s ∧ s ∈ steps.getD p.2 []) ∧ a.Pairwise (fun p q => p.2 ≤ q.2)) ∧
    (A.map List.length).sum = wantAt D steps i j

theorem AOK.nil (R : List ByteArray) (steps : List (List ByteArray)) (D : List ByteArray) : AOK R steps D (List.replicate D.length []) 0 0 := by
  refine ⟨by simp, fun f a ha => ?_, ?_⟩
  · have e := List.eq_of_mem_replicate (List.mem_of_getElem? ha)
    subst e
    exact ⟨fun p hp => by simp at hp, List.Pairwise.nil⟩
  · simp [wantAt, cD]

theorem AOK.skip {R : List ByteArray} {steps : List (List ByteArray)} {D : List ByteArray} {A : List (List (Nat × Nat))} {i j : Nat} (h : AOK R steps D A i j) (hj : j < (steps.getD i []).length) (hn : idx D (steps.getD i [])[j] = none) : AOK R steps D A i (j + 1) :=
  ⟨h.1, h.2.1, by rw [h.2.2, wantAt_step hj, hn]; simp⟩

theorem AOK.next {R : List ByteArray} {steps : List (List ByteArray)} {D : List ByteArray} {A : List (List (Nat × Nat))} {i : Nat} (h : AOK R steps D A i (steps.getD i []).length) (hi : i < steps.length) : AOK R steps D A (i + 1) 0 :=
  ⟨h.1, fun f a ha => ⟨fun p hp => by obtain ⟨h1, h2⟩ := (h.2.1 f a ha).1 p hp; exact ⟨by omega, h2⟩, (h.2.1 f a ha).2⟩, by rw [h.2.2, wantAt_next hi]⟩

theorem sum_set : ∀ (A : List (List (Nat × Nat))) (f : Nat) (a b : List (Nat × Nat)), A[f]? = some a → b.length = a.length + 1 → ((A.set f b).map List.length).sum = (A.map List.length).sum + 1
  | [], f, a, b, h, _ => by simp at h
  | x :: A, 0, a, b, h, hb => by
    simp at h
    subst h
    simp [hb]
    omega
  | x :: A, f + 1, a, b, h, hb => by
    have := sum_set A f a b (by simpa using h) hb
    simp only [List.set_cons_succ, List.map_cons, List.sum_cons, this]
    omega

theorem AOK.push {R : List ByteArray} {steps : List (List ByteArray)} {D : List ByteArray} {A : List (List (Nat × Nat))} {i j f t : Nat} {a : List (Nat × Nat)} (h : AOK R steps D A i j) (hi : i < R.length) (hj : j < (steps.getD i []).length) (hf : idx D R[i] = some f) (ht : idx D (steps.getD i [])[j] = some t) (ha : A[f]? = some a) :
    AOK R steps D (A.set f (a ++ [(t, i)])) i (j + 1) := by
  have hfA : f < A.length := (List.getElem?_eq_some_iff.1 ha).1
  refine ⟨by simp [h.1], fun g b hb => ?_, ?_⟩
  · rw [getElem?_set' _ _ _ _ hfA] at hb
    by_cases e : f = g
    · subst e
      simp only [if_true, Option.some.injEq] at hb
      subst hb
      obtain ⟨h1, h2⟩ := h.2.1 f a ha
      refine ⟨fun p hp => ?_, ?_⟩
      · rcases List.mem_append.1 hp with hp | hp
        · exact h1 p hp
        · simp only [List.mem_singleton] at hp
          subst hp
          exact ⟨Nat.le_refl _, hi, idx_lt ht, by rw [List.getElem?_eq_getElem hi, idx_get hf], _, idx_get ht, List.getElem_mem hj⟩
      · rw [List.pairwise_append]
        refine ⟨h2, List.pairwise_singleton _ _, fun p hp q hq => ?_⟩
        simp only [List.mem_singleton] at hq
        subst hq
        exact (h1 p hp).1
    · rw [if_neg e] at hb
      exact h.2.1 g b hb
  · rw [sum_set A f a _ ha (by simp), h.2.2, wantAt_step hj, ht]
    simp

/-- What stands while the second loop reads chain i, its step j. -/
def U2I (w wr : World) (ga : Nat) (rv : Value) (R : List ByteArray) (steps : List (List ByteArray)) (D : List ByteArray) (i j : Nat) : Prop :=
  Below w.heap.size w wr ∧ w.heap.size + 2 ≤ ga ∧ ∃ mp vs A, wr.heap[w.heap.size]? = some (.cells #[rv, .slice (some ⟨ga, 0, none⟩) D.length D.length] 98 (0, 0)) ∧ MapIs wr (w.heap.size + 1) mp ∧ Numb mp D ∧
    wr.ownsRow (w.heap.size + 2) 9 1 rv D.length (D.map Value.string) ∧ (∀ g, rv.ownBlock = some g → g < ga) ∧ wr.heap[ga]? = some (.cells vs.toArray 99 (0, 0)) ∧ Fam wr (ga + 1) vs A ∧ AOK R steps D A i j

theorem U2I.later {w wr wy : World} {ga : Nat} {rv : Value} {R : List ByteArray} {steps : List (List ByteArray)} {D : List ByteArray} {i j : Nat} (h : U2I w wr ga rv R steps D i j) (hb : Below wr.heap.size wr wy) : U2I w wy ga rv R steps D i j := by
  obtain ⟨h1, h2, mp, vs, A, h3, h4, h5, h6, h7, h8, h9, h10⟩ := h
  refine ⟨h1.trans (hb.mono h1.size), h2, mp, vs, A, ?_, h4.below hb, h5, own_below h6 hb, h7, ?_, h9.keep (fun g _ hg => hb.block g hg), h10⟩
  · rw [hb.block _ (lt_of_block h3)]; exact h3
  · rw [hb.block _ (lt_of_block h8)]; exact h8

theorem U2I.start {w wr : World} {R : List ByteArray} {steps : List (List ByteArray)} {n : Nat} (h : U1I w wr R n) (hn : R.length = n) (hl : n ≤ 4096) :
    ∃ rv, wr.cell? ⟨w.heap.size, 0, none⟩ = some rv ∧ (∃ ra rc, rv = .slice ra (dd R).length rc) ∧ (wr.alloc (.cells (List.replicate (dd R).length (.slice none 0 0)).toArray 99)).cell? ⟨w.heap.size, 1, none⟩ = some (.slice none 0 0) ∧ (wr.alloc (.cells (List.replicate (dd R).length (.slice none 0 0)).toArray 99)).frozen? ⟨w.heap.size, 1, none⟩ = false ∧
      U2I w ((wr.alloc (.cells (List.replicate (dd R).length (.slice none 0 0)).toArray 99)).setCell ⟨w.heap.size, 1, none⟩ (.slice (some ⟨wr.heap.size, 0, none⟩) (dd R).length (dd R).length)) wr.heap.size rv R steps (dd R) 0 0 := by
  have hs := h.size
  have e : R.take n = R := List.take_of_length_le (by omega)
  obtain ⟨h1, rv, mp, h2, h3, h4, h5⟩ := h
  rw [e] at h4 h5
  have B : Below wr.heap.size wr (wr.alloc (.cells (List.replicate (dd R).length (.slice none 0 0)).toArray 99)) := (Below.refl _ _).alloc (Nat.le_refl _) _
  have h2' : (wr.alloc (.cells (List.replicate (dd R).length (.slice none 0 0)).toArray 99)).heap[w.heap.size]? = some (.cells [rv, .slice none 0 0].toArray 98 (0, 0)) := by
    rw [B.block _ (lt_of_block h2)]; simpa using h2
  refine ⟨rv, ?_, ?_, ?_, free_of_block h2', ?_⟩
  · rw [cell_of_block (xs := [rv, .slice none 0 0]) (e := 98) (by simpa using h2)]; rfl
  · obtain ⟨ra, rc, e, _⟩ := own_shape h5
    exact ⟨ra, rc, e⟩
  · rw [cell_of_block h2']; rfl
  · have h8 := heap_alloc_new wr (.cells (List.replicate (dd R).length (.slice none 0 0)).toArray 99)
    refine ⟨(h1.trans (B.mono h1.size)).setCell (Nat.le_refl _) _, hs, mp, List.replicate (dd R).length (.slice none 0 0), List.replicate (dd R).length [], ?_, ?_, h4, ?_, fun g hg => (h5.lt g hg).2, ?_, Fam.nil _ _ _, AOK.nil _ _ _⟩
    · have := block_setCell (k := 1) h2' (.slice (some ⟨wr.heap.size, 0, none⟩) (dd R).length (dd R).length)
      simpa using this
    · exact (h3.below B).setCell _ _
    · exact ownsRow_setCell_below (own_below h5 B) (by simp) _
    · rw [Below.heap_setCell _ _ _ _ (by simp; omega)]
      exact h8

theorem len_le_cnt : ∀ (l : List (List ByteArray)) (i : Nat) (x : List ByteArray), l[i]? = some x → x.length ≤ (l.map List.length).sum
  | [], i, x, h => by simp at h
  | y :: l, 0, x, h => by simp at h; subst h; simp
  | y :: l, i + 1, x, h => by
    have := len_le_cnt l i x (by simpa using h)
    simp only [List.map_cons, List.sum_cons]
    omega

theorem len_le_cntS {l : List (List ByteArray)} {i : Nat} {x : List ByteArray} (h : l[i]? = some x) : x.length ≤ cntS l l.length := by
  have := len_le_cnt l i x h
  unfold cntS
  rw [List.take_length]
  exact this

theorem cD_le (D l : List ByteArray) : cD D l ≤ l.length := List.length_filter_le _ _

theorem sum_cD_le (D : List ByteArray) : ∀ (l : List (List ByteArray)), (l.map (cD D)).sum ≤ (l.map List.length).sum
  | [] => by simp
  | x :: l => by
    have h1 := cD_le D x
    have h2 := sum_cD_le D l
    simp only [List.map_cons, List.sum_cons]
    omega

theorem sum_take_le : ∀ (l : List (List ByteArray)) (k : Nat), ((l.take k).map List.length).sum ≤ (l.map List.length).sum
  | [], k => by simp
  | x :: l, 0 => by simp
  | x :: l, k + 1 => by
    have := sum_take_le l k
    simp only [List.take_succ_cons, List.map_cons, List.sum_cons]
    omega

theorem wantAt_le {D : List ByteArray} {steps : List (List ByteArray)} {i j : Nat} (hi : i < steps.length) : wantAt D steps i j ≤ cntS steps steps.length := by
  have e : steps.getD i [] = steps[i] := by simp [hi]
  have h1 := sum_cD_le D (steps.take i)
  have h2 := cD_le D ((steps.getD i []).take j)
  have h3 : ((steps.getD i []).take j).length ≤ (steps.getD i []).length := List.length_take_le' _ _
  have h4 := sum_take_le steps (i + 1)
  rw [List.take_succ_eq_append_getElem hi, List.map_append, List.sum_append] at h4
  simp only [List.map_cons, List.map_nil, List.sum_cons, List.sum_nil] at h4
  unfold wantAt cntS
  rw [List.take_length]
  rw [e] at h3 h2 ⊢
  omega

theorem len_le_sum : ∀ (A : List (List (Nat × Nat))) (f : Nat) (a : List (Nat × Nat)), A[f]? = some a → a.length ≤ (A.map List.length).sum
  | [], f, a, h => by simp at h
  | x :: A, 0, a, h => by simp at h; subst h; simp
  | x :: A, f + 1, a, h => by
    have := len_le_sum A f a (by simpa using h)
    simp only [List.map_cons, List.sum_cons]
    omega

theorem U2I.skip {w wr : World} {ga : Nat} {rv : Value} {R : List ByteArray} {steps : List (List ByteArray)} {D : List ByteArray} {i j : Nat} (h : U2I w wr ga rv R steps D i j) (hj : j < (steps.getD i []).length) (hn : idx D (steps.getD i [])[j] = none) : U2I w wr ga rv R steps D i (j + 1) := by
  obtain ⟨h1, h2, mp, vs, A, h3, h4, h5, h6, h7, h8, h9, h10⟩ := h
  exact ⟨h1, h2, mp, vs, A, h3, h4, h5, h6, h7, h8, h9, h10.skip hj hn⟩

theorem U2I.next {w wr : World} {ga : Nat} {rv : Value} {R : List ByteArray} {steps : List (List ByteArray)} {D : List ByteArray} {i : Nat} (h : U2I w wr ga rv R steps D i (steps.getD i []).length) (hi : i < steps.length) : U2I w wr ga rv R steps D (i + 1) 0 := by
  obtain ⟨h1, h2, mp, vs, A, h3, h4, h5, h6, h7, h8, h9, h10⟩ := h
  exact ⟨h1, h2, mp, vs, A, h3, h4, h5, h6, h7, h8, h9, h10.next hi⟩

theorem U2I.look {w wr : World} {ga : Nat} {rv : Value} {R : List ByteArray} {steps : List (List ByteArray)} {D : List ByteArray} {i j : Nat} (h : U2I w wr ga rv R steps D i j) (x : ByteArray) :
    (∀ f, idx D x = some f → (Instr.lookup 92 (.map (some (w.heap.size + 1))) (.string x) false).run Try.prog wr = .ok (.int .i64 (f : Int)) wr) ∧
    (∀ f, idx D x = some f → (Instr.lookup 92 (.map (some (w.heap.size + 1))) (.string x) true).run Try.prog wr = .ok (.tuple #[.int .i64 (f : Int), .bool true]) wr) ∧
    (idx D x = none → (Instr.lookup 92 (.map (some (w.heap.size + 1))) (.string x) true).run Try.prog wr = .ok (.tuple #[.int .i64 0, .bool false]) wr) := by
  obtain ⟨_, _, mp, vs, A, _, g2, g3, _⟩ := h
  have hl := fun ok => run_lookup_my (P := Try.prog) (T := 92) (K := 9) (E := 3) Try.underlying92 Try.underlying9 (.int .i64 0) (Try.zeroValue3 _) g2 x ok
  rw [g3 x] at hl
  refine ⟨fun f hf => ?_, fun f hf => ?_, fun hf => ?_⟩
  · have := hl false
    rw [hf] at this
    exact this
  · have := hl true
    rw [hf] at this
    exact this
  · have := hl true
    rw [hf] at this
    exact this

theorem ddStep_mem (D : List ByteArray) (x y : ByteArray) : y ∈ ddStep D x ↔ y ∈ D ∨ y = x := by
  unfold ddStep
  split
  · rename_i h
    have hm : x ∈ D := by
      cases e : idx D x with
      | none => rw [e] at h; cases h
      | some i => exact List.mem_of_getElem? (idx_get e)
    constructor
    · exact Or.inl
    · rintro (h | rfl)
      · exact h
      · exact hm
  · simp

theorem foldl_mem : ∀ (l D : List ByteArray) (y : ByteArray), y ∈ l.foldl ddStep D ↔ y ∈ D ∨ y ∈ l
  | [], D, y => by simp
  | x :: l, D, y => by
    rw [List.foldl_cons, foldl_mem l, ddStep_mem, List.mem_cons]
    constructor
    · rintro ((h | h) | h)
      · exact Or.inl h
      · exact Or.inr (Or.inl h)
      · exact Or.inr (Or.inr h)
    · rintro (h | h | h)
      · exact Or.inl (Or.inl h)
      · exact Or.inl (Or.inr h)
      · exact Or.inr h

theorem dd_mem (R : List ByteArray) (y : ByteArray) : y ∈ dd R ↔ y ∈ R := by
  unfold dd
  rw [foldl_mem]
  simp

theorem idx_dd {R : List ByteArray} {k : Nat} (h : k < R.length) : ∃ f, idx (dd R) R[k] = some f := by
  cases e : idx (dd R) R[k] with
  | some f => exact ⟨f, rfl⟩
  | none =>
    rw [idx_none, dd_mem] at e
    exact absurd (List.getElem_mem h) e

/-- One arc more: what the statement reads, and what stands behind it. -/
theorem U2I.arc {w wr : World} {ga : Nat} {rv : Value} {R : List ByteArray} {steps : List (List ByteArray)} {D : List ByteArray} {i j f t : Nat} (h : U2I w wr ga rv R steps D i j) (hi : i < R.length) (his : i < steps.length) (hj : j < (steps.getD i []).length) (hf : idx D R[i] = some f) (ht : idx D (steps.getD i [])[j] = some t) :
    ∃ va vc a, wr.cell? ⟨w.heap.size, 1, none⟩ = some (.slice (some ⟨ga, 0, none⟩) D.length D.length) ∧ wr.cell? ⟨ga, f, none⟩ = some (.slice va a.length vc) ∧ wr.frozen? ⟨ga, f, none⟩ = false ∧ wr.ownsRow (ga + 1) 101 2 (.slice va a.length vc) a.length (flatU a) ∧
      (Value.slice va a.length vc).ownBlock ≠ some ga ∧ (Value.slice va a.length vc).ownBlock ≠ some w.heap.size ∧ a.length ≤ cntS steps steps.length ∧ ga < wr.heap.size ∧ w.heap.size < wr.heap.size ∧
      ∀ gg cap w3, w3.ownsRow (ga + 1) 101 2 (.slice (some ⟨gg, 0, none⟩) (a.length + 1) cap) (a.length + 1) (flatU a ++ [.int .i64 (t : Int), .int .i64 (i : Int)]) → ((wr.alloc (.cells #[.int .i64 (t : Int), .int .i64 (i : Int)] 101)).drew).grownBy w3 (Value.slice va a.length vc).ownBlock →
        ((Value.slice va a.length vc).ownBlock = some gg ∨ gg = wr.heap.size + 1) → U2I w (w3.setCell ⟨ga, f, none⟩ (.slice (some ⟨gg, 0, none⟩) (a.length + 1) cap)) ga rv R steps D i (j + 1) := by
  obtain ⟨h1, h2, mp, vs, A, h3, h4, h5, h6, h7, h8, h9, h10⟩ := h
  have hfD := idx_lt hf
  have hfA : f < A.length := by rw [h10.1]; exact hfD
  have hfv : f < vs.length := by rw [h9.1]; exact hfA
  have ea : A[f]? = some A[f] := List.getElem?_eq_getElem hfA
  have ev : vs[f]? = some vs[f] := List.getElem?_eq_getElem hfv
  have hrow := h9.2.1 f _ _ ev ea
  obtain ⟨va, vc, e, -, -⟩ := own_shape hrow
  rw [e] at hrow ev
  have hblk := hrow.lt
  have l3 := lt_of_block h3
  have l8 := lt_of_block h8
  refine ⟨va, vc, A[f], ?_, ?_, free_of_block h8, hrow, ?_, ?_, ?_, l8, l3, ?_⟩
  · rw [cell_of_block (xs := [rv, .slice (some ⟨ga, 0, none⟩) D.length D.length]) (e := 98) (by simpa using h3)]; rfl
  · rw [cell_of_block h8]; exact ev
  · intro e; have := (hblk _ e).1; omega
  · intro e; have := (hblk _ e).1; omega
  · have := len_le_sum A f _ ea
    rw [h10.2.2] at this
    exact Nat.le_trans this (wantAt_le his)
  · intro gg cap w3 hown hgrow hat
    have hsz : ((wr.alloc (.cells #[.int .i64 (t : Int), .int .i64 (i : Int)] 101)).drew).heap.size = wr.heap.size + 1 := by simp
    have keep : ∀ g, g ≤ ga → w3.heap[g]? = wr.heap[g]? := fun g hg => by
      rw [hgrow.block g (by rw [hsz]; omega) (fun e => by have := (hblk g e.symm).1; omega)]
      exact Below.heap_alloc _ _ _ (by omega)
    have B2 : Below w.heap.size w ((wr.alloc (.cells #[.int .i64 (t : Int), .int .i64 (i : Int)] 101)).drew) := (h1.alloc h1.size _).drew
    have B3 : Below w.heap.size w w3 := B2.grown hgrow (by rw [hsz]; have := h1.size; omega) (fun g hg => by have := (hblk g hg).1; omega)
    have hF : Fam w3 (ga + 1) (vs.set f (.slice (some ⟨gg, 0, none⟩) (A[f].length + 1) cap)) (A.set f (A[f] ++ [(t, i)])) :=
      h9.push (w1 := (wr.alloc (.cells #[.int .i64 (t : Int), .int .i64 (i : Int)] 101)).drew) (p := (t, i)) ev ea (fun g hg => Below.heap_alloc _ _ _ hg) (by rw [hsz]; omega) hsz hown hgrow (by
        rcases hat with h | h
        · left; rw [h]; rfl
        · right; rw [h]; rfl)
    refine ⟨B3.setCell (by simp; omega) _, h2, mp, vs.set f (.slice (some ⟨gg, 0, none⟩) (A[f].length + 1) cap), A.set f (A[f] ++ [(t, i)]), ?_, ?_, h5, ?_, h7, ?_, ?_, h10.push hi hj hf ht ea⟩
    · rw [Below.heap_setCell _ _ _ _ (by simp; omega), keep _ (by omega)]; exact h3
    · exact (h4.of_block (keep _ (by omega))).setCell _ _
    · have : w3.ownsRow (w.heap.size + 2) 9 1 rv D.length (D.map Value.string) := own_keep h6 (fun g _ _ hg => keep g (Nat.le_of_lt (h7 g hg)))
      refine own_keep this (fun g _ _ hg => Below.heap_setCell _ _ _ _ (by have := h7 g hg; simp; omega))
    · have h8' : w3.heap[ga]? = some (.cells vs.toArray 99 (0, 0)) := by rw [keep _ (Nat.le_refl _)]; exact h8
      exact block_setCell h8' _
    · exact hF.keep (fun g hg _ => Below.heap_setCell _ _ _ _ (by simp; omega))

end Go.Proofs.Qxb6603244a
