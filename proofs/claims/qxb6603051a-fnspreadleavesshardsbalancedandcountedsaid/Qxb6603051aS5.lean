/-
  Seat b6603051a: the plain laws of Spread: what a lead and a move keep, and the measure that every move lowers. No walk.
-/
import Derived.Test.Qxb6603051aS4
namespace Go.Proofs.Qxb6603051a
open Go.RowKit
set_option linter.unusedVariables false
set_option linter.unusedSimpArgs false

/-- How many of the leaders lie at place i. -/
def cnt (live : List ByteArray) (L : List ByteArray) (i : Nat) : Int := ((L.filter fun l => decide (idx live l = some i)).length : Int)

/-- How many of the leaders are closed. -/
def shutL (live : List ByteArray) (closed : List Bool) (l : ByteArray) : Bool := match idx live l with | some f => closed.getD f false | none => false
def cShut (live : List ByteArray) (closed : List Bool) (L : List ByteArray) : Nat := (L.filter fun l => shutL live closed l).length

/-- What holds of each shard's leader l, given the leader l0 and the replicas rs that it began with. -/
def Cl (live : List ByteArray) (l0 : ByteArray) (rs : List ByteArray) (l : ByteArray) : Prop :=
  (idx live l = none → l = ByteArray.empty ∧ idx live l0 = none ∧ ∀ id ∈ rs, idx live id = none) ∧ (idx live l ≠ none → l = l0 ∨ l ∈ rs)

/-- The sum of the squares of the open nodes' counts. -/
def sq : List Int → List Bool → Int
  | d :: ds, c :: cs => (if c then 0 else d * d) + sq ds cs
  | _, _ => 0

def Phi (live : List ByteArray) (closed : List Bool) (D : List Int) (L : List ByteArray) : Nat := (((cShut live closed L : Nat) : Int) * 8589934592 + sq D closed).toNat

/-- Nothing would move. -/
def Settled (live : List ByteArray) (closed : List Bool) (RS : List (List ByteArray)) (D : List Int) (L : List ByteArray) : Prop :=
  ∀ k, k < L.length → leadF live closed D (L.getD k ByteArray.empty) (RS.getD k []) = (D, L.getD k ByteArray.empty) ∧ targetF live closed D (L.getD k ByteArray.empty) (RS.getD k []) = none

theorem square_nonneg (x : Int) : 0 ≤ x * x := by
  rcases Int.le_total 0 x with h | h
  · exact Int.mul_nonneg h h
  · exact Int.mul_nonneg_of_nonpos_of_nonpos h h

theorem sq_nonneg : ∀ (D : List Int) (C : List Bool), 0 ≤ sq D C
  | [], _ => by simp [sq]
  | _ :: _, [] => by simp [sq]
  | d :: D, c :: C => by
    have := sq_nonneg D C
    have h2 := square_nonneg d
    simp only [sq]
    split <;> omega

theorem sq_set : ∀ (D : List Int) (C : List Bool) (i : Nat) (x : Int), i < D.length → i < C.length →
    sq (D.set i x) C = sq D C + (if C.getD i false then 0 else x * x - D.getD i 0 * D.getD i 0)
  | [], _, i, x, h, _ => by simp at h
  | _ :: _, [], i, x, _, h => by simp at h
  | d :: D, c :: C, 0, x, _, _ => by
    simp only [List.set_cons_zero, sq, List.getD_cons_zero]
    cases c <;> simp <;> omega
  | d :: D, c :: C, i + 1, x, h1, h2 => by
    have := sq_set D C i x (by simpa using h1) (by simpa using h2)
    simp only [List.set_cons_succ, sq, List.getD_cons_succ, this]
    omega

theorem length_moveF (D : List Int) (f t : Nat) : (moveF D f t).length = D.length := by simp [moveF]

theorem getD_set (D : List Int) (i j : Nat) (x : Int) (hi : i < D.length) : (D.set i x).getD j 0 = if i = j then x else D.getD j 0 := by
  simp only [List.getD_eq_getElem?_getD, List.getElem?_set]
  by_cases h : i = j
  · subst h; simp [hi]
  · simp [h]

theorem getD_moveF (D : List Int) (f t j : Nat) (hf : f < D.length) (ht : t < D.length) (hne : f ≠ t) : (moveF D f t).getD j 0 = if j = t then D.getD t 0 + 1 else if j = f then D.getD f 0 - 1 else D.getD j 0 := by
  unfold moveF
  rw [getD_set _ _ _ _ (by simpa using ht), getD_set _ _ _ _ hf, getD_set _ _ _ _ hf]
  simp only [hne, if_false]
  by_cases h1 : j = t
  · subst h1; simp
  · have h1' : ¬ t = j := fun e => h1 e.symm
    simp only [h1, h1', if_false]
    by_cases h2 : j = f
    · subst h2; simp
    · have h2' : ¬ f = j := fun e => h2 e.symm
      simp [h2, h2']

/-- Behind a move: the sum of squares. -/
theorem sq_move (D : List Int) (C : List Bool) (f t : Nat) (hf : f < D.length) (ht : t < D.length) (hl : C.length = D.length) (hne : f ≠ t) (hot : C.getD t false = false) :
    sq (moveF D f t) C = sq D C + (if C.getD f false then 2 * D.getD t 0 + 1 else 2 * (D.getD t 0 - D.getD f 0) + 2) := by
  unfold moveF
  rw [sq_set _ _ _ _ (by simpa using ht) (by omega), sq_set _ _ _ _ hf (by omega), getD_set _ _ _ _ hf]
  simp only [hne, if_false, hot, Bool.false_eq_true]
  generalize D.getD t 0 = y
  generalize D.getD f 0 = x
  have e1 : (y + 1) * (y + 1) = y * y + 2 * y + 1 := by rw [Int.add_mul, Int.mul_add]; omega
  have e2 : (x - 1) * (x - 1) = x * x - 2 * x + 1 := by rw [Int.sub_mul, Int.mul_sub]; omega
  rw [e1, e2]
  split <;> omega

theorem mem_set_bound {D : List Int} {i : Nat} {x lo hi : Int} (h : ∀ y ∈ D, lo ≤ y ∧ y ≤ hi) (hx : lo ≤ x ∧ x ≤ hi) : ∀ y ∈ D.set i x, lo ≤ y ∧ y ≤ hi := by
  intro y hy
  rcases List.mem_or_eq_of_mem_set hy with h1 | h1
  · exact h y h1
  · subst h1; exact hx

theorem getD_mem {D : List Int} {i : Nat} (hi : i < D.length) : D.getD i 0 ∈ D := by
  rw [List.getD_eq_getElem?_getD, List.getElem?_eq_getElem hi]; exact List.getElem_mem _

/-! ### counts over lists -/
theorem filter_set_len {α : Type} (p : α → Bool) : ∀ (L : List α) (k : Nat) (x : α) (h : k < L.length), (((L.set k x).filter p).length : Int) = ((L.filter p).length : Int) - (if p L[k] then 1 else 0) + (if p x then 1 else 0)
  | [], k, x, h => by simp at h
  | a :: L, 0, x, h => by
    simp only [List.set_cons_zero, List.filter_cons, List.getElem_cons_zero]
    split <;> split <;> simp <;> omega
  | a :: L, k + 1, x, h => by
    have := filter_set_len p L k x (by simpa using h)
    simp only [List.set_cons_succ, List.filter_cons, List.getElem_cons_succ]
    split
    · simp only [List.length_cons]; omega
    · exact this

theorem cnt_set (live L : List ByteArray) (k i : Nat) (x : ByteArray) (h : k < L.length) : cnt live (L.set k x) i = cnt live L i - (if idx live L[k] = some i then 1 else 0) + (if idx live x = some i then 1 else 0) := by
  unfold cnt
  rw [filter_set_len _ L k x h]
  simp only [decide_eq_true_eq]

theorem cShut_set (live : List ByteArray) (closed : List Bool) (L : List ByteArray) (k : Nat) (x : ByteArray) (h : k < L.length) : (cShut live closed (L.set k x) : Int) = (cShut live closed L : Int) - (if shutL live closed L[k] then 1 else 0) + (if shutL live closed x then 1 else 0) := by
  unfold cShut
  rw [filter_set_len _ L k x h]

theorem cShut_le (live : List ByteArray) (closed : List Bool) (L : List ByteArray) : cShut live closed L ≤ L.length := by
  unfold cShut; exact List.length_filter_le _ _

theorem cnt_snoc (live L : List ByteArray) (x : ByteArray) (i : Nat) : cnt live (L ++ [x]) i = cnt live L i + (if idx live x = some i then 1 else 0) := by
  unfold cnt
  rw [List.filter_append]
  by_cases h : idx live x = some i <;> simp [List.filter_cons, h]

/-! ### the moves keep -/
/-- What the second half of Spread keeps: D0, L0: as they were given; D1: behind the leads; N: how many shards; lo, hi: bounds behind the leads. -/
def Inv2 (live : List ByteArray) (closed : List Bool) (RS : List (List ByteArray)) (D0 : List Int) (L0 : List ByteArray) (lo hi : Int) (D : List Int) (L : List ByteArray) : Prop :=
  D.length = live.length ∧ L.length = L0.length ∧
  (∀ k, k < L.length → Cl live (L0.getD k ByteArray.empty) (RS.getD k []) (L.getD k ByteArray.empty)) ∧
  (∀ i, i < live.length → D.getD i 0 = D0.getD i 0 - cnt live L0 i + cnt live L i) ∧
  (∀ x ∈ D, lo - ((L.length : Int) - cShut live closed L) ≤ x ∧ x ≤ hi + ((L.length : Int) - cShut live closed L)) ∧
  (Settled live closed RS D0 L0 → D = D0 ∧ L = L0)

theorem inv2_move {live : List ByteArray} {closed : List Bool} {RS : List (List ByteArray)} {D0 : List Int} {L0 : List ByteArray} {lo hi : Int} {D : List Int} {L : List ByteArray}
    (h : Inv2 live closed RS D0 L0 lo hi D L) (hnd : live.Nodup) (hcl : closed.length = live.length) {k f t : Nat} (hk : k < L.length) (hlohi : -1073741824 ≤ lo ∧ hi ≤ 1073758208) (hN : L.length ≤ 4096)
    (ht : targetF live closed D (L.getD k ByteArray.empty) (RS.getD k []) = some (f, t)) :
    Inv2 live closed RS D0 L0 lo hi (moveF D f t) (L.set k (live.getD t ByteArray.empty)) ∧ Phi live closed (moveF D f t) (L.set k (live.getD t ByteArray.empty)) < Phi live closed D L := by
  obtain ⟨h1, h2, h3, h4, h5, h6⟩ := h
  obtain ⟨hf, htop, hdiff, hne⟩ := targetF_some ht
  obtain ⟨id, hid, hidt, _⟩ := pick_some htop
  have hfl : f < live.length := idx_lt hf
  have htl : t < live.length := idx_lt hidt
  obtain ⟨hot, _⟩ := top_some htop
  have hLk : L.getD k ByteArray.empty = L[k] := by simp [hk]
  have hlt : live.getD t ByteArray.empty = id := by
    have := idx_get hidt
    simp [List.getD_eq_getElem?_getD, this]
  rw [hlt]
  rw [hLk] at hf ht
  have hmem : id ∈ RS.getD k [] := hid
  have hshk : shutL live closed L[k] = closed.getD f false := by unfold shutL; rw [hf]
  have hshx : shutL live closed id = false := by unfold shutL; rw [hidt]; exact hot
  have hcs := cShut_set live closed L k id hk
  rw [hshk, hshx] at hcs
  simp only [Bool.false_eq_true, if_false, Int.add_zero] at hcs
  have hcle := cShut_le live closed L
  have hDf := h5 (D.getD f 0) (getD_mem (by omega))
  have hDt := h5 (D.getD t 0) (getD_mem (by omega))
  have hset : (L.set k id).length = L.length := by simp
  refine ⟨⟨by rw [length_moveF]; exact h1, by rw [hset]; exact h2, ?_, ?_, ?_, ?_⟩, ?_⟩
  · intro j hj
    rw [hset] at hj
    by_cases hjk : j = k
    · subst hjk
      have e : (L.set j id).getD j ByteArray.empty = id := by simp [List.getD_eq_getElem?_getD, hj]
      rw [e]
      exact ⟨(fun hn => by rw [hidt] at hn; cases hn), fun _ => .inr hmem⟩
    · have hkj : ¬ k = j := fun q => hjk q.symm
      have e : (L.set k id).getD j ByteArray.empty = L.getD j ByteArray.empty := by
        simp [List.getD_eq_getElem?_getD, List.getElem?_set, hkj]
      rw [e]
      exact h3 j hj
  · intro i hi
    rw [getD_moveF D f t i (by omega) (by omega) hne, cnt_set live L k i id hk, hf, hidt]
    have := h4 i hi
    by_cases e1 : i = t
    · subst e1
      simp only [Option.some.injEq, hne, if_true, if_false]
      omega
    · by_cases e2 : i = f
      · subst e2
        simp only [Option.some.injEq, e1, if_true, if_false, fun q : t = i => e1 q.symm]
        omega
      · simp only [Option.some.injEq, e1, e2, if_false, fun q : t = i => e1 q.symm, fun q : f = i => e2 q.symm]
        omega
  · rw [hset]
    have b0 : ∀ y ∈ D, (lo - ((L.length : Int) - cShut live closed (L.set k id))) ≤ y ∧ y ≤ hi + ((L.length : Int) - cShut live closed (L.set k id)) := by
      intro y hy
      have := h5 y hy
      rw [hcs]
      split <;> omega
    unfold moveF
    have hb1 : lo - ((L.length : Int) - cShut live closed (L.set k id)) ≤ D.getD f 0 - 1 ∧ D.getD f 0 - 1 ≤ hi + ((L.length : Int) - cShut live closed (L.set k id)) := by
      rw [hcs]
      rcases hdiff with hd | hd
      · rw [hd]; simp only [if_true]; omega
      · split <;> omega
    refine mem_set_bound (mem_set_bound b0 hb1) ?_
    rw [getD_set _ _ _ _ (by omega)]
    simp only [hne, if_false]
    rw [hcs]
    rcases hdiff with hd | hd
    · rw [hd]; simp only [if_true]; omega
    · split <;> omega
  · intro hs
    obtain ⟨rfl, rfl⟩ := h6 hs
    have := (hs k hk).2
    rw [hLk, ht] at this
    cases this
  · unfold Phi
    have hsq := sq_move D closed f t (by omega) (by omega) (by omega) hne hot
    have n1 := sq_nonneg (moveF D f t) closed
    have n2 := sq_nonneg D closed
    rw [hsq] at n1 ⊢
    cases hcf : closed.getD f false with
    | true =>
      rw [hcf] at hcs n1
      simp only [if_true] at hcs n1 ⊢
      have : 1 ≤ cShut live closed L := by omega
      omega
    | false =>
      rw [hcf] at hcs n1 hdiff
      simp only [Bool.false_eq_true, if_false, false_or] at hcs n1 hdiff ⊢
      omega

/-! ### the leads keep -/
def Inv1 (live : List ByteArray) (closed : List Bool) (RS : List (List ByteArray)) (D0 : List Int) (L0 : List ByteArray) (lo hi : Int) (k : Nat) (D : List Int) (L : List ByteArray) : Prop :=
  D.length = live.length ∧ L.length = k ∧
  (∀ j, j < k → Cl live (L0.getD j ByteArray.empty) (RS.getD j []) (L.getD j ByteArray.empty)) ∧
  (∀ i, i < live.length → D.getD i 0 = D0.getD i 0 - cnt live (L0.take k) i + cnt live L i) ∧
  (∀ x ∈ D, lo ≤ x ∧ x ≤ hi + k) ∧
  (Settled live closed RS D0 L0 → D = D0 ∧ L = L0.take k)

theorem inv1_start {live : List ByteArray} {closed : List Bool} {RS : List (List ByteArray)} {D0 : List Int} {L0 : List ByteArray} {lo hi : Int} (hl : D0.length = live.length) (hb : ∀ x ∈ D0, lo ≤ x ∧ x ≤ hi) : Inv1 live closed RS D0 L0 lo hi 0 D0 [] :=
  ⟨hl, rfl, fun j hj => by omega, fun i _ => by simp [cnt], fun x hx => by have := hb x hx; omega, fun _ => ⟨rfl, by simp⟩⟩

theorem inv1_lead {live : List ByteArray} {closed : List Bool} {RS : List (List ByteArray)} {D0 : List Int} {L0 : List ByteArray} {lo hi : Int} {k : Nat} {D : List Int} {L : List ByteArray}
    (h : Inv1 live closed RS D0 L0 lo hi k D L) (hnd : live.Nodup) (hne : ByteArray.empty ∉ live) (hk : k < L0.length) :
    Inv1 live closed RS D0 L0 lo hi (k + 1) (leadF live closed D (L0.getD k ByteArray.empty) (RS.getD k [])).1 (L ++ [(leadF live closed D (L0.getD k ByteArray.empty) (RS.getD k [])).2]) := by
  obtain ⟨h1, h2, h3, h4, h5, h6⟩ := h
  have hLk : L0.getD k ByteArray.empty = L0[k] := by simp [hk]
  have htk : L0.take (k + 1) = L0.take k ++ [L0[k]] := List.take_succ_eq_append_getElem hk
  have hsnoc : ∀ (x : ByteArray) (j : Nat), (L ++ [x]).getD j ByteArray.empty = if j = k then x else L.getD j ByteArray.empty := by
    intro x j
    simp only [List.getD_eq_getElem?_getD, List.getElem?_append, h2]
    by_cases hjk : j = k
    · subst hjk; simp
    · by_cases hlt : j < k
      · simp [hlt, hjk]
      · have e1 : ∃ q, j - k = q + 1 := ⟨j - k - 1, by omega⟩
        obtain ⟨q, hq⟩ := e1
        have e2 : L[j]? = none := List.getElem?_eq_none (by omega)
        simp [hlt, hjk, hq, e2]
  have fin : ∀ (D' : List Int) (x : ByteArray), D'.length = live.length → Cl live L0[k] (RS.getD k []) x →
      (∀ i, i < live.length → D'.getD i 0 = D.getD i 0 - (if idx live L0[k] = some i then 1 else 0) + (if idx live x = some i then 1 else 0)) →
      (∀ y ∈ D', lo ≤ y ∧ y ≤ hi + ((k + 1 : Nat) : Int)) → (Settled live closed RS D0 L0 → D' = D ∧ x = L0[k]) → Inv1 live closed RS D0 L0 lo hi (k + 1) D' (L ++ [x]) := by
    intro D' x f1 f2 f3 f4 f5
    refine ⟨f1, by simp [h2], ?_, ?_, f4, ?_⟩
    · intro j hj
      rw [hsnoc]
      by_cases hjk : j = k
      · subst hjk; simp only [if_true]; rw [hLk]; exact f2
      · simp only [hjk, if_false]; exact h3 j (by omega)
    · intro i hi
      rw [f3 i hi, h4 i hi, htk, cnt_snoc, cnt_snoc]; omega
    · intro hs
      obtain ⟨e1, e2⟩ := h6 hs
      obtain ⟨e3, e4⟩ := f5 hs
      exact ⟨by rw [e3, e1], by rw [e2, e4, htk]⟩
  rw [hLk]
  unfold leadF
  cases hi : idx live L0[k] with
  | some f =>
    refine fin D L0[k] h1 ⟨fun hn => ?_, fun _ => .inl rfl⟩ ?_ ?_ ?_
    · rw [hi] at hn; cases hn
    · intro i _; omega
    · intro y hy; have := h5 y hy; omega
    · intro _; exact ⟨rfl, rfl⟩
  | none =>
    simp only
    cases hb : best live D closed (RS.getD k []) with
    | none =>
      have hemp : idx live ByteArray.empty = none := idx_none.2 hne
      refine fin D ByteArray.empty h1 ⟨fun _ => ⟨rfl, hi, best_none hb⟩, fun hn => absurd hemp hn⟩ ?_ ?_ ?_
      · intro i _; rw [hi, hemp]; simp
      · intro y hy; have := h5 y hy; omega
      · intro hs
        have := (hs k hk).1
        obtain ⟨e1, _⟩ := h6 hs
        rw [hLk] at this
        unfold leadF at this
        rw [hi] at this
        simp only at this
        rw [← e1, hb] at this
        simp only [Prod.mk.injEq] at this
        exact ⟨rfl, this.2⟩
    | some b =>
      obtain ⟨id, hid, hidb, _⟩ := pick_some hb
      have hbl : b < live.length := idx_lt hidb
      have hlb : live.getD b ByteArray.empty = id := by
        have := idx_get hidb
        simp [List.getD_eq_getElem?_getD, this]
      simp only
      rw [hlb]
      refine fin _ id (by simpa using h1) ⟨fun hn => ?_, fun _ => .inr hid⟩ ?_ ?_ ?_
      · rw [hidb] at hn; cases hn
      · intro i _
        rw [getD_set _ _ _ _ (by omega), hi, hidb]
        by_cases hib : b = i
        · subst hib; simp
        · simp [hib]
      · have hDb := h5 (D.getD b 0) (getD_mem (by omega))
        refine mem_set_bound (fun y hy => ?_) (by omega)
        have := h5 y hy; omega
      · intro hs
        have := (hs k hk).1
        obtain ⟨e1, _⟩ := h6 hs
        rw [hLk] at this
        unfold leadF at this
        rw [hi] at this
        simp only at this
        rw [← e1, hb] at this
        simp only [Prod.mk.injEq] at this
        rw [hlb] at this
        exact this

theorem inv2_of_inv1 {live : List ByteArray} {closed : List Bool} {RS : List (List ByteArray)} {D0 : List Int} {L0 : List ByteArray} {lo hi : Int} {D : List Int} {L : List ByteArray}
    (h : Inv1 live closed RS D0 L0 lo hi L0.length D L) : Inv2 live closed RS D0 L0 lo (hi + L0.length) D L := by
  obtain ⟨h1, h2, h3, h4, h5, h6⟩ := h
  rw [List.take_length] at h4 h6
  have hc := cShut_le live closed L
  refine ⟨h1, h2, fun j hj => h3 j (by omega), h4, fun x hx => ?_, h6⟩
  have := h5 x hx
  omega

end Go.Proofs.Qxb6603051a
