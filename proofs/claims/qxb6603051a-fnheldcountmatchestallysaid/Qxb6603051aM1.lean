/-
  Maps keyed by strings, as association lists: what lookup, update, delete and len do to them. No program.
-/
import Derived.Test.Qxb6603051aBase
import Derived.MapKept
namespace Go.Proofs.Qxb6603051a
open Go.RowKit Go.MapKept

abbrev AMap := List (ByteArray × Value)

/-- The place and the value at key k. -/
def afind : AMap → ByteArray → Option (Nat × Value)
  | [], _ => none
  | p :: m, k => if k = p.1 then some (0, p.2) else (afind m k).map fun q => (q.1 + 1, q.2)

def aget (m : AMap) (k : ByteArray) : Option Value := (afind m k).map (·.2)
def aset (m : AMap) (k : ByteArray) (v : Value) : AMap := match afind m k with | some (i, _) => m.set i (k, v) | none => m ++ [(k, v)]
def adel (m : AMap) (k : ByteArray) : AMap := match afind m k with | some (i, _) => m.eraseIdx i | none => m

/-- Block r is a map that holds just the entries m. -/
def MapIs (w : World) (r : Nat) (m : AMap) : Prop :=
  ∃ es clk, w.heap[r]? = some (.map es clk) ∧ es.toList.map (fun e => (e.key, e.val)) = m.map (fun p => (Value.string p.1, p.2))

theorem findNow_afind (k : ByteArray) : ∀ (l : List MapEntry) (m : AMap) (i : Nat), l.map (fun e => (e.key, e.val)) = m.map (fun p => (Value.string p.1, p.2)) →
    Instr.findNow .string (.string k) l i = some ((afind m k).map fun q => (i + q.1, q.2))
  | [], [], i, _ => rfl
  | [], _ :: _, i, h => by simp at h
  | _ :: _, [], i, h => by simp at h
  | e :: l, p :: m, i, h => by
    simp only [List.map_cons, List.cons.injEq, Prod.mk.injEq] at h
    obtain ⟨⟨h1, h2⟩, h3⟩ := h
    have ih := findNow_afind k l m (i + 1) h3
    simp only [Instr.findNow, h1, Instr.sameNow, afind]
    by_cases hk : k = p.1
    · have hb : (k == p.1) = true := (bytes_beq _ _).2 hk
      simp [hk, h2]
      have hb' : (p.1 == p.1) = true := (bytes_beq _ _).2 rfl
      simp [hb']
    · have hb : (k == p.1) = false := by
        cases hh : (k == p.1)
        · rfl
        · exact absurd ((bytes_beq _ _).1 hh) hk
      simp [hb, hk, ih]
      cases afind m k <;> simp; omega

theorem afind_some {k : ByteArray} : ∀ {m : AMap} {i : Nat} {v : Value}, afind m k = some (i, v) → m[i]? = some (k, v)
  | [], i, v, h => by simp [afind] at h
  | p :: m, i, v, h => by
    simp only [afind] at h
    split at h
    · rename_i hk
      simp only [Option.some.injEq, Prod.mk.injEq] at h
      obtain ⟨rfl, rfl⟩ := h
      subst hk; rfl
    · obtain ⟨q, h1, h2⟩ := Option.map_eq_some_iff.1 h
      simp only [Prod.mk.injEq] at h2
      obtain ⟨rfl, rfl⟩ := h2
      simpa using afind_some (m := m) (i := q.1) (v := q.2) h1

theorem afind_none {k : ByteArray} : ∀ {m : AMap}, afind m k = none ↔ k ∉ m.map (·.1)
  | [] => by simp [afind]
  | p :: m => by
    have := afind_none (k := k) (m := m)
    simp only [afind, List.map_cons, List.mem_cons, not_or]
    split
    · rename_i h; simp [h]
    · rename_i h; simp [h, this]

theorem map_eraseIdx' {α β : Type} (f : α → β) : ∀ (l : List α) (j : Nat), (l.eraseIdx j).map f = (l.map f).eraseIdx j
  | [], _ => by simp
  | _ :: _, 0 => by simp
  | _ :: l, j + 1 => by simp [map_eraseIdx' f l j]

theorem isKey_string (k : ByteArray) : IsKey .string (.string k) := by simp [IsKey]

section
variable {P : Program} {w : World} {T K E : TypeId} {r : Nat} {m : AMap}

theorem run_lookup_my (hT : P.underlying T = some (.map K E)) (hK : P.underlying K = some .string) (z : Value) (hz : (zeroValue E).run P w = .ok z w) (h : MapIs w r m) (k : ByteArray) (ok : Bool) :
    (Instr.lookup T (.map (some r)) (.string k) ok).run P w = .ok (if ok then .tuple #[(aget m k).getD z, .bool (aget m k).isSome] else (aget m k).getD z) w := by
  obtain ⟨es, clk, hb, he⟩ := h
  have hf := findNow_afind k es.toList m 0 he
  cases ha : afind m k with
  | none =>
    rw [ha] at hf
    simp [Instr.lookup, run_underlying hT, Go.MapKept.run_getObj_map hb, run_checkKey hK (isKey_string k), run_findKey hK hf, hz, Result.andThen, aget, ha]
  | some q =>
    rw [ha] at hf
    simp [Instr.lookup, run_underlying hT, Go.MapKept.run_getObj_map hb, run_checkKey hK (isKey_string k), run_findKey hK hf, Result.andThen, aget, ha]

theorem run_lookup_nil (hT : P.underlying T = some (.map K E)) (hK : P.underlying K = some .string) (z : Value) (hz : (zeroValue E).run P w = .ok z w) (k : ByteArray) (ok : Bool) :
    (Instr.lookup T (.map none) (.string k) ok).run P w = .ok (if ok then .tuple #[z, .bool false] else z) w := by
  have hf : Instr.findNow .string (.string k) ([] : List MapEntry) 0 = some none := rfl
  simp [Instr.lookup, run_underlying hT, run_checkKey hK (isKey_string k), run_findKey hK hf, hz, Result.andThen]

theorem run_update_my (hT : P.underlying T = some (.map K E)) (hK : P.underlying K = some .string) (h : MapIs w r m) (k : ByteArray) (v : Value) :
    ∃ w', (Instr.mapUpdate T (.map (some r)) (.string k) v).run P w = .ok () w' ∧ MapIs w' r (aset m k v) ∧ w.grownBy w' (some r) ∧ w'.heap.size = w.heap.size := by
  obtain ⟨es, clk, hb, he⟩ := h
  have hf := findNow_afind k es.toList m 0 he
  have hlen : es.size = m.length := by have := congrArg List.length he; simpa using this
  cases ha : afind m k with
  | none =>
    rw [ha] at hf
    refine ⟨{ w with heap := w.heap.setIfInBounds r (.map (es.push { key := .string k, val := v, born := clk }) (clk + 1)) }, ?_, ⟨_, _, (heap_set hb).1, ?_⟩, ⟨rfl, rfl, rfl, by simp, fun j _ hj => (heap_set hb).2 j (fun e => hj (by rw [e]))⟩, by simp⟩
    · simp [Instr.mapUpdate, run_underlying hT, Go.MapKept.run_getObj_map hb, run_checkKey hK (isKey_string k), run_findKey hK hf, run_setObj_map _ hb, Result.andThen]
    · simp [aset, ha, he]
  | some q =>
    obtain ⟨i, v0⟩ := q
    rw [ha] at hf
    have hmi := afind_some ha
    have hi : i < m.length := (List.getElem?_eq_some_iff.1 hmi).1
    have hkey : (es[i]?).map (·.key) = some (.string k) := by
      have h1 : (es.toList.map (fun e => (e.key, e.val)))[i]? = some (.string k, v0) := by rw [he]; simp [hmi]
      rw [List.getElem?_map] at h1
      obtain ⟨x, h2, h3⟩ := Option.map_eq_some_iff.1 h1
      have h4 : es[i]? = some x := by simpa using h2
      rw [h4]
      simp only [Prod.mk.injEq] at h3
      simp [h3.1]
    refine ⟨{ w with heap := w.heap.setIfInBounds r (.map (es.modify i fun e => { e with key := .string k, val := v }) clk) }, ?_, ⟨_, _, (heap_set hb).1, ?_⟩, ⟨rfl, rfl, rfl, by simp, fun j _ hj => (heap_set hb).2 j (fun e => hj (by rw [e]))⟩, by simp⟩
    · simp [Instr.mapUpdate, run_underlying hT, Go.MapKept.run_getObj_map hb, run_checkKey hK (isKey_string k), run_findKey hK hf, hkey, run_keyThatStays (isKey_string k), run_setObj_map _ hb, Result.andThen]
    · simp only [aset, ha]
      apply List.ext_getElem?
      intro j
      have hj := congrArg (·[j]?) he
      simp only [List.getElem?_map] at hj
      simp only [List.getElem?_map, Array.getElem?_toList, Array.getElem?_modify, List.getElem?_set] at hj ⊢
      by_cases hij : i = j
      · subst hij
        simp [hi, show i < es.size by omega]
      · simp [hij, hj]

theorem run_delete_my (hT : P.underlying T = some (.map K E)) (hK : P.underlying K = some .string) (h : MapIs w r m) (k : ByteArray) (ty : TypeId) (T2 : TypeId) :
    ∃ w', (Builtin.delete_ #[T, T2] ty #[.map (some r), .string k]).run P w = .ok (.tuple #[]) w' ∧ MapIs w' r (adel m k) ∧ w.grownBy w' (some r) ∧ w'.heap.size = w.heap.size := by
  obtain ⟨es, clk, hb, he⟩ := h
  have hf := findNow_afind k es.toList m 0 he
  have hlen : es.size = m.length := by have := congrArg List.length he; simpa using this
  cases ha : afind m k with
  | none =>
    rw [ha] at hf
    refine ⟨{ w with heap := w.heap.setIfInBounds r (.map es clk) }, ?_, ⟨_, _, (heap_set hb).1, ?_⟩, ⟨rfl, rfl, rfl, by simp, fun j _ hj => (heap_set hb).2 j (fun e => hj (by rw [e]))⟩, by simp⟩
    · simp [Builtin.delete_, run_underlying hT, Go.MapKept.run_getObj_map hb, run_checkKey hK (isKey_string k), run_findKey hK hf, run_setObj_map _ hb, Result.andThen]
    · simp [adel, ha, he]
  | some q =>
    obtain ⟨i, v0⟩ := q
    rw [ha] at hf
    have hmi := afind_some ha
    have hi : i < m.length := (List.getElem?_eq_some_iff.1 hmi).1
    refine ⟨{ w with heap := w.heap.setIfInBounds r (.map (es.eraseIdxIfInBounds i) clk) }, ?_, ⟨_, _, (heap_set hb).1, ?_⟩, ⟨rfl, rfl, rfl, by simp, fun j _ hj => (heap_set hb).2 j (fun e => hj (by rw [e]))⟩, by simp⟩
    · simp [Builtin.delete_, run_underlying hT, Go.MapKept.run_getObj_map hb, run_checkKey hK (isKey_string k), run_findKey hK hf, run_setObj_map _ hb, Result.andThen]
    · have e1 : (es.eraseIdxIfInBounds i).toList = es.toList.eraseIdx i := by
        unfold Array.eraseIdxIfInBounds
        rw [dif_pos (by omega)]
        simp
      simp only [adel, ha, e1]
      rw [map_eraseIdx', he, map_eraseIdx']

theorem run_len_my (hT : P.underlying T = some (.map K E)) (h : MapIs w r m) (ty : TypeId) :
    (Builtin.len_ #[T] ty #[.map (some r)]).run P w = .ok (.int .i64 m.length) w := by
  obtain ⟨es, clk, hb, he⟩ := h
  have hlen : es.size = m.length := by have := congrArg List.length he; simpa using this
  simp [Builtin.len_, run_underlying hT, Go.MapKept.run_getObj_map hb, Result.andThen, goInt, hlen]

theorem run_makeMap_hint (hT : P.underlying T = some (.map K E)) (n : Int) :
    (Instr.makeMap T (some (.int .i64 n))).run P w = .ok (.map (some w.heap.size)) (w.alloc (.map #[] 0)) := by
  simp [Instr.makeMap, run_underlying hT, asInt, asIntOf, Result.andThen]

end

theorem MapIs.made (w : World) : MapIs (w.alloc (.map #[] 0)) w.heap.size [] := ⟨#[], 0, heap_alloc_new w _, rfl⟩

theorem MapIs.of_block {w w' : World} {r : Nat} {m : AMap} (h : MapIs w r m) (hb : w'.heap[r]? = w.heap[r]?) : MapIs w' r m := by
  obtain ⟨es, clk, h1, h2⟩ := h
  exact ⟨es, clk, by rw [hb]; exact h1, h2⟩

theorem MapIs.lt {w : World} {r : Nat} {m : AMap} (h : MapIs w r m) : r < w.heap.size := by
  obtain ⟨es, clk, h1, h2⟩ := h
  exact lt_of_block h1

theorem MapIs.below {w w' : World} {r : Nat} {m : AMap} (h : MapIs w r m) (hb : Below w.heap.size w w') : MapIs w' r m := h.of_block (hb.block r h.lt)

theorem MapIs.setCell {w : World} {r : Nat} {m : AMap} (h : MapIs w r m) (a : Addr) (u : Value) : MapIs (w.setCell a u) r m := by
  obtain ⟨es, clk, h1, h2⟩ := h
  refine ⟨es, clk, ?_, h2⟩
  simp only [World.setCell, Array.getElem?_modify]
  split
  · rw [h1]; simp
  · exact h1

theorem MapIs.drewN {w : World} {r : Nat} {m : AMap} (h : MapIs w r m) (n : Nat) : MapIs (w.drewN n) r m := h

/-! ### the plain laws on association lists -/
theorem aget_nil (k : ByteArray) : aget [] k = none := rfl

theorem aget_cons (p : ByteArray × Value) (m : AMap) (k : ByteArray) : aget (p :: m) k = if k = p.1 then some p.2 else aget m k := by
  unfold aget
  simp only [afind]
  split
  · rfl
  · simp [Option.map_map]; rfl

theorem aset_nil (k : ByteArray) (v : Value) : aset [] k v = [(k, v)] := rfl

theorem aset_cons (p : ByteArray × Value) (m : AMap) (k : ByteArray) (v : Value) : aset (p :: m) k v = if k = p.1 then (k, v) :: m else p :: aset m k v := by
  unfold aset
  simp only [afind]
  by_cases h : k = p.1
  · simp [h]
  · simp only [h, if_false]
    cases afind m k <;> simp

theorem adel_nil (k : ByteArray) : adel [] k = [] := rfl

theorem adel_cons (p : ByteArray × Value) (m : AMap) (k : ByteArray) : adel (p :: m) k = if k = p.1 then m else p :: adel m k := by
  unfold adel
  simp only [afind]
  by_cases h : k = p.1
  · simp [h]
  · simp only [h, if_false]
    cases afind m k <;> simp

theorem aget_aset (k k' : ByteArray) (v : Value) : ∀ m : AMap, aget (aset m k v) k' = if k' = k then some v else aget m k'
  | [] => by rw [aset_nil, aget_cons]
  | p :: m => by
    have ih := aget_aset k k' v m
    rw [aset_cons]
    split
    · rename_i h
      rw [aget_cons, aget_cons]
      split
      · rfl
      · rename_i h2; rw [if_neg]; simpa [← h] using h2
    · rename_i h
      rw [aget_cons, aget_cons, ih]
      by_cases h1 : k' = p.1
      · have : ¬ k' = k := fun e => h (by rw [← e]; exact h1)
        rw [if_pos h1, if_pos h1, if_neg this]
      · rw [if_neg h1, if_neg h1]

def Keys (m : AMap) : List ByteArray := m.map (·.1)
def Tidy (m : AMap) : Prop := (Keys m).Nodup

theorem Tidy.nil : Tidy [] := List.nodup_nil

theorem tidy_cons {p : ByteArray × Value} {m : AMap} : Tidy (p :: m) ↔ p.1 ∉ Keys m ∧ Tidy m := by
  unfold Tidy Keys; simp

theorem aget_isSome {k : ByteArray} : ∀ {m : AMap}, (aget m k).isSome = true ↔ k ∈ Keys m
  | [] => by simp [aget_nil, Keys]
  | p :: m => by
    have := aget_isSome (k := k) (m := m)
    rw [aget_cons]
    split
    · rename_i h; simp [Keys, h]
    · rename_i h; rw [this]; simp [Keys, h]

theorem aget_none {k : ByteArray} {m : AMap} : aget m k = none ↔ k ∉ Keys m := by
  rw [← aget_isSome]; simp

theorem mem_keys_aset (k k' : ByteArray) (v : Value) (m : AMap) : k' ∈ Keys (aset m k v) ↔ k' = k ∨ k' ∈ Keys m := by
  rw [← aget_isSome, aget_aset, ← aget_isSome]
  by_cases h : k' = k <;> simp [h]

theorem tidy_aset (k : ByteArray) (v : Value) : ∀ {m : AMap}, Tidy m → Tidy (aset m k v)
  | [], _ => by rw [aset_nil]; simp [Tidy, Keys]
  | p :: m, h => by
    rw [tidy_cons] at h
    rw [aset_cons]
    split
    · rename_i hk; rw [tidy_cons]; exact ⟨by simpa [hk] using h.1, h.2⟩
    · rename_i hk
      rw [tidy_cons]
      refine ⟨?_, tidy_aset k v h.2⟩
      rw [mem_keys_aset]
      exact fun q => q.elim (fun e => hk e.symm) h.1

theorem length_aset (k : ByteArray) (v : Value) : ∀ m : AMap, (aset m k v).length = if (aget m k).isSome then m.length else m.length + 1
  | [] => rfl
  | p :: m => by
    have := length_aset k v m
    rw [aset_cons, aget_cons]
    split
    · simp
    · simp [this]; split <;> rfl

theorem mem_keys_adel_sub (k k' : ByteArray) : ∀ {m : AMap}, k' ∈ Keys (adel m k) → k' ∈ Keys m
  | [], h => by simpa [adel_nil] using h
  | p :: m, h => by
    rw [adel_cons] at h
    split at h
    · simp [Keys] at h ⊢; exact .inr h
    · simp only [Keys, List.map_cons, List.mem_cons] at h ⊢
      exact h.imp id (mem_keys_adel_sub k k')

theorem tidy_adel (k : ByteArray) : ∀ {m : AMap}, Tidy m → Tidy (adel m k)
  | [], h => h
  | p :: m, h => by
    rw [tidy_cons] at h
    rw [adel_cons]
    split
    · exact h.2
    · rw [tidy_cons]; exact ⟨fun q => h.1 (mem_keys_adel_sub k _ q), tidy_adel k h.2⟩

theorem aget_adel (k k' : ByteArray) : ∀ {m : AMap}, Tidy m → aget (adel m k) k' = if k' = k then none else aget m k'
  | [], _ => by rw [adel_nil, aget_nil]; simp
  | p :: m, h => by
    rw [tidy_cons] at h
    have ih := aget_adel k k' h.2
    rw [adel_cons]
    split
    · rename_i hk
      rw [aget_cons]
      by_cases h1 : k' = k
      · subst h1; rw [if_pos rfl]; exact aget_none.2 (by rw [hk]; exact h.1)
      · rw [if_neg h1, if_neg (by rw [← hk]; exact h1)]
    · rename_i hk
      rw [aget_cons, aget_cons, ih]
      by_cases h1 : k' = p.1
      · have : ¬ k' = k := fun e => hk (by rw [← e]; exact h1)
        rw [if_pos h1, if_pos h1, if_neg this]
      · rw [if_neg h1, if_neg h1]

theorem length_adel (k : ByteArray) : ∀ m : AMap, (adel m k).length = if (aget m k).isSome then m.length - 1 else m.length
  | [] => rfl
  | p :: m => by
    have := length_adel k m
    rw [adel_cons, aget_cons]
    split
    · simp
    · simp only [List.length_cons, this]
      split
      · rename_i h
        have : 0 < m.length := by
          cases m with
          | nil => simp [aget_nil] at h
          | cons _ _ => simp
        omega
      · rfl

/-- Two tidy maps that hold the same have the same number of entries. -/
theorem length_eq_of_aget {m m' : AMap} (h : Tidy m) (h' : Tidy m') (he : ∀ k, (aget m k).isSome = (aget m' k).isSome) : m.length = m'.length := by
  have hp : (Keys m).Perm (Keys m') := by
    refine (List.perm_ext_iff_of_nodup h h').2 fun k => ?_
    rw [← aget_isSome, ← aget_isSome, he]
  simpa [Keys] using hp.length_eq

end Go.Proofs.Qxb6603051a
