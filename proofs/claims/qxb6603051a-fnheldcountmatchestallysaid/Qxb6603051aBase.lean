/-
  Generic lemmas (no program): a slice value read as a list of cells ('Rd'), kept over 'Below'.
-/
import Derived.WalkKit
import Derived.WalkSpells
import Derived.Below
import Derived.WalkSmall
namespace Go.Proofs.Qxb6603051a
open Go.RowKit

/-- The slice at 'ao' begins with the one-cell values 'xs' (an empty list says nothing). -/
def Rd (w : World) (ao : Option Addr) (xs : List Value) : Prop :=
  ∀ i v, xs[i]? = some v → ∃ b off, ao = some ⟨b, off, none⟩ ∧ w.cell? ⟨b, off + i, none⟩ = some v

theorem Rd.nil (w : World) (ao : Option Addr) : Rd w ao [] := by
  intro i v h; simp at h

theorem Rd.below {w w' : World} {ao : Option Addr} {xs : List Value} (h : Rd w ao xs) (hb : Below w.heap.size w w') : Rd w' ao xs := by
  intro i v hv
  obtain ⟨b, off, rfl, hc⟩ := h i v hv
  exact ⟨b, off, rfl, cell_later hb hc⟩

theorem Rd.grown {w w' : World} {row : Option Nat} {ao : Option Addr} {xs : List Value} (h : Rd w ao xs) (hb : w.grownBy w' row) (hne : ∀ a, ao = some a → some a.block ≠ row) : Rd w' ao xs := by
  intro i v hv
  obtain ⟨b, off, rfl, hc⟩ := h i v hv
  exact ⟨b, off, rfl, hb.cell hc (hne ⟨b, off, none⟩ rfl)⟩

theorem Rd.at {w : World} {ao : Option Addr} {xs : List Value} (h : Rd w ao xs) {i : Nat} (hi : i < xs.length) :
    ∃ b off, ao = some ⟨b, off, none⟩ ∧ w.cell? ⟨b, off + i, none⟩ = some xs[i] :=
  h i _ (List.getElem?_eq_getElem hi)

theorem Rd.atInt {w : World} {k : IntKind} {ao : Option Addr} {zs : List Int} (h : Rd w ao (zs.map (Value.int k))) {i : Nat} (hi : i < zs.length) :
    ∃ b off, ao = some ⟨b, off, none⟩ ∧ w.cell? ⟨b, off + i, none⟩ = some (.int k zs[i]) := by
  have := h.at (i := i) (by simpa using hi)
  simpa using this

/-- What a slice owns can be read. -/
theorem own_rd {w : World} {base : Nat} {e : TypeId} {ao : Option Addr} {n c : Nat} {xs : List Value} (h : w.ownsRow base e 1 (.slice ao n c) n xs) : Rd w ao xs := by
  intro i v hv
  cases ao with
  | none =>
    rcases h.2 with ⟨_, hn⟩ | ⟨g, cap, cur, hh, _⟩
    · have := h.1; subst hn; simp at this; subst this; simp at hv
    · simp at hh
  | some a =>
    rcases h.2 with ⟨hh, _⟩ | ⟨g, cap, cur, hh, _⟩
    · simp at hh
    · simp at hh
      obtain ⟨rfl, rfl⟩ := hh
      have := h.cells (g := g) rfl i v hv
      refine ⟨g, 0, rfl, ?_⟩
      rw [Addr.add_lit] at this
      exact this

theorem own_below {w w' : World} {base : Nat} {e : TypeId} {size n : Nat} {v : Value} {xs : List Value} (h : w.ownsRow base e size v n xs) (hb : Below w.heap.size w w') : w'.ownsRow base e size v n xs := by
  refine ⟨h.1, ?_⟩
  rcases h.2 with hn | ⟨g, cap, cur, rfl, hbg, hgg, rest⟩
  · exact .inl hn
  · refine .inr ⟨g, cap, cur, rfl, hbg, ?_, rest⟩
    rw [hb.block g (Array.getElem?_eq_some_iff.1 hgg).1]
    exact hgg

theorem own_mono {w : World} {base base' : Nat} {e : TypeId} {size n : Nat} {v : Value} {xs : List Value} (h : w.ownsRow base e size v n xs) (hb : base' ≤ base) : w.ownsRow base' e size v n xs := by
  refine ⟨h.1, ?_⟩
  rcases h.2 with hn | ⟨g, cap, cur, rfl, hbg, hgg, rest⟩
  · exact .inl hn
  · exact .inr ⟨g, cap, cur, rfl, by omega, hgg, rest⟩

/-- A block that holds just 'xs' is owned by the slice at its head. -/
theorem own_of_block {w : World} {base : Nat} {e : TypeId} {g : Nat} {xs : List Value} (h : w.heap[g]? = some (.cells xs.toArray e (0, 0))) (hb : base ≤ g) (hm : xs.length ≤ maxLen) :
    w.ownsRow base e 1 (.slice (some ⟨g, 0, none⟩) xs.length xs.length) xs.length xs :=
  ⟨by simp, .inr ⟨g, xs.length, xs.toArray, rfl, hb, h, Nat.le_refl _, hm, by simp, by simp⟩⟩

theorem toArray_set {xs : List Value} {k : Nat} {u : Value} : (xs.toArray.setIfInBounds k u) = (xs.set k u).toArray := by simp

theorem block_setCell {w : World} {g k : Nat} {xs : List Value} {e : TypeId} (h : w.heap[g]? = some (.cells xs.toArray e (0, 0))) (u : Value) :
    (w.setCell ⟨g, k, none⟩ u).heap[g]? = some (.cells (xs.set k u).toArray e (0, 0)) := by
  rw [heap_setCell_same w g k _ e u h]; simp

theorem cell_of_block {w : World} {g k : Nat} {xs : List Value} {e : TypeId} (h : w.heap[g]? = some (.cells xs.toArray e (0, 0))) : w.cell? ⟨g, k, none⟩ = xs[k]? := by
  simp [World.cell?, h]

theorem free_of_block {w : World} {g k : Nat} {xs : List Value} {e : TypeId} (h : w.heap[g]? = some (.cells xs.toArray e (0, 0))) : w.frozen? ⟨g, k, none⟩ = false := by
  simp [World.frozen?, h]

theorem size_setCell (w : World) (a : Addr) (u : Value) : (w.setCell a u).heap.size = w.heap.size := by simp [World.setCell]

/-- One round of a loop that fills a new row: the first k cells are the new ones, the rest as made. -/
theorem fill_set (z u : Value) : ∀ (xs : List Value) (k : Nat), xs[k]? = some u →
    ((xs.take k) ++ List.replicate (xs.length - k) z).set k u = (xs.take (k + 1)) ++ List.replicate (xs.length - (k + 1)) z
  | [], k, h => by simp at h
  | x :: xs, 0, h => by
    simp at h; subst h
    simp [List.replicate_succ]
  | x :: xs, k + 1, h => by
    have := fill_set z u xs k (by simpa using h)
    simpa using this

theorem fill_get {xs : List Value} {z : Value} {k : Nat} (hk : k < xs.length) : ((xs.take k) ++ List.replicate (xs.length - k) z)[k]? = some z := by
  rw [List.getElem?_append_right (by simp; omega)]
  simp [List.getElem?_replicate, Nat.min_eq_left (Nat.le_of_lt hk)]
  omega

theorem fill_full {xs : List Value} {z : Value} : (xs.take xs.length) ++ List.replicate (xs.length - xs.length) z = xs := by simp

theorem own_shape {w : World} {base : Nat} {e : TypeId} {size n : Nat} {v : Value} {xs : List Value} (h : w.ownsRow base e size v n xs) : ∃ ao c, v = .slice ao n c ∧ n ≤ c ∧ (ao = none → n = 0 ∧ c = 0) := by
  rcases h.2 with ⟨rfl, rfl⟩ | ⟨g, cap, cur, rfl, _, _, h, _⟩
  · exact ⟨_, _, rfl, Nat.le_refl _, fun _ => ⟨rfl, rfl⟩⟩
  · exact ⟨_, _, rfl, h, fun h => by cases h⟩

/-- A block of another element type is not the owned one. -/
theorem own_ne {w : World} {base : Nat} {e e' : TypeId} {size n g : Nat} {v : Value} {xs : List Value} {cs : Array Value} {f : Nat × Nat} (h : w.ownsRow base e size v n xs) (hg : w.heap[g]? = some (.cells cs e' f)) (hne : e ≠ e') : some g ≠ v.ownBlock := by
  rcases h.2 with ⟨rfl, rfl⟩ | ⟨g', cap, cur, rfl, _, hh, _⟩
  · simp [Value.ownBlock]
  · simp only [Value.ownBlock, ne_eq, Option.some.injEq]
    rintro rfl
    rw [hh] at hg
    simp at hg
    exact hne hg.2.1

theorem append_types {P : Program} (w : World) (t u ty e : TypeId) (ht : P.underlying t = some (.slice e)) (hu : P.underlying u = some (.slice e)) (i : TypeInfo) (hi : P.info? e = some i) (ao : Option Addr) (n c : Nat) (x : Value) :
    (Builtin.append_ #[t, u] ty #[.slice ao n c, x]).run P w = (Builtin.append_ #[t, t] ty #[.slice ao n c, x]).run P w := by
  simp [Builtin.append_, run_underlying ht, run_underlying hu, sizeOf, typeInfo, hi]

/-- 'append(s, x...)', s nil or the call's own, x whatever can be read (one cell an element). -/
theorem run_append_view {P : Program} (w : World) (base : Nat) (t u ty e : TypeId) (i : TypeInfo) (z : Value) (bytes : Nat) (ht : P.underlying t = some (.slice e)) (hu : P.underlying u = some (.slice e)) (hi : P.info? e = some i) (hz : i.zero = some z)
    (hsize : i.size = 1) (hby : i.bytes = bytes) (hzs : z.cells.size = 1)
    (v : Value) (n : Nat) (xs : List Value) (hown : w.ownsRow base e 1 v n xs) (ao : Option Addr) (m c : Nat) (news : List Value) (hl : news.length = m) (hn : ao = none → m = 0 ∧ c = 0) (hnews : Rd w ao news)
    (h1 : ∀ u ∈ news, u.oneCell' = true) (h63 : n + m ≤ maxLen) (hbytes : (n + m) * bytes ≤ 140737488355328) (hbase : base ≤ w.heap.size) :
    ∃ v' w', (Builtin.append_ #[t, u] ty #[v, .slice ao m c]).run P w = .ok v' w' ∧ w'.ownsRow base e 1 v' (n + m) (xs ++ news) ∧ w.grownBy w' v.ownBlock := by
  have hv : ∃ a0 n0 c0, v = .slice a0 n0 c0 := by
    rcases hown.2 with ⟨rfl, _⟩ | ⟨g, cap, cur, rfl, _⟩
    · exact ⟨_, _, _, rfl⟩
    · exact ⟨_, _, _, rfl⟩
  obtain ⟨a0, n0, c0, rfl⟩ := hv
  rw [append_types w t u ty e ht hu i hi]
  cases ao with
  | none =>
    obtain ⟨rfl, rfl⟩ := hn rfl
    obtain rfl : news = [] := List.eq_nil_of_length_eq_zero hl
    exact ⟨_, w, run_append_owned_none w base t ty e i 1 ht hi _ n xs hown, by simpa using hown, World.grownBy.refl _ _⟩
  | some ad =>
    obtain ⟨v', w', hr, h2, h3, _⟩ := run_append_own (P := P) w base t ty e i z 1 bytes ht hi hz hsize hby hzs (by decide) _ n xs hown ad m c news (by simpa using hl)
      (fun j u hj => by
        obtain ⟨b, off, hh, hcell⟩ := hnews j u hj
        simp only [Option.some.injEq] at hh
        subst hh
        rw [Addr.add_lit]; exact hcell) h1 h63 hbytes hbase
    exact ⟨v', w', hr, h2, h3⟩

theorem wpList_append_view {P : Program} (w : World) {ops : Array Oper} {rest : List Oper} {o : Oper} {a : Act} {Q : Exit → Act → World → Prop} (hgd : o.guard = none) (s x : Operand) (t u : TypeId)
    (ho : o.op = .call { callee := .builtin .append, args := #[s, x], argTypes := #[t, u] })
    (base : Nat) (e : TypeId) (i : TypeInfo) (z : Value) (bytes : Nat) (ht : P.underlying t = some (.slice e)) (hu : P.underlying u = some (.slice e)) (hi : P.info? e = some i) (hz : i.zero = some z)
    (hsize : i.size = 1) (hby : i.bytes = bytes) (hzs : z.cells.size = 1)
    (v : Value) (n : Nat) (xs : List Value) (hs : a.eval s = v) (hown : w.ownsRow base e 1 v n xs) (ao : Option Addr) (m c : Nat) (news : List Value) (hx : a.eval x = .slice ao m c) (hl : news.length = m) (hn : ao = none → m = 0 ∧ c = 0) (hnews : Rd w ao news)
    (h1 : ∀ u ∈ news, u.oneCell' = true) (h63 : n + m ≤ maxLen) (hbytes : (n + m) * bytes ≤ 140737488355328) (hbase : base ≤ w.heap.size)
    (h : ∀ v' w', w'.ownsRow base e 1 v' (n + m) (xs ++ news) → w.grownBy w' v.ownBlock → wpList P ops Q rest (a.put o.dst v') w') : wpList P ops Q (o :: rest) a w := by
  refine wpList_plain hgd fun K hK => ?_
  obtain ⟨v', w', hr, h2, h3⟩ := run_append_view (P := P) w base t u o.type e i z bytes ht hu hi hz hsize hby hzs v n xs hown ao m c news hl hn hnews h1 h63 hbytes hbase
  unfold Oper.wp execOp
  simp only [ho, resolve, invoke, builtin, Sem.run_bind, Sem.run_pure, Result.andThen_ok, List.map_toArray, List.map_cons, List.map_nil, hs, hx, hr]
  exact hK _ _ (h v' w' h2 h3)


/-- The value v is a slice that reads as the list xs, each element's cell u as E says. -/
def Slc {α : Type} (E : World → Value → α → Prop) (w : World) (v : Value) (xs : List α) : Prop :=
  ∃ ao n c, v = .slice ao n c ∧ xs.length = n ∧ n ≤ c ∧ (ao = none → n = 0 ∧ c = 0) ∧ ∀ i x, xs[i]? = some x → ∃ b off u, ao = some ⟨b, off, none⟩ ∧ w.cell? ⟨b, off + i, none⟩ = some u ∧ E w u x

def EStr (_ : World) (u : Value) (s : ByteArray) : Prop := u = .string s
def EInt (_ : World) (u : Value) (z : Int) : Prop := u = .int .i64 z
def EBool (_ : World) (u : Value) (z : Bool) : Prop := u = .bool z

theorem Slc.mono {α : Type} {E : World → Value → α → Prop} {w w' : World} {v : Value} {xs : List α} (h : Slc E w v xs) (hb : ∀ a u, w.cell? a = some u → w'.cell? a = some u) (hE : ∀ u x, E w u x → E w' u x) : Slc E w' v xs := by
  obtain ⟨ao, n, c, rfl, h1, h2, h3, h4⟩ := h
  refine ⟨ao, n, c, rfl, h1, h2, h3, fun i x hx => ?_⟩
  obtain ⟨b, off, u, h5, h6, h7⟩ := h4 i x hx
  exact ⟨b, off, u, h5, hb _ _ h6, hE _ _ h7⟩

theorem Slc.at {α : Type} {E : World → Value → α → Prop} {w : World} {ao : Option Addr} {n c : Nat} {xs : List α} (h : Slc E w (.slice ao n c) xs) {i : Nat} (hi : i < xs.length) :
    ∃ b off u, ao = some ⟨b, off, none⟩ ∧ w.cell? ⟨b, off + i, none⟩ = some u ∧ E w u xs[i] := by
  obtain ⟨ao', n', c', hv, h1, h2, h3, h4⟩ := h
  cases hv
  exact h4 i _ (List.getElem?_eq_getElem hi)

theorem Slc.len {α : Type} {E : World → Value → α → Prop} {w : World} {ao : Option Addr} {n c : Nat} {xs : List α} (h : Slc E w (.slice ao n c) xs) : xs.length = n ∧ n ≤ c ∧ (ao = none → n = 0 ∧ c = 0) := by
  obtain ⟨ao', n', c', hv, h1, h2, h3, h4⟩ := h
  cases hv
  exact ⟨h1, h2, h3⟩

/-- An owned row of one-cell values reads as a slice. -/
theorem Slc.of_rd {α : Type} {E : World → Value → α → Prop} {w : World} {ao : Option Addr} {n c : Nat} {us : List Value} {xs : List α} (h : Rd w ao us) (hl : us.length = n) (hx : xs.length = n) (hc : n ≤ c) (hn : ao = none → n = 0 ∧ c = 0)
    (hE : ∀ (i : Nat) u x, us[i]? = some u → xs[i]? = some x → E w u x) : Slc E w (.slice ao n c) xs := by
  refine ⟨ao, n, c, rfl, hx, hc, hn, fun i x hi => ?_⟩
  have hlt : i < us.length := by have := (List.getElem?_eq_some_iff.1 hi).1; omega
  obtain ⟨b, off, h1, h2⟩ := h.at hlt
  exact ⟨b, off, _, h1, h2, hE i _ x (List.getElem?_eq_getElem hlt) hi⟩

theorem below_cells {w w' : World} (hb : Below w.heap.size w w') : ∀ a u, w.cell? a = some u → w'.cell? a = some u := fun _ _ h => cell_later hb h

theorem Slc.below {α : Type} {E : World → Value → α → Prop} {w w' : World} {v : Value} {xs : List α} (h : Slc E w v xs) (hb : Below w.heap.size w w') (hE : ∀ u x, E w u x → E w' u x) : Slc E w' v xs := h.mono (below_cells hb) hE

abbrev Strs := Slc EStr
abbrev Ints := Slc EInt
abbrev Bools := Slc EBool
abbrev Nest := Slc (Slc EStr)
abbrev NestI := Slc (Slc EInt)

theorem Strs.below {w w' : World} {v : Value} {xs : List ByteArray} (h : Strs w v xs) (hb : Below w.heap.size w w') : Strs w' v xs := Slc.below h hb (fun _ _ h => h)
theorem Ints.below {w w' : World} {v : Value} {xs : List Int} (h : Ints w v xs) (hb : Below w.heap.size w w') : Ints w' v xs := Slc.below h hb (fun _ _ h => h)
theorem Bools.below {w w' : World} {v : Value} {xs : List Bool} (h : Bools w v xs) (hb : Below w.heap.size w w') : Bools w' v xs := Slc.below h hb (fun _ _ h => h)
theorem Nest.below {w w' : World} {v : Value} {xs : List (List ByteArray)} (h : Nest w v xs) (hb : Below w.heap.size w w') : Nest w' v xs := Slc.below h hb (fun _ _ h => Strs.below h hb)
theorem NestI.below {w w' : World} {v : Value} {xs : List (List Int)} (h : NestI w v xs) (hb : Below w.heap.size w w') : NestI w' v xs := Slc.below h hb (fun _ _ h => Ints.below h hb)

theorem Slc.shape {α : Type} {E : World → Value → α → Prop} {w : World} {v : Value} {xs : List α} (h : Slc E w v xs) : ∃ ao c, v = .slice ao xs.length c ∧ xs.length ≤ c ∧ (ao = none → xs.length = 0 ∧ c = 0) := by
  obtain ⟨ao', n', c', hv, h1, h2, h3, h4⟩ := h
  subst h1
  exact ⟨ao', c', hv, h2, h3⟩

end Go.Proofs.Qxb6603051a
