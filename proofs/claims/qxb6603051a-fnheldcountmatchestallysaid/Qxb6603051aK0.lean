/-
  Seat b6603051a: what a Held reads as: three functions of the node's id; the memory of its maps.
-/
import Derived.Test.Qxb6603051aC1
import Derived.Test.Qxb6603051aM1
namespace Go.Proofs.Qxb6603051a
open Go.RowKit
set_option linter.unusedVariables false
set_option linter.unusedSimpArgs false

def upd {β : Type} (f : ByteArray → β) (a : ByteArray) (v : β) : ByteArray → β := fun x => if x = a then v else f x

theorem upd_same {β : Type} (f : ByteArray → β) (a : ByteArray) (v : β) : upd f a v a = v := by simp [upd]
theorem upd_ne {β : Type} (f : ByteArray → β) {a x : ByteArray} (v : β) (h : x ≠ a) : upd f a v x = f x := by simp [upd, h]
theorem upd_self {β : Type} (f : ByteArray → β) (a : ByteArray) : upd f a (f a) = f := by
  funext x; unfold upd; split
  · rename_i h; rw [h]
  · rfl

/-- The frame of work on maps: blocks below base, and every block of cells, stay. -/
def MF (base : Nat) (w w' : World) : Prop := Below base w w' ∧ ∀ (g : Nat) cs e f, w.heap[g]? = some (.cells cs e f) → w'.heap[g]? = some (.cells cs e f)

theorem MF.refl (base : Nat) (w : World) : MF base w w := ⟨Below.refl _ _, fun _ _ _ _ h => h⟩
theorem MF.trans {base : Nat} {a b c : World} (h : MF base a b) (k : MF base b c) : MF base a c := ⟨h.1.trans k.1, fun g cs e f q => k.2 g cs e f (h.2 g cs e f q)⟩
theorem MF.of_below {base : Nat} {w w' : World} (h : Below w.heap.size w w') (hb : base ≤ w.heap.size) : MF base w w' := ⟨h.mono hb, fun g cs e f q => by rw [h.block g (lt_of_block q)]; exact q⟩
theorem MF.of_grown {base r : Nat} {w w' : World} {m : AMap} (h : MapIs w r m) (hg : w.grownBy w' (some r)) (hb : base ≤ r) : MF base w w' := by
  have hs : base ≤ w.heap.size := Nat.le_trans hb (Nat.le_of_lt h.lt)
  refine ⟨(Below.refl base w).grown hg hs (fun j hj => by cases hj; exact hb), fun g cs e f q => ?_⟩
  rw [hg.block g (lt_of_block q) (fun e' => ?_)]
  · exact q
  · cases e'
    obtain ⟨es, clk, h1, _⟩ := h
    rw [h1] at q
    cases q
theorem MF.size {base : Nat} {w w' : World} (h : MF base w w') : w.heap.size ≤ w'.heap.size := h.1.size

/-- The map b of counts, as a function. -/
def FolRaw (w : World) (b : Nat) (f : ByteArray → Int) : Prop :=
  ∃ fm, MapIs w b fm ∧ Tidy fm ∧ ∀ k, aget fm k = if f k = 0 then none else some (.int .i64 (f k))

/-- Followers: nil where none is left. -/
def Fol (w : World) (ro : Option Nat) (f : ByteArray → Int) : Prop :=
  match ro with
  | none => ∀ k, f k = 0
  | some b => FolRaw w b f ∧ ∃ k, f k ≠ 0

theorem FolRaw.of_block {w w' : World} {b : Nat} {f : ByteArray → Int} (h : FolRaw w b f) (hb : w'.heap[b]? = w.heap[b]?) : FolRaw w' b f := by
  obtain ⟨fm, h1, h2, h3⟩ := h
  exact ⟨fm, h1.of_block hb, h2, h3⟩
theorem FolRaw.lt {w : World} {b : Nat} {f : ByteArray → Int} (h : FolRaw w b f) : b < w.heap.size := by obtain ⟨fm, h1, -⟩ := h; exact h1.lt

theorem Fol.of_block {w w' : World} {ro : Option Nat} {f : ByteArray → Int} (h : Fol w ro f) (hb : ∀ b, ro = some b → b < w.heap.size → w'.heap[b]? = w.heap[b]?) : Fol w' ro f := by
  cases ro with
  | none => exact h
  | some b => exact ⟨h.1.of_block (hb b rfl h.1.lt), h.2⟩

def HeldC (w : World) (bh base : Nat) (R L : ByteArray → Int) (F : ByteArray → ByteArray → Int) (B : ByteArray → Option Nat) (ex : Option ByteArray) : Prop :=
  (∃ mp, MapIs w bh mp ∧ Tidy mp ∧ ∀ id, ex ≠ some id → aget mp id = if R id = 0 ∧ L id = 0 ∧ B id = none then none else some (.agg #[.int .i64 (R id), .int .i64 (L id), .map (B id)])) ∧
    (∀ id, Fol w (B id) (F id)) ∧ (∀ id id' b, B id = some b → B id' = some b → id = id') ∧ (∀ id b, B id = some b → b ≠ bh ∧ base ≤ b) ∧ base ≤ bh

theorem HeldC.weak {w : World} {bh base : Nat} {R L : ByteArray → Int} {F : ByteArray → ByteArray → Int} {B : ByteArray → Option Nat} (h : HeldC w bh base R L F B none) (id : ByteArray) : HeldC w bh base R L F B (some id) := by
  obtain ⟨⟨mp, h1, h2, h3⟩, h4⟩ := h
  exact ⟨⟨mp, h1, h2, fun x _ => h3 x (fun e => by cases e)⟩, h4⟩

theorem HeldC.later {w w' : World} {bh base : Nat} {R L : ByteArray → Int} {F : ByteArray → ByteArray → Int} {B : ByteArray → Option Nat} {ex : Option ByteArray} (h : HeldC w bh base R L F B ex) (hb : Below w.heap.size w w') : HeldC w' bh base R L F B ex := by
  obtain ⟨⟨mp, h1, h2, h3⟩, h4, h5, h6, h7⟩ := h
  exact ⟨⟨mp, h1.below hb, h2, h3⟩, fun id => (h4 id).of_block (fun b _ hlt => hb.block b hlt), h5, h6, h7⟩

theorem HeldC.lt {w : World} {bh base : Nat} {R L : ByteArray → Int} {F : ByteArray → ByteArray → Int} {B : ByteArray → Option Nat} {ex : Option ByteArray} (h : HeldC w bh base R L F B ex) : bh < w.heap.size := by
  obtain ⟨⟨mp, h1, _⟩, _⟩ := h
  exact h1.lt

theorem Try.zero80 (w : World) : (zeroValue 80).run Try.prog w = .ok (.agg #[.int .i64 0, .int .i64 0, .map none]) w := by kernel_rfl
theorem Try.zero3 (w : World) : (zeroValue 3).run Try.prog w = .ok (.int .i64 0) w := by kernel_rfl

theorem HeldC.look {w : World} {bh base : Nat} {R L : ByteArray → Int} {F : ByteArray → ByteArray → Int} {B : ByteArray → Option Nat} (h : HeldC w bh base R L F B none) (id : ByteArray) :
    (Instr.lookup 58 (.map (some bh)) (.string id) false).run Try.prog w = .ok (.agg #[.int .i64 (R id), .int .i64 (L id), .map (B id)]) w := by
  obtain ⟨⟨mp, h1, h2, h3⟩, -⟩ := h
  rw [run_lookup_my (P := Try.prog) (T := 58) (K := 9) (E := 80) Try.underlying58 Try.underlying9 _ (Try.zero80 w) h1 id false, h3 id (fun e => by cases e)]
  by_cases e : R id = 0 ∧ L id = 0 ∧ B id = none
  · obtain ⟨e1, e2, e3⟩ := e
    simp [e1, e2, e3]
  · simp [e]

theorem HeldC.look2 {w : World} {bh base : Nat} {R L : ByteArray → Int} {F : ByteArray → ByteArray → Int} {B : ByteArray → Option Nat} (h : HeldC w bh base R L F B none) (id : ByteArray) :
    (Instr.lookup 58 (.map (some bh)) (.string id) true).run Try.prog w = .ok (.tuple #[.agg #[.int .i64 (R id), .int .i64 (L id), .map (B id)], .bool (decide (¬ (R id = 0 ∧ L id = 0 ∧ B id = none)))]) w := by
  obtain ⟨⟨mp, h1, h2, h3⟩, -⟩ := h
  rw [run_lookup_my (P := Try.prog) (T := 58) (K := 9) (E := 80) Try.underlying58 Try.underlying9 _ (Try.zero80 w) h1 id true, h3 id (fun e => by cases e)]
  by_cases e : R id = 0 ∧ L id = 0 ∧ B id = none
  · obtain ⟨e1, e2, e3⟩ := e
    simp [e1, e2, e3]
  · rw [if_neg e]
    simp [e]

theorem HeldC.put {w : World} {bh base : Nat} {R L : ByteArray → Int} {F : ByteArray → ByteArray → Int} {B : ByteArray → Option Nat} {id : ByteArray} (h : HeldC w bh base R L F B (some id)) (r l : Int) (hne : ¬ (r = 0 ∧ l = 0 ∧ B id = none)) :
    ∃ w', (Instr.mapUpdate 58 (.map (some bh)) (.string id) (.agg #[.int .i64 r, .int .i64 l, .map (B id)])).run Try.prog w = .ok () w' ∧ HeldC w' bh base (upd R id r) (upd L id l) F B none ∧ MF base w w' := by
  obtain ⟨⟨mp, h1, h2, h3⟩, h4, h5, h6, h7⟩ := h
  obtain ⟨w', q1, q2, q3, q4⟩ := run_update_my (P := Try.prog) (T := 58) (K := 9) (E := 80) Try.underlying58 Try.underlying9 h1 id (.agg #[.int .i64 r, .int .i64 l, .map (B id)])
  refine ⟨w', q1, ⟨⟨_, q2, tidy_aset _ _ h2, fun x _ => ?_⟩, fun x => (h4 x).of_block (fun b hb hlt => q3.block b hlt (fun e => ?_)), h5, h6, h7⟩, MF.of_grown h1 q3 h7⟩
  · rw [aget_aset]
    by_cases e : x = id
    · subst e
      rw [if_pos rfl, upd_same, upd_same, if_neg hne]
    · rw [if_neg e, upd_ne _ _ e, upd_ne _ _ e]
      exact h3 x (fun e' => e (by cases e'; rfl))
  · cases e
    exact (h6 x _ hb).1 rfl

theorem HeldC.del {w : World} {bh base : Nat} {R L : ByteArray → Int} {F : ByteArray → ByteArray → Int} {B : ByteArray → Option Nat} {id : ByteArray} (h : HeldC w bh base R L F B (some id)) (hn : B id = none) (ty : TypeId) :
    ∃ w', (Builtin.delete_ #[58, 9] ty #[.map (some bh), .string id]).run Try.prog w = .ok (.tuple #[]) w' ∧ HeldC w' bh base (upd R id 0) (upd L id 0) F B none ∧ MF base w w' := by
  obtain ⟨⟨mp, h1, h2, h3⟩, h4, h5, h6, h7⟩ := h
  obtain ⟨w', q1, q2, q3, q4⟩ := run_delete_my (P := Try.prog) (T := 58) (K := 9) (E := 80) Try.underlying58 Try.underlying9 h1 id ty 9
  refine ⟨w', q1, ⟨⟨_, q2, tidy_adel _ h2, fun x _ => ?_⟩, fun x => (h4 x).of_block (fun b hb hlt => q3.block b hlt (fun e => ?_)), h5, h6, h7⟩, MF.of_grown h1 q3 h7⟩
  · rw [aget_adel _ _ h2]
    by_cases e : x = id
    · subst e
      rw [if_pos rfl, upd_same, upd_same, if_pos ⟨rfl, rfl, hn⟩]
    · rw [if_neg e, upd_ne _ _ e, upd_ne _ _ e]
      exact h3 x (fun e' => e (by cases e'; rfl))
  · cases e
    exact (h6 x _ hb).1 rfl

/-! ### a map of counts -/
theorem FolRaw.look {w : World} {b : Nat} {f : ByteArray → Int} (h : FolRaw w b f) (k : ByteArray) : (Instr.lookup 23 (.map (some b)) (.string k) false).run Try.prog w = .ok (.int .i64 (f k)) w := by
  obtain ⟨fm, h1, h2, h3⟩ := h
  rw [run_lookup_my (P := Try.prog) (T := 23) (K := 9) (E := 3) Try.underlying23 Try.underlying9 _ (Try.zero3 w) h1 k false, h3]
  by_cases e : f k = 0 <;> simp [e]

theorem FolRaw.look2 {w : World} {b : Nat} {f : ByteArray → Int} (h : FolRaw w b f) (k : ByteArray) : (Instr.lookup 23 (.map (some b)) (.string k) true).run Try.prog w = .ok (.tuple #[.int .i64 (f k), .bool (decide (f k ≠ 0))]) w := by
  obtain ⟨fm, h1, h2, h3⟩ := h
  rw [run_lookup_my (P := Try.prog) (T := 23) (K := 9) (E := 3) Try.underlying23 Try.underlying9 _ (Try.zero3 w) h1 k true, h3]
  by_cases e : f k = 0 <;> simp [e]

/-- A count that is written, and, where it is 0, taken out again. -/
theorem FolRaw.put {w : World} {b : Nat} {f : ByteArray → Int} (h : FolRaw w b f) (k : ByteArray) (v : Int) :
    ∃ w', (Instr.mapUpdate 23 (.map (some b)) (.string k) (.int .i64 v)).run Try.prog w = .ok () w' ∧ w.grownBy w' (some b) ∧ (∃ m, MapIs w b m) ∧
      (Instr.lookup 23 (.map (some b)) (.string k) false).run Try.prog w' = .ok (.int .i64 v) w' ∧ (v ≠ 0 → FolRaw w' b (upd f k v)) ∧
      (v = 0 → ∀ ty, ∃ w2, (Builtin.delete_ #[23, 9] ty #[.map (some b), .string k]).run Try.prog w' = .ok (.tuple #[]) w2 ∧ w'.grownBy w2 (some b) ∧ (∃ m, MapIs w' b m) ∧ FolRaw w2 b (upd f k v)) := by
  obtain ⟨fm, h1, h2, h3⟩ := h
  obtain ⟨w', q1, q2, q3, q4⟩ := run_update_my (P := Try.prog) (T := 23) (K := 9) (E := 3) Try.underlying23 Try.underlying9 h1 k (.int .i64 v)
  refine ⟨w', q1, q3, ⟨_, h1⟩, ?_, fun hv => ⟨_, q2, tidy_aset _ _ h2, fun x => ?_⟩, fun hv ty => ?_⟩
  · rw [run_lookup_my (P := Try.prog) (T := 23) (K := 9) (E := 3) Try.underlying23 Try.underlying9 _ (Try.zero3 w') q2 k false, aget_aset]
    simp
  · rw [aget_aset]
    by_cases e : x = k
    · subst e; rw [if_pos rfl, upd_same, if_neg hv]
    · rw [if_neg e, upd_ne _ _ e]; exact h3 x
  · obtain ⟨w2, r1, r2, r3, r4⟩ := run_delete_my (P := Try.prog) (T := 23) (K := 9) (E := 3) Try.underlying23 Try.underlying9 q2 k ty 9
    refine ⟨w2, r1, r3, ⟨_, q2⟩, _, r2, tidy_adel _ (tidy_aset _ _ h2), fun x => ?_⟩
    rw [aget_adel _ _ (tidy_aset _ _ h2), aget_aset]
    by_cases e : x = k
    · subst e; rw [if_pos rfl, upd_same, if_pos hv]
    · rw [if_neg e, if_neg e, upd_ne _ _ e]; exact h3 x

theorem FolRaw.len {w : World} {b : Nat} {f : ByteArray → Int} (h : FolRaw w b f) : ∃ n : Nat, (Builtin.len_ #[23] 3 #[.map (some b)]).run Try.prog w = .ok (.int .i64 (n : Int)) w ∧ (n = 0 ↔ ∀ k, f k = 0) ∧ ∀ l : List ByteArray, l.Nodup → (∀ k, f k ≠ 0 → k ∈ l) → n = (l.filter fun k => decide (f k ≠ 0)).length := by
  obtain ⟨fm, h1, h2, h3⟩ := h
  have key : ∀ k, k ∈ Keys fm ↔ f k ≠ 0 := fun k => by
    rw [← aget_isSome, h3]
    by_cases e : f k = 0 <;> simp [e]
  refine ⟨fm.length, run_len_my (P := Try.prog) (T := 23) (K := 9) (E := 3) Try.underlying23 h1 3, ⟨fun h k => ?_, fun h => ?_⟩, fun l hl hc => ?_⟩
  · have e : fm = [] := List.length_eq_zero_iff.1 h
    have := key k
    rw [e] at this
    simp [Keys] at this
    exact this
  · cases fm with
    | nil => rfl
    | cons p m => exact absurd (h p.1) ((key p.1).1 (by simp [Keys]))
  · have hp : (Keys fm).Perm (l.filter fun k => decide (f k ≠ 0)) := by
      refine (List.perm_ext_iff_of_nodup h2 (hl.filter _)).2 fun k => ?_
      rw [key, List.mem_filter]
      simp only [decide_eq_true_eq]
      exact ⟨fun h => ⟨hc k h, h⟩, fun h => h.2⟩
    simpa [Keys] using hp.length_eq

end Go.Proofs.Qxb6603051a
