/-
  Seat b6603051a: cb1HeldMatches (34): the plain part.
-/
import Derived.Test.Qxb6603051aY6
namespace Go.Proofs.Qxb6603051a
open Go.RowKit
set_option linter.unusedVariables false
set_option linter.unusedSimpArgs false

theorem wrap64_mul_left (a b : Int) : wrap64 (wrap64 a * b) = wrap64 (a * b) := by
  have h : wrap64 a = a - 18446744073709551616 * ((a + 9223372036854775808) / 18446744073709551616) := by unfold wrap64; omega
  rw [h, Int.sub_mul, Int.mul_assoc]
  generalize (a + 9223372036854775808) / 18446744073709551616 * b = y
  generalize a * b = x
  unfold wrap64
  omega

theorem val_three (b z : Int) (n : Nat) : wrap64 (z + wrap64 (wrap64 (n : Int) * b)) = val b z n := by
  rw [wrap64_mul_left]
  exact val_two b z n

theorem HeldC.len {w : World} {bh base : Nat} {R L : ByteArray → Int} {F : ByteArray → ByteArray → Int} {B : ByteArray → Option Nat} (h : HeldC w bh base R L F B none) : ∃ n : Nat, (Builtin.len_ #[58] 3 #[.map (some bh)]).run Try.prog w = .ok (.int .i64 (n : Int)) w ∧ ∀ l : List ByteArray, l.Nodup → (∀ id, ¬ (R id = 0 ∧ L id = 0 ∧ B id = none) → id ∈ l) → n = (l.filter fun id => decide (¬ (R id = 0 ∧ L id = 0 ∧ B id = none))).length := by
  obtain ⟨⟨mp, h1, h2, h3⟩, -⟩ := h
  have key : ∀ id, id ∈ Keys mp ↔ ¬ (R id = 0 ∧ L id = 0 ∧ B id = none) := fun id => by
    rw [← aget_isSome, h3 id (fun e => by cases e)]
    by_cases e : R id = 0 ∧ L id = 0 ∧ B id = none
    · rw [if_pos e]; simp [e]
    · rw [if_neg e]; simp [e]
  refine ⟨mp.length, run_len_my (P := Try.prog) (T := 58) (K := 9) (E := 80) Try.underlying58 h1 3, fun l hl hc => ?_⟩
  have hp : (Keys mp).Perm (l.filter fun id => decide (¬ (R id = 0 ∧ L id = 0 ∧ B id = none))) := by
    refine (List.perm_ext_iff_of_nodup h2 (hl.filter _)).2 fun id => ?_
    rw [key, List.mem_filter]
    simp only [decide_eq_true_eq]
    exact ⟨fun h => ⟨hc id h, h⟩, fun h => h.2⟩
  simpa [Keys] using hp.length_eq

/-- The counted followers of a node. -/
def nzF (F : ByteArray → Int) (l : List ByteArray) : Nat := (l.filter fun k => decide (F k ≠ 0)).length

theorem nzF_snoc (F : ByteArray → Int) {l : List ByteArray} {j : Nat} (h : j < l.length) : nzF F (l.take (j + 1)) = nzF F (l.take j) + (if F l[j] = 0 then 0 else 1) := by
  unfold nzF
  rw [List.take_succ_eq_append_getElem h, List.filter_append, List.length_append]
  by_cases e : F l[j] = 0 <;> simp [e]

theorem nzF_le (F : ByteArray → Int) (l : List ByteArray) : nzF F l ≤ l.length := List.length_filter_le _ _

/-- B says none just where no follower is counted. -/
theorem fol_none {w : World} {ro : Option Nat} {f : ByteArray → Int} (h : Fol w ro f) {l : List ByteArray} (hc : ∀ k, f k ≠ 0 → k ∈ l) : ro = none ↔ nzF f l = 0 := by
  unfold nzF
  rw [List.length_eq_zero_iff, List.filter_eq_nil_iff]
  cases ro with
  | none => exact ⟨fun _ k _ => by simp [h k], fun _ => rfl⟩
  | some b =>
    refine ⟨(fun h' => by cases h'), fun h' => ?_⟩
    obtain ⟨k, hk⟩ := h.2
    exact absurd hk (by simpa using h' k (hc k hk))

def nzN (R L : ByteArray → Int) (B : ByteArray → Option Nat) (l : List ByteArray) : Nat := (l.filter fun id => decide (¬ (R id = 0 ∧ L id = 0 ∧ B id = none))).length

theorem nzN_snoc (R L : ByteArray → Int) (B : ByteArray → Option Nat) {l : List ByteArray} {e : Nat} (h : e < l.length) : nzN R L B (l.take (e + 1)) = nzN R L B (l.take e) + (if R l[e] = 0 ∧ L l[e] = 0 ∧ B l[e] = none then 0 else 1) := by
  unfold nzN
  rw [List.take_succ_eq_append_getElem h, List.filter_append, List.length_append]
  by_cases c : R l[e] = 0 ∧ L l[e] = 0 ∧ B l[e] = none
  · rw [if_pos c]; simp [c]
  · rw [if_neg c]
    have : decide (¬ (R l[e] = 0 ∧ L l[e] = 0 ∧ B l[e] = none)) = true := decide_eq_true c
    rw [List.filter_cons_of_pos (by exact this)]
    simp

theorem nzN_le (R L : ByteArray → Int) (B : ByteArray → Option Nat) (l : List ByteArray) : nzN R L B l ≤ l.length := List.length_filter_le _ _

/-- What HeldMatches reads. -/
def MI (w0 w wr : World) (gm : Nat) (U : List ByteArray) (s : TS) (bh base : Nat) (b : Int) (B : ByteArray → Option Nat) : Prop :=
  TM w0 wr gm U s ∧ HeldC wr bh base (fun id => val b (s.r0 id) (s.nr id)) (fun id => val b (s.l0 id) (s.nl id)) (fun id k => val b (s.f0 id k) (s.nf id k)) B none ∧ Below w.heap.size w wr

theorem MI.later {w0 w wr wy : World} {gm : Nat} {U : List ByteArray} {s : TS} {bh base : Nat} {b : Int} {B : ByteArray → Option Nat} (h : MI w0 w wr gm U s bh base b B) (hb : Below wr.heap.size wr wy) : MI w0 w wy gm U s bh base b B :=
  ⟨h.1.later hb, h.2.1.later hb, h.2.2.trans (hb.mono h.2.2.size)⟩

theorem MI.drewN {w0 w wr : World} {gm : Nat} {U : List ByteArray} {s : TS} {bh base : Nat} {b : Int} {B : ByteArray → Option Nat} (h : MI w0 w wr gm U s bh base b B) (m : Nat) : MI w0 w (wr.drewN m) gm U s bh base b B := h.later (below_drewN (Below.refl _ _) m)

theorem MI.inF {w0 w wr : World} {gm : Nat} {U : List ByteArray} {s : TS} {bh base : Nat} {b : Int} {B : ByteArray → Option Nat} (h : MI w0 w wr gm U s bh base b B) (id k : ByteArray) (hk : val b (s.f0 id k) (s.nf id k) ≠ 0) : k ∈ s.FK id := by
  refine Classical.byContradiction fun hn => hk ?_
  obtain ⟨h1, h2⟩ := h.1.1.2.2.2.1 id k hn
  rw [h1, h2]
  exact val_zero b (by omega)

theorem MI.inN {w0 w wr : World} {gm : Nat} {U : List ByteArray} {s : TS} {bh base : Nat} {b : Int} {B : ByteArray → Option Nat} (h : MI w0 w wr gm U s bh base b B) (id : ByteArray) (hk : ¬ (val b (s.r0 id) (s.nr id) = 0 ∧ val b (s.l0 id) (s.nl id) = 0 ∧ B id = none)) : id ∈ s.N := by
  refine Classical.byContradiction fun hn => hk ?_
  obtain ⟨h1, h2, h3, h4, h5⟩ := h.1.1.2.2.1 id hn
  rw [h2, h3, h4, h5]
  refine ⟨val_zero b (by omega), val_zero b (by omega), ?_⟩
  refine (fol_none (h.2.1.2.1 id) (l := s.FK id) (fun k hk => h.inF id k hk)).2 ?_
  rw [h1]; rfl

end Go.Proofs.Qxb6603051a
