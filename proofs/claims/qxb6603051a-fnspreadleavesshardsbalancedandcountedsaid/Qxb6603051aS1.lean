/-
  Seat b6603051a: how Loads lies in memory; electedBefore (42).
-/
import Derived.Test.Qxb6603051aS0
import Derived.Test.Qxb6603051aC1
import Derived.Test.Qxb6603051aP1
namespace Go.Proofs.Qxb6603051a
open Go.RowKit

/-- Where the parts of a Loads lie. -/
structure Ld where
  gl : Nat
  ri : Nat
  n : Nat
  cL : Nat
  cD : Nat
  cC : Nat
  aL : Option Addr
  aD : Option Addr
  aC : Option Addr

def LIs (w : World) (s : Ld) (live : List ByteArray) (closed : List Bool) : Prop :=
  (∃ cs, w.heap[s.gl]? = some (.cells cs 74 (0, 0)) ∧ cs[0]? = some (.slice s.aL s.n s.cL) ∧ cs[1]? = some (.map (some s.ri)) ∧ cs[3]? = some (.slice s.aD s.n s.cD) ∧ cs[4]? = some (.slice s.aC s.n s.cC)) ∧
  w.ownsRow 0 9 1 (.slice s.aL s.n s.cL) s.n (live.map Value.string) ∧ w.ownsRow 0 4 1 (.slice s.aC s.n s.cC) s.n (closed.map Value.bool) ∧
  (∃ m, MapIs w s.ri m ∧ ∀ k, aget m k = (idx live k).map fun i => Value.int .i64 (i : Int)) ∧ live.length = s.n ∧ closed.length = s.n ∧ s.n ≤ 1048576

def LI (w : World) (s : Ld) (live : List ByteArray) (leads : List Int) (closed : List Bool) : Prop :=
  LIs w s live closed ∧ w.ownsRow 0 3 1 (.slice s.aD s.n s.cD) s.n (leads.map (Value.int .i64)) ∧ leads.length = s.n

theorem LI.drewN {w : World} {s : Ld} {live : List ByteArray} {leads : List Int} {closed : List Bool} (h : LI w s live leads closed) (n : Nat) : LI (w.drewN n) s live leads closed := h

theorem cell_of_cells {w : World} {g k : Nat} {cs : Array Value} {e : TypeId} {v : Value} (h : w.heap[g]? = some (.cells cs e (0, 0))) (hk : cs[k]? = some v) : w.cell? ⟨g, k, none⟩ = some v := by
  simp [World.cell?, h, hk]

section
variable {w : World} {s : Ld} {live : List ByteArray} {leads : List Int} {closed : List Bool}

theorem LI.below {w' : World} (h : LI w s live leads closed) (hb : Below w.heap.size w w') : LI w' s live leads closed := by
  obtain ⟨⟨⟨cs, h1, h2⟩, h3, h4, ⟨m, h5, h6⟩, h7⟩, h8, h9⟩ := h
  exact ⟨⟨⟨cs, by rw [hb.block _ (lt_of_block h1)]; exact h1, h2⟩, own_below h3 hb, own_below h4 hb, ⟨m, h5.below hb, h6⟩, h7⟩, own_below h8 hb, h9⟩

theorem LI.alloc (h : LI w s live leads closed) (o : Obj) : LI (w.alloc o) s live leads closed := h.below ((Below.refl _ _).alloc (Nat.le_refl _) o)

theorem LI.c0 (h : LI w s live leads closed) : w.cell? ⟨s.gl, 0, none⟩ = some (.slice s.aL s.n s.cL) := by obtain ⟨⟨⟨cs, h1, h2, _⟩, _⟩, _⟩ := h; exact cell_of_cells h1 h2
theorem LI.c1 (h : LI w s live leads closed) : w.cell? ⟨s.gl, 1, none⟩ = some (.map (some s.ri)) := by obtain ⟨⟨⟨cs, h1, _, h2, _⟩, _⟩, _⟩ := h; exact cell_of_cells h1 h2
theorem LI.c3 (h : LI w s live leads closed) : w.cell? ⟨s.gl, 3, none⟩ = some (.slice s.aD s.n s.cD) := by obtain ⟨⟨⟨cs, h1, _, _, h2, _⟩, _⟩, _⟩ := h; exact cell_of_cells h1 h2
theorem LI.c4 (h : LI w s live leads closed) : w.cell? ⟨s.gl, 4, none⟩ = some (.slice s.aC s.n s.cC) := by obtain ⟨⟨⟨cs, h1, _, _, _, h2⟩, _⟩, _⟩ := h; exact cell_of_cells h1 h2
theorem LI.lenL (h : LI w s live leads closed) : live.length = s.n := h.1.2.2.2.2.1
theorem LI.lenC (h : LI w s live leads closed) : closed.length = s.n := h.1.2.2.2.2.2.1
theorem LI.lenD (h : LI w s live leads closed) : leads.length = s.n := h.2.2
theorem LI.small (h : LI w s live leads closed) : s.n ≤ 1048576 := h.1.2.2.2.2.2.2

theorem LI.lead (h : LI w s live leads closed) {i : Nat} (hi : i < s.n) : ∃ b, s.aD = some ⟨b, 0, none⟩ ∧ w.cell? ⟨b, i, none⟩ = some (.int .i64 (leads.getD i 0)) ∧ w.frozen? ⟨b, i, none⟩ = false ∧ ∃ cs, w.heap[b]? = some (.cells cs 3 (0, 0)) := by
  have hl := h.lenD
  rcases h.2.1.2 with ⟨_, hn⟩ | ⟨g, cap, cur, hv, _, hg, _⟩
  · omega
  · simp only [Value.slice.injEq] at hv
    obtain ⟨hv1, _, hv3⟩ := hv
    refine ⟨g, hv1, ?_, by simp [World.frozen?, hg], cur, hg⟩
    have hr := own_rd h.2.1
    obtain ⟨b, off, h1, h2⟩ := hr i (.int .i64 (leads.getD i 0)) (by simp [show i < leads.length by omega])
    rw [hv1] at h1
    simp only [Option.some.injEq, Addr.mk.injEq] at h1
    obtain ⟨rfl, rfl, _⟩ := h1
    simpa using h2

theorem LI.liveAt (h : LI w s live leads closed) {i : Nat} (hi : i < s.n) : ∃ b off, s.aL = some ⟨b, off, none⟩ ∧ w.cell? ⟨b, off + i, none⟩ = some (.string (live.getD i ByteArray.empty)) := by
  have hl := h.lenL
  obtain ⟨b, off, h1, h2⟩ := (own_rd h.1.2.1) i (.string (live.getD i ByteArray.empty)) (by simp [show i < live.length by omega])
  exact ⟨b, off, h1, h2⟩

theorem LI.shut (h : LI w s live leads closed) {i : Nat} (hi : i < s.n) : ∃ b off, s.aC = some ⟨b, off, none⟩ ∧ w.cell? ⟨b, off + i, none⟩ = some (.bool (closed.getD i false)) := by
  have hl := h.lenC
  obtain ⟨b, off, h1, h2⟩ := (own_rd h.1.2.2.1) i (.bool (closed.getD i false)) (by simp [show i < closed.length by omega])
  exact ⟨b, off, h1, h2⟩

theorem LI.look (h : LI w s live leads closed) (k : ByteArray) (nq : Nat) :
    (Instr.lookup 23 (.map (some s.ri)) (.string k) true).run Try.prog (w.drewN nq) = .ok (.tuple #[.int .i64 ((idx live k).getD 0 : Nat), .bool (idx live k).isSome]) (w.drewN nq) := by
  obtain ⟨m, hm, hk⟩ := h.1.2.2.2.1
  have hz : ∀ w, (zeroValue 3).run Try.prog w = .ok (.int .i64 0) w := fun w => by kernel_rfl
  have := run_lookup_my (P := Try.prog) (w := w.drewN nq) (T := 23) (K := 9) (E := 3) Try.underlying23 Try.underlying9 (.int .i64 0) (hz _) (hm.drewN nq) k true
  rw [this, hk]
  cases idx live k <;> simp
end

set_option maxRecDepth 10000 in
set_option maxHeartbeats 400000 in
theorem elected_any (w : World) (s : Ld) (live : List ByteArray) (leads : List Int) (closed : List Bool) (a b : Nat) (h : LI w s live leads closed) (ha : a < s.n) (hb : b < s.n) :
    Calls Try.prog 42 #[.pointer (some ⟨s.gl, 0, none⟩), .int .i64 (a : Int), .int .i64 (b : Int)] w fun e w' => e = .returned (.bool (el leads closed a b)) ∧ ∃ m, w' = w.drewN m := by
  have c3 := h.c3
  have c4 := h.c4
  obtain ⟨bD, hD, d1, -⟩ := h.lead ha
  obtain ⟨bD', hD', d2, -⟩ := h.lead hb
  rw [hD] at hD'; simp only [Option.some.injEq, Addr.mk.injEq, and_true] at hD'; subst hD'
  obtain ⟨bC, oC, hC, e1⟩ := h.shut ha
  obtain ⟨bC', oC', hC', e2⟩ := h.shut hb
  rw [hC] at hC'; simp only [Option.some.injEq, Addr.mk.injEq, and_true] at hC'; obtain ⟨rfl, rfl⟩ := hC'
  rw [hD] at c3
  rw [hC] at c4
  have hn := h.small
  have i1 : (a : Int) < (s.n : Int) := by omega
  have i2 : (b : Int) < (s.n : Int) := by omega
  unfold el
  generalize closed.getD a false = ca at *
  generalize closed.getD b false = cb at *
  generalize leads.getD a 0 = la at *
  generalize leads.getD b 0 = lb at *
  clear h hD hC
  cases ca <;> cases cb
  case false.true | true.false =>
    go_enter Try.func42, Try.ntmps42
    go_wp2_with fail
    go_quiet (fail)
    go_wp2
    go_ret
    exact ⟨rfl, _, rfl⟩
  all_goals
    by_cases hl : la = lb
    · subst hl
      go_enter Try.func42, Try.ntmps42
      go_wp2_with fail
      go_quiet (fail)
      go_wp2_with fail
      go_quiet (fail)
      go_wp2
      go_ret
      exact ⟨by first | rfl | simp, _, by first | rfl | exact World.drewN_drewN _ _ _⟩
    · have hl' : (la == lb) = false := by simpa using hl
      have hl2 : (la != lb) = true := by simpa using hl
      go_enter Try.func42, Try.ntmps42
      go_wp2_with fail
      go_quiet (fail)
      go_wp2_with fail
      go_quiet (fail)
      go_wp2_with fail
      go_quiet (fail)
      go_wp2
      go_ret
      exact ⟨by first | rfl | simp [hl2], _, by first | rfl | exact World.drewN_drewN _ _ _⟩
end Go.Proofs.Qxb6603051a
