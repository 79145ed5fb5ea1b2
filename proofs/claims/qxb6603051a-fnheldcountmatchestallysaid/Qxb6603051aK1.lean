/-
  Seat b6603051a: set (50) and addCount (51).
-/
import Derived.Test.Qxb6603051aK0
namespace Go.Proofs.Qxb6603051a
open Go.RowKit
set_option linter.unusedVariables false
set_option linter.unusedSimpArgs false

theorem eq_nil (w : World) : (binOp .eql 23 (.map none) (.map none)).run Try.prog w = .ok (.bool true) w := by kernel_rfl
theorem eq_some (w : World) (b : Nat) : (binOp .eql 23 (.map (some b)) (.map none)).run Try.prog w = .ok (.bool false) w := by kernel_rfl
theorem ne_nil (w : World) : (binOp .neq 23 (.map none) (.map none)).run Try.prog w = .ok (.bool false) w := by kernel_rfl
theorem ne_some (w : World) (b : Nat) : (binOp .neq 23 (.map (some b)) (.map none)).run Try.prog w = .ok (.bool true) w := by kernel_rfl

set_option maxRecDepth 100000 in
set_option maxHeartbeats 1000000 in
theorem set_any (w : World) (bh base : Nat) (R L : ByteArray → Int) (F : ByteArray → ByteArray → Int) (B : ByteArray → Option Nat) (id : ByteArray) (h : HeldC w bh base R L F B (some id)) (r l : Int) (ro : Option Nat) (hro : B id = ro) :
    Calls Try.prog 50 #[.map (some bh), .string id, .agg #[.int .i64 r, .int .i64 l, .map ro]] w fun e w' => e = .returned (.tuple #[]) ∧ HeldC w' bh base (upd R id r) (upd L id l) F B none ∧ MF base w w' := by
  have hb : base ≤ w.heap.size := Nat.le_trans h.2.2.2.2 (Nat.le_of_lt h.lt)
  have h' := h.later (w' := w.alloc (.cells #[.int .i64 r, .int .i64 l, .map ro] 80)) ((Below.refl _ _).alloc (Nat.le_refl _) _)
  have M0 : MF base w (w.alloc (.cells #[.int .i64 r, .int .i64 l, .map ro] 80)) := MF.of_below ((Below.refl _ _).alloc (Nat.le_refl _) _) hb
  by_cases hz : r = 0 ∧ l = 0 ∧ ro = none
  · obtain ⟨rfl, rfl, rfl⟩ := hz
    obtain ⟨w', q1, q2, q3⟩ := h'.del hro 0
    have hen := eq_nil
    have HQ : Hid (HeldC w' bh base (upd R id 0) (upd L id 0) F B none ∧ MF base w w') := ⟨q2, M0.trans q3⟩
    clear h h' M0 q2 q3
    go_enter Try.func50, Try.ntmps50
    go_wp2
    refine ⟨rfl, .tuple #[], by simp [results, Try.results50, go_sem], rfl, HQ.out⟩
  · obtain ⟨w', q1, q2, q3⟩ := h'.put r l (by rw [hro]; exact hz)
    rw [hro] at q1
    have HQ : Hid (HeldC w' bh base (upd R id r) (upd L id l) F B none ∧ MF base w w') := ⟨q2, M0.trans q3⟩
    clear h h' M0 q2 q3
    have hz' : ((r == 0) = false ∧ ¬ r = 0) ∨ (r = 0 ∧ (l == 0) = false ∧ ¬ l = 0) ∨ (r = 0 ∧ l = 0 ∧ ∃ b, ro = some b) := by
      by_cases h1 : r = 0
      · by_cases h2 : l = 0
        · cases ro with
          | none => exact absurd ⟨h1, h2, rfl⟩ hz
          | some b => exact .inr (.inr ⟨h1, h2, b, rfl⟩)
        · exact .inr (.inl ⟨h1, by simp [h2], h2⟩)
      · exact .inl ⟨by simp [h1], h1⟩
    clear hz
    have hes := eq_some
    rcases hz' with ⟨hb1, hb2⟩ | ⟨rfl, hb1, hb2⟩ | ⟨rfl, rfl, b, rfl⟩
    all_goals
      go_enter Try.func50, Try.ntmps50
      go_wp2
      refine ⟨rfl, .tuple #[], by simp [results, Try.results50, go_sem], rfl, HQ.out⟩

/-- What addCount may touch. -/
def AC (base : Nat) (ro ro' : Option Nat) (w w' : World) : Prop :=
  MF base w w' ∧ (∀ g, g < w.heap.size → ro ≠ some g → w'.heap[g]? = w.heap[g]?) ∧ (∀ b, ro' = some b → ro = some b ∨ b = w.heap.size)

theorem AC.mk {base b : Nat} {w w' w2 : World} {ro : Option Nat} (hg : w'.grownBy w2 (some b)) (hm : ∃ m, MapIs w' b m) (hb : base ≤ b) (h : MF base w w' ∧ (∀ g, g < w.heap.size → ro ≠ some g → w'.heap[g]? = w.heap[g]?)) (hro : ro = some b ∨ w.heap.size ≤ b) :
    MF base w w2 ∧ (∀ g, g < w.heap.size → ro ≠ some g → w2.heap[g]? = w.heap[g]?) := by
  obtain ⟨m, hm⟩ := hm
  refine ⟨h.1.trans (MF.of_grown hm hg hb), fun g hlt hne => ?_⟩
  rw [hg.block g (Nat.lt_of_lt_of_le hlt h.1.size) (fun e => ?_), h.2 g hlt hne]
  cases e
  rcases hro with e | e
  · exact hne e
  · omega

set_option maxRecDepth 100000 in
set_option maxHeartbeats 1000000 in
theorem addRaw_any (w : World) (base : Nat) (f : ByteArray → Int) (ro : Option Nat) (key : ByteArray) (by_ : Int) (h : Fol w ro f) (hb : ∀ b, ro = some b → base ≤ b) (hs : base ≤ w.heap.size) :
    Calls Try.prog 51 #[.map ro, .string key, .int .i64 by_] w fun e w' => ∃ ro', e = .returned (.map ro') ∧ Fol w' ro' (upd f key (wrap64 (f key + by_))) ∧ AC base ro ro' w w' := by
  have hen := eq_nil
  have hes := eq_some
  have hmk : ∀ w, (Instr.makeMap 23 none).run Try.prog w = .ok (.map (some w.heap.size)) (w.alloc (.map #[] 0)) := fun w => by
    simp [Instr.makeMap, run_underlying Try.underlying23, Result.andThen]
  -- the map that is worked on
  obtain ⟨w0, b, hraw, hbb, hac, hrb⟩ : ∃ w0 b, FolRaw w0 b f ∧ base ≤ b ∧ (MF base w w0 ∧ (∀ g, g < w.heap.size → ro ≠ some g → w0.heap[g]? = w.heap[g]?)) ∧ ((ro = none ∧ b = w.heap.size ∧ w0 = w.alloc (.map #[] 0)) ∨ (ro = some b ∧ w0 = w)) := by
    cases ro with
    | none =>
      have B0 : Below w.heap.size w (w.alloc (.map #[] 0)) := (Below.refl _ _).alloc (Nat.le_refl _) _
      exact ⟨w.alloc (.map #[] 0), w.heap.size, ⟨[], MapIs.made w, Tidy.nil, fun k => by rw [h k]; rfl⟩, hs, ⟨MF.of_below B0 hs, fun g hlt _ => B0.block g hlt⟩, .inl ⟨rfl, rfl, rfl⟩⟩
    | some b => exact ⟨w, b, h.1, hb b rfl, ⟨MF.refl _ _, fun _ _ _ => rfl⟩, .inr ⟨rfl, rfl⟩⟩
  have hro : ro = some b ∨ w.heap.size ≤ b := by rcases hrb with ⟨-, e, -⟩ | ⟨e, -⟩; exact .inr (by omega); exact .inl e
  have hlk := hraw.look key
  obtain ⟨v, hv⟩ : ∃ v, v = wrap64 (f key + by_) := ⟨_, rfl⟩
  obtain ⟨w1, p1, p2, p3, p4, p5, p6⟩ := hraw.put key v
  have hac1 := AC.mk p2 p3 hbb hac hro
  rw [← hv]
  rw [hv] at p1
  by_cases hv0 : v = 0
  · obtain ⟨w2, r1, r2, r3, r4⟩ := p6 hv0 0
    have hac2 := AC.mk r2 r3 hbb hac1 hro
    obtain ⟨n, l1, l2, -⟩ := r4.len
    rw [hv0] at p4
    by_cases hn : n = 0
    · have HF : Hid (Fol w2 none (upd f key v) ∧ AC base ro none w w2) := ⟨l2.1 hn, hac2.1, hac2.2, fun b h => by cases h⟩
      subst hn
      clear hraw hac hac1 hac2 p2 p3 p5 p6 r2 r3 r4 l2 h hv hv0 hro hb hbb
      rcases hrb with ⟨rfl, rfl, rfl⟩ | ⟨rfl, rfl⟩
      all_goals
        go_enter Try.func51, Try.ntmps51
        go_wp2
        go_ret
        exact ⟨none, rfl, HF.out⟩
    · have HF : Hid (Fol w2 (some b) (upd f key v) ∧ AC base ro (some b) w w2) := by
        refine ⟨⟨r4, ?_⟩, hac2.1, hac2.2, fun b' h => ?_⟩
        · exact Classical.byContradiction fun hno => hn (l2.2 fun k => Classical.byContradiction fun h => hno ⟨k, h⟩)
        · cases h
          rcases hrb with ⟨-, e, -⟩ | ⟨e, -⟩
          · exact .inr e
          · exact .inl e
      have hnb : ((n : Int) == 0) = false := by simp; omega
      clear hraw hac hac1 hac2 p2 p3 p5 p6 r2 r3 r4 l2 h hv hv0 hro hb hbb
      rcases hrb with ⟨rfl, rfl, rfl⟩ | ⟨rfl, rfl⟩
      all_goals
        go_enter Try.func51, Try.ntmps51
        go_wp2
        go_ret
        exact ⟨some _, rfl, HF.out⟩
  · have r4 := p5 hv0
    obtain ⟨n, l1, l2, -⟩ := r4.len
    have hn : ¬ n = 0 := fun e => hv0 (by have := l2.1 e key; rwa [upd_same] at this)
    have HF : Hid (Fol w1 (some b) (upd f key v) ∧ AC base ro (some b) w w1) := by
      refine ⟨⟨r4, key, by rw [upd_same]; exact hv0⟩, hac1.1, hac1.2, fun b' h => ?_⟩
      cases h
      rcases hrb with ⟨-, e, -⟩ | ⟨e, -⟩
      · exact .inr e
      · exact .inl e
    have hnb : ((n : Int) == 0) = false := by simp; omega
    have hvb : (v == 0) = false := by simp [hv0]
    clear hraw hac hac1 p2 p3 p5 p6 r4 l2 h hv hro hb hbb
    rcases hrb with ⟨rfl, rfl, rfl⟩ | ⟨rfl, rfl⟩
    all_goals
      go_enter Try.func51, Try.ntmps51
      go_wp2
      go_ret
      exact ⟨some _, rfl, HF.out⟩

/-- addCount at the followers of ex. -/
theorem addCount_any (w : World) (bh base : Nat) (R L : ByteArray → Int) (F : ByteArray → ByteArray → Int) (B : ByteArray → Option Nat) (ex : ByteArray) (h : HeldC w bh base R L F B (some ex)) (key : ByteArray) (by_ : Int) (ro : Option Nat) (hro : B ex = ro) :
    Calls Try.prog 51 #[.map ro, .string key, .int .i64 by_] w fun e w' => ∃ ro', e = .returned (.map ro') ∧ HeldC w' bh base R L (upd F ex (upd (F ex) key (wrap64 (F ex key + by_)))) (upd B ex ro') (some ex) ∧ MF base w w' := by
  have hs : base ≤ w.heap.size := Nat.le_trans h.2.2.2.2 (Nat.le_of_lt h.lt)
  obtain ⟨⟨mp, h1, h2, h3⟩, h4, h5, h6, h7⟩ := h
  refine (addRaw_any w base (F ex) ro key by_ (hro ▸ h4 ex) (fun b hb => (h6 ex b (hro.trans hb)).2) hs).mono ?_
  rintro e w' ⟨ro', rfl, hf, hm, hk, hr⟩
  refine ⟨ro', rfl, ⟨⟨mp, ?_, h2, fun id hid => ?_⟩, fun id => ?_, fun id id' b hb hb' => ?_, fun id b hb => ?_, h7⟩, hm⟩
  · exact h1.of_block (hk bh h1.lt (fun e => (h6 ex bh (hro.trans e)).1 rfl))
  · have hne : id ≠ ex := fun e => hid (by rw [e])
    rw [upd_ne _ _ hne]
    exact h3 id hid
  · by_cases e : id = ex
    · subst e; rw [upd_same, upd_same]; exact hf
    · rw [upd_ne _ _ e, upd_ne _ _ e]
      exact (h4 id).of_block (fun b hb hlt => hk b hlt (fun e' => e (h5 id ex b hb (hro.trans e'))))
  · have lt : ∀ x b, B x = some b → b < w.heap.size := fun x b hx => by have := h4 x; rw [hx] at this; exact this.1.lt
    by_cases e : id = ex
    · by_cases e' : id' = ex
      · rw [e, e']
      · subst e
        rw [upd_same] at hb
        rw [upd_ne _ _ e'] at hb'
        rcases hr b hb with q | q
        · exact h5 _ _ b (hro.trans q) hb'
        · have := lt id' b hb'; omega
    · by_cases e' : id' = ex
      · subst e'
        rw [upd_same] at hb'
        rw [upd_ne _ _ e] at hb
        rcases hr b hb' with q | q
        · exact h5 _ _ b hb (hro.trans q)
        · have := lt id b hb; omega
      · rw [upd_ne _ _ e] at hb
        rw [upd_ne _ _ e'] at hb'
        exact h5 _ _ b hb hb'
  · by_cases e : id = ex
    · subst e
      rw [upd_same] at hb
      rcases hr b hb with q | q
      · exact h6 id b (hro.trans q)
      · have := h1.lt
        exact ⟨by omega, by omega⟩
    · rw [upd_ne _ _ e] at hb
      exact h6 id b hb

end Go.Proofs.Qxb6603051a
