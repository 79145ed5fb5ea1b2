/-
  Seat b6603051a: (*Loads).handOver (44).
-/
import Derived.Test.Qxb6603051aS2
namespace Go.Proofs.Qxb6603051a
open Go.RowKit
set_option linter.unusedVariables false

/-! ### handOver -/
theorem LI.setLead {w : World} {s : Ld} {live : List ByteArray} {leads : List Int} {closed : List Bool} (h : LI w s live leads closed) {b : Nat} (hD : s.aD = some ⟨b, 0, none⟩) (i : Nat) (z : Int) :
    LI (w.setCell ⟨b, i, none⟩ (.int .i64 z)) s live (leads.set i z) closed := by
  obtain ⟨⟨⟨cs, h1, h2⟩, h3, h4, ⟨m, h5, h6⟩, h7⟩, h8, h9⟩ := h
  rw [hD] at h8
  have hrow : ∃ cur, w.heap[b]? = some (.cells cur 3 (0, 0)) := by
    rcases h8.2 with ⟨hh, _⟩ | ⟨g, cap, cur, hh, _, hg, _⟩
    · simp at hh
    · simp only [Value.slice.injEq, Option.some.injEq, Addr.mk.injEq] at hh
      obtain ⟨⟨rfl, _⟩, _⟩ := hh
      exact ⟨cur, hg⟩
  obtain ⟨cur, hcur⟩ := hrow
  have hgl : s.gl ≠ b := by
    rintro e
    rw [e, hcur] at h1; simp at h1
  refine ⟨⟨⟨cs, by rw [Below.heap_setCell _ _ _ _ hgl]; exact h1, h2⟩, ?_, ?_, ⟨m, h5.setCell _ _, h6⟩, h7⟩, ?_, by simpa using h9⟩
  · exact ownsRow_setCell_other h3 (fun e => own_ne h3 hcur (by decide) e.symm) _
  · exact ownsRow_setCell_other h4 (fun e => own_ne h4 hcur (by decide) e.symm) _
  · rw [hD]
    have := (h8.stored i (.int .i64 z)).1
    rw [← List.map_set] at this
    exact this

theorem LI.gl_ne {w : World} {s : Ld} {live : List ByteArray} {leads : List Int} {closed : List Bool} (h : LI w s live leads closed) {b : Nat} (hD : s.aD = some ⟨b, 0, none⟩) : s.gl ≠ b := by
  obtain ⟨⟨⟨cs, h1, h2⟩, h3, h4, ⟨m, h5, h6⟩, h7⟩, h8, h9⟩ := h
  rw [hD] at h8
  rintro e
  exact own_ne h8 h1 (by decide) (by rw [e]; rfl)

theorem LI.live_ne {w : World} {s : Ld} {live : List ByteArray} {leads : List Int} {closed : List Bool} (h : LI w s live leads closed) {b b' off k : Nat} {v : Value} (hD : s.aD = some ⟨b, 0, none⟩) (hL : s.aL = some ⟨b', off, none⟩) (hc : w.cell? ⟨b', k, none⟩ = some v) : b' ≠ b := by
  have h8 := h.2.1
  have h3 := h.1.2.1
  rw [hD] at h8
  rw [hL] at h3
  rcases h3.2 with ⟨hh, _⟩ | ⟨g, cap, cur, hh, _, hg, _⟩
  · simp at hh
  · simp only [Value.slice.injEq, Option.some.injEq, Addr.mk.injEq] at hh
    obtain ⟨⟨rfl, _⟩, _⟩ := hh
    rintro rfl
    exact own_ne h8 hg (by decide) rfl

set_option maxRecDepth 100000 in
set_option maxHeartbeats 1000000 in
theorem hand_stay (w : World) (s : Ld) (live : List ByteArray) (leads : List Int) (closed : List Bool) (ld : ByteArray) (aR : Option Addr) (nR cR : Nat) (reps : List ByteArray)
    (h : LI w s live leads closed) (hR : Strs w (.slice aR nR cR) reps) (hn : nR ≤ 1048576) (hb : ∀ x ∈ leads, -2147483648 ≤ x ∧ x ≤ 2147483648) (ht : targetF live closed leads ld reps = none) :
    Calls Try.prog 44 #[.pointer (some ⟨s.gl, 0, none⟩), .agg #[.string ld, .slice aR nR cR]] w fun e w' => e = .returned (.string ByteArray.empty) ∧ Below w.heap.size w w' := by
  obtain ⟨O, hO⟩ : ∃ O, O = Obj.cells #[Value.string ld, Value.slice aR nR cR] 35 := ⟨_, rfl⟩
  have B1 : Below w.heap.size w (w.alloc O) := (Below.refl _ _).alloc (Nat.le_refl _) O
  have h1 := h.alloc O
  have hR1 := Strs.below hR B1
  have C : Calls Try.prog 49 #[.pointer (some ⟨s.gl, 0, none⟩), .agg #[.string ld, .slice aR nR cR]] (w.alloc O) fun e w' => ∃ x, e = .returned (.tuple #[.int .i64 x, .int .i64 (-1)]) ∧ Below w.heap.size w w' := by
    cases hi : idx live ld with
    | none =>
      refine (target_none _ s live leads closed ld aR nR cR reps h1 hR1 hn hi).mono ?_
      rintro e w' ⟨rfl, hbw⟩
      exact ⟨_, rfl, B1.trans (hbw.mono (by simp))⟩
    | some f =>
      refine (target_some _ s live leads closed ld aR nR cR reps f h1 hR1 hn hi hb).mono ?_
      rintro e w' ⟨rfl, hbw⟩
      rw [ht]
      exact ⟨_, rfl, B1.trans (hbw.mono (by simp))⟩
  have HO : Hid _ := hO
  subst hO
  clear h h1 hR hR1 hb ht HO
  go_enter Try.func44, Try.ntmps44
  go_wp2_with fail
  refine C.mono ?_
  rintro e w' ⟨x, rfl, hbw⟩
  go_wp2
  go_ret
  exact ⟨rfl, hbw⟩

theorem targetF_some {live : List ByteArray} {closed : List Bool} {leads : List Int} {ld : ByteArray} {reps : List ByteArray} {f t : Nat} (h : targetF live closed leads ld reps = some (f, t)) :
    idx live ld = some f ∧ top live leads closed reps = some t ∧ (closed.getD f false = true ∨ 2 ≤ leads.getD f 0 - leads.getD t 0) ∧ f ≠ t := by
  unfold targetF at h
  split at h
  · cases h
  · rename_i f' hf
    split at h
    · cases h
    · rename_i t' ht
      split at h
      · cases h
      · rename_i hc
        simp only [Option.some.injEq, Prod.mk.injEq] at h
        obtain ⟨rfl, rfl⟩ := h
        have h2 : closed.getD f' false = true ∨ 2 ≤ leads.getD f' 0 - leads.getD t' 0 := by
          cases hcf : closed.getD f' false with
          | true => exact .inl rfl
          | false =>
            right
            rw [hcf] at hc
            simp at hc
            simpa using hc
        refine ⟨hf, ht, h2, ?_⟩
        rintro rfl
        have := (top_some ht).1
        rcases h2 with h2 | h2
        · rw [this] at h2; cases h2
        · omega

set_option maxRecDepth 100000 in
set_option maxHeartbeats 1000000 in
theorem hand_move (w : World) (s : Ld) (live : List ByteArray) (leads : List Int) (closed : List Bool) (ld : ByteArray) (aR : Option Addr) (nR cR : Nat) (reps : List ByteArray) (f t : Nat)
    (h : LI w s live leads closed) (hR : Strs w (.slice aR nR cR) reps) (hn : nR ≤ 1048576) (hb : ∀ x ∈ leads, -2147483648 ≤ x ∧ x ≤ 2147483648) (ht : targetF live closed leads ld reps = some (f, t)) :
    Calls Try.prog 44 #[.pointer (some ⟨s.gl, 0, none⟩), .agg #[.string ld, .slice aR nR cR]] w fun e w' => e = .returned (.string (live.getD t ByteArray.empty)) ∧ LI w' s live (moveF leads f t) closed ∧ w.grownBy w' (Value.slice s.aD s.n s.cD).ownBlock := by
  obtain ⟨hi, htop, -, hne⟩ := targetF_some ht
  have hfn : f < s.n := by rw [← h.lenL]; exact idx_lt hi
  have htn : t < s.n := by
    rw [← h.lenL]
    obtain ⟨id, _, h2, _⟩ := pick_some htop
    exact idx_lt h2
  have hsm := h.small
  obtain ⟨O, hO⟩ : ∃ O, O = Obj.cells #[Value.string ld, Value.slice aR nR cR] 35 := ⟨_, rfl⟩
  have B1 : Below w.heap.size w (w.alloc O) := (Below.refl _ _).alloc (Nat.le_refl _) O
  have C : Calls Try.prog 49 #[.pointer (some ⟨s.gl, 0, none⟩), .agg #[.string ld, .slice aR nR cR]] (w.alloc O) fun e w' => e = .returned (.tuple #[.int .i64 (f : Int), .int .i64 (t : Int)]) ∧ Below w.heap.size w w' := by
    refine (target_some _ s live leads closed ld aR nR cR reps f (h.alloc O) (Strs.below hR B1) hn hi hb).mono ?_
    rintro e w' ⟨rfl, hbw⟩
    rw [ht]
    exact ⟨rfl, B1.trans (hbw.mono (by simp))⟩
  have b1 := hb (leads.getD f 0) (by rw [List.getD_eq_getElem?_getD, List.getElem?_eq_getElem (by rw [h.lenD]; exact hfn)]; exact List.getElem_mem _)
  have b2 := hb (leads.getD t 0) (by rw [List.getD_eq_getElem?_getD, List.getElem?_eq_getElem (by rw [h.lenD]; exact htn)]; exact List.getElem_mem _)
  have HO : Hid _ := hO
  subst hO
  have HH : Hid (LI w s live leads closed) := h
  clear h hR hb ht HO htop hi B1
  go_enter Try.func44, Try.ntmps44
  go_wp2_with fail
  refine C.mono ?_
  rintro e w1 ⟨rfl, hbw⟩
  clear C
  have h1 := HH.out.below hbw
  obtain ⟨bD, hD, d1, f1, -⟩ := h1.lead hfn
  obtain ⟨bD', hD', d2, f2, -⟩ := h1.lead htn
  rw [hD] at hD'; simp only [Option.some.injEq, Addr.mk.injEq, and_true] at hD'; subst hD'
  have c3 := h1.c3
  have c0 := h1.c0
  obtain ⟨bL, oL, hL, l1⟩ := h1.liveAt htn
  rw [hD] at c3
  rw [hL] at c0
  have hglD : ¬ s.gl = bD := fun e => LI.gl_ne h1 hD e
  have hLD : ¬ bL = bD := fun e => LI.live_ne h1 hD hL l1 e
  have hne' : ¬ t = f := fun e => hne e.symm
  have i1 : (f : Int) < (s.n : Int) := by omega
  have i2 : (t : Int) < (s.n : Int) := by omega
  have m1 := h1.setLead hD f (leads.getD f 0 - 1)
  have m2 := m1.setLead hD t (leads.getD t 0 + 1)
  have e2 : (leads.set f (leads.getD f 0 - 1)).set t (leads.getD t 0 + 1) = moveF leads f t := by
    unfold moveF
    rw [show (leads.set f (leads.getD f 0 - 1)).getD t 0 = leads.getD t 0 by simp [List.getD_eq_getElem?_getD, hne]]
  rw [e2] at m2
  have G : w.grownBy ((w1.setCell ⟨bD, f, none⟩ (.int .i64 (leads.getD f 0 - 1))).setCell ⟨bD, t, none⟩ (.int .i64 (leads.getD t 0 + 1))) (Value.slice s.aD s.n s.cD).ownBlock := by
    refine ⟨hbw.os, hbw.tape, hbw.output, by rw [size_setCell, size_setCell]; exact hbw.size, fun k hk hkb => ?_⟩
    have : k ≠ bD := fun e => hkb (by rw [hD, e]; rfl)
    rw [Below.heap_setCell _ _ _ _ (by simpa using this), Below.heap_setCell _ _ _ _ (by simpa using this)]
    exact hbw.block k hk
  have HM : Hid (_ ∧ _) := And.intro m2 G
  clear h1 m1 m2 G e2 hbw HH hD hL
  generalize leads.getD f 0 = lf at *
  generalize leads.getD t 0 = lt at *
  go_wp2
  go_ret
  exact ⟨rfl, HM.out.1, HM.out.2⟩

end Go.Proofs.Qxb6603051a
