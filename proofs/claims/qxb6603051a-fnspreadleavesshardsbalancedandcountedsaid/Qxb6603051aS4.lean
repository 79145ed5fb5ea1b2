/-
  Seat b6603051a: (*Loads).Lead (16).
-/
import Derived.Test.Qxb6603051aS3
namespace Go.Proofs.Qxb6603051a
open Go.RowKit
set_option linter.unusedVariables false

/-- All blocks of a Loads lie below B. -/
def Ld.lt (s : Ld) (B : Nat) : Prop := s.gl < B ∧ s.ri < B ∧ (∀ k, (Value.slice s.aL s.n s.cL).ownBlock = some k → k < B) ∧ (∀ k, (Value.slice s.aC s.n s.cC).ownBlock = some k → k < B) ∧ (∀ k, (Value.slice s.aD s.n s.cD).ownBlock = some k → k < B)

theorem LI.lt {w : World} {s : Ld} {live : List ByteArray} {leads : List Int} {closed : List Bool} (h : LI w s live leads closed) : s.lt w.heap.size := by
  obtain ⟨⟨⟨cs, h1, h2⟩, h3, h4, ⟨m, h5, h6⟩, h7⟩, h8, h9⟩ := h
  exact ⟨lt_of_block h1, h5.lt, fun k hk => (h3.lt k hk).2, fun k hk => (h4.lt k hk).2, fun k hk => (h8.lt k hk).2⟩

theorem own_blocks {w w' : World} {base : Nat} {e : TypeId} {size n : Nat} {v : Value} {xs : List Value} {B : Nat} (h : w.ownsRow base e size v n xs) (hlt : ∀ k, v.ownBlock = some k → k < B) (hb : ∀ k, k < B → w'.heap[k]? = w.heap[k]?) : w'.ownsRow base e size v n xs := by
  refine ⟨h.1, ?_⟩
  rcases h.2 with hn | ⟨g, cap, cur, rfl, hbg, hgg, rest⟩
  · exact .inl hn
  · refine .inr ⟨g, cap, cur, rfl, hbg, ?_, rest⟩
    rw [hb g (hlt g rfl)]
    exact hgg

theorem LI.blocks {w w' : World} {s : Ld} {live : List ByteArray} {leads : List Int} {closed : List Bool} {B : Nat} (h : LI w s live leads closed) (hlt : s.lt B) (hb : ∀ k, k < B → w'.heap[k]? = w.heap[k]?) : LI w' s live leads closed := by
  obtain ⟨⟨⟨cs, h1, h2⟩, h3, h4, ⟨m, h5, h6⟩, h7⟩, h8, h9⟩ := h
  obtain ⟨l1, l2, l3, l4, l5⟩ := hlt
  exact ⟨⟨⟨cs, by rw [hb _ l1]; exact h1, h2⟩, own_blocks h3 l3 hb, own_blocks h4 l4 hb, ⟨m, h5.of_block (hb _ l2), h6⟩, h7⟩, own_blocks h8 l5 hb, h9⟩

theorem grown_of_below {w w' : World} (h : Below w.heap.size w w') (row : Option Nat) : w.grownBy w' row := ⟨h.os, h.tape, h.output, h.size, fun k hk _ => h.block k hk⟩

abbrev bestAt (live : List ByteArray) (leads : List Int) (closed : List Bool) (reps : List ByteArray) (k : Nat) : Option Nat :=
  (reps.take k).foldl (pickStep live leads closed (fun _ => true)) none

theorem bestAt_lt {live : List ByteArray} {leads : List Int} {closed : List Bool} {reps : List ByteArray} {k b : Nat} (h : bestAt live leads closed reps k = some b) : b < live.length := by
  obtain ⟨id, _, h2, _⟩ := pick_some (reps := reps.take k) h
  exact idx_lt h2

set_option maxRecDepth 100000 in
set_option maxHeartbeats 1000000 in
theorem lead_has (w : World) (s : Ld) (live : List ByteArray) (leads : List Int) (closed : List Bool) (ld : ByteArray) (aR : Option Addr) (nR cR : Nat) (f : Nat)
    (h : LI w s live leads closed) (hi : idx live ld = some f) :
    Calls Try.prog 16 #[.pointer (some ⟨s.gl, 0, none⟩), .agg #[.string ld, .slice aR nR cR]] w fun e w' => e = .returned (.agg #[.string ld, .slice aR nR cR]) ∧ Below w.heap.size w w' := by
  have hlk := fun o o' => ((h.alloc o).alloc o').look ld
  rw [hi] at hlk
  simp only [Option.getD_some, Option.isSome_some] at hlk
  have c1 := fun o o' => ((h.alloc o).alloc o').c1
  clear h hi
  go_enter Try.func16, Try.ntmps16
  go_wp2_with fail
  go_quiet (fail)
  go_wp2
  refine bodyPost_ret (v := .agg #[.string ld, .slice aR nR cR]) (by simp [results, Try.results16, go_sem]) rfl ⟨rfl, ?_⟩
  exact ((below_drewN (((Below.refl _ _).alloc (Nat.le_refl _) _).alloc (by simp) _) _).setCell (by simp) _).setCell (by simp) _

set_option maxRecDepth 100000 in
set_option maxHeartbeats 2000000 in
theorem lead_none (w : World) (s : Ld) (live : List ByteArray) (leads : List Int) (closed : List Bool) (ld : ByteArray) (aR : Option Addr) (nR cR : Nat) (reps : List ByteArray)
    (h : LI w s live leads closed) (hR : Strs w (.slice aR nR cR) reps) (hn : nR ≤ 1048576) (hi : idx live ld = none) (hb : ∀ x ∈ leads, -2147483648 ≤ x ∧ x ≤ 2147483648) :
    Calls Try.prog 16 #[.pointer (some ⟨s.gl, 0, none⟩), .agg #[.string ld, .slice aR nR cR]] w fun e w' => e = .returned (.agg #[.string (leadF live closed leads ld reps).2, .slice aR nR cR]) ∧ LI w' s live (leadF live closed leads ld reps).1 closed ∧ w.grownBy w' (Value.slice s.aD s.n s.cD).ownBlock := by
  have HH : Hid (LI w s live leads closed) := h
  have hlk := fun o o' => ((h.alloc o).alloc o').look ld
  rw [hi] at hlk
  simp only [Option.getD_none, Option.isSome_none] at hlk
  have c1 := fun o o' => ((h.alloc o).alloc o').c1
  have HR : Hid (reps.length = nR) := hR.len.1
  have HI : Hid _ := hi
  have hsm := h.small
  clear hi
  go_enter Try.func16, Try.ntmps16
  go_wp2_with fail
  go_quiet (fail)
  go_wp2_with fail
  clear hlk
  obtain ⟨O, hO⟩ : ∃ O, O = Obj.cells #[Value.string ld, Value.slice aR nR cR] 35 := ⟨_, rfl⟩
  obtain ⟨O2, hO2⟩ : ∃ O, O = Obj.cells #[Value.string { data := #[] }, Value.slice none 0 0] 35 := ⟨_, rfl⟩
  have HB : Below w.heap.size w ((w.alloc O).alloc O2) := ((Below.refl _ _).alloc (Nat.le_refl _) O).alloc (by simp) O2
  have h1 := h.below HB
  have hR1 := Strs.below hR HB
  have hbx : ((w.alloc O).alloc O2).heap[w.heap.size]? = some (Obj.cells #[Value.string ld, Value.slice aR nR cR] 35) := by rw [Below.heap_alloc _ _ _ (by simp), heap_alloc_new w O]; exact congrArg some hO
  have hrx : ((w.alloc O).alloc O2).heap[w.heap.size + 1]? = some (Obj.cells #[Value.string { data := #[] }, Value.slice none 0 0] 35) := by
    have := heap_alloc_new (w.alloc O) O2
    rw [show (w.alloc O).heap.size = w.heap.size + 1 by simp] at this
    rw [this]; exact congrArg some hO2
  rw [← hO, ← hO2]
  clear hO hO2 h hR c1
  obtain ⟨W, hW⟩ : ∃ W, W = (w.alloc O).alloc O2 := ⟨_, rfl⟩
  rw [← hW] at h1 hR1 HB hbx hrx ⊢
  have HBX : Hid _ := And.intro hbx hrx
  clear hW hbx hrx
  go_loopw [7, 27] (fun t i wr => ∃ k : Nat, k ≤ nR ∧ i = .int .i64 k ∧ t = .int .i64 (oi (bestAt live leads closed reps k)) ∧ ∃ m, wr = W.drewN m) (fun _ i _ => nR - (intOf i).toNat)
  case atStart => exact ⟨0, Nat.zero_le _, rfl, rfl, _, rfl⟩
  case round =>
    obtain ⟨k, hk, rfl, rfl, m, rfl⟩ := hrel
    by_cases hlt : k < nR
    · have hkr : k < reps.length := by rw [HR.out]; exact hlt
      obtain ⟨b, off, u, hx, hc, hu⟩ := hR1.at hkr
      unfold EStr at hu
      subst hx
      subst hu
      have c1 := h1.c1
      have hlk := h1.look reps[k]
      have hstep := foldl_take_succ (pickStep live leads closed (fun _ => true)) none reps k hkr
      have HS : Hid _ := hstep
      clear hstep
      have HF : Hid (LI W s live leads closed ∧ _) := And.intro h1 hR1
      clear h1 hR1 HBX
      cases hid : idx live reps[k] with
      | none =>
        have e1 : bestAt live leads closed reps (k + 1) = bestAt live leads closed reps k := by
          unfold bestAt; rw [HS.out, pickStep_none hid]
        have HE : Hid _ := e1
        rw [hid] at hlk
        simp only [Option.getD_none, Option.isSome_none] at hlk
        clear e1 hid
        go_wp2
        go_roundw
        case rel => exact ⟨k + 1, by omega, by go_num, by rw [HE.out], m, rfl⟩
        case measure => simp [intOf]; omega
      | some i =>
        have hin : i < s.n := by rw [← HF.out.1.lenL]; exact idx_lt hid
        rw [hid] at hlk
        simp only [Option.getD_some, Option.isSome_some] at hlk
        cases htk : bestAt live leads closed reps k with
        | none =>
          have e1 : bestAt live leads closed reps (k + 1) = some i := by
            unfold bestAt at htk ⊢; rw [HS.out, htk, pickStep_first hid rfl]
          have HE : Hid _ := e1
          clear e1 hid htk
          simp only [oi]
          go_wp2
          go_roundw
          case rel => exact ⟨k + 1, by omega, by go_num, (by rw [HE.out]; try rfl), m, rfl⟩
          case measure => simp [intOf]; omega
        | some b' =>
          have hbn : b' < s.n := by rw [← HF.out.1.lenL]; exact bestAt_lt htk
          have HC := fun mm => elected_any (W.drewN mm) s live leads closed i b' (HF.out.1.drewN mm) hin hbn
          simp only [oi]
          cases hel : el leads closed i b' with
          | true =>
            have e1 : bestAt live leads closed reps (k + 1) = some i := by
              unfold bestAt at htk ⊢; rw [HS.out, htk, pickStep_win hid rfl hel]
            have HE : Hid _ := e1
            rw [hel] at HC
            clear e1 hid htk hel
            go_wp2_with (go_at_call 42; refine (HC _).mono ?_; rintro e w' ⟨rfl, mm, rfl⟩)
            go_roundw
            case rel => exact ⟨k + 1, by omega, by go_num, (by rw [HE.out]; try rfl), _, rfl⟩
            case measure => simp [intOf]; omega
          | false =>
            have e1 : bestAt live leads closed reps (k + 1) = some b' := by
              unfold bestAt at htk ⊢; rw [HS.out, htk, pickStep_lose hid rfl hel]
            have HE : Hid _ := e1
            rw [hel] at HC
            clear e1 hid htk hel
            go_wp2_with (go_at_call 42; refine (HC _).mono ?_; rintro e w' ⟨rfl, mm, rfl⟩)
            go_roundw
            case rel => exact ⟨k + 1, by omega, by go_num, (by rw [HE.out]; try rfl), _, rfl⟩
            case measure => simp [intOf]; omega
    · obtain rfl : k = nR := by omega
      have et : bestAt live leads closed reps k = best live leads closed reps := by
        unfold bestAt best pick; rw [List.take_of_length_le (by rw [HR.out]; exact Nat.le_refl _)]
      rw [et]
      clear et hlt hk
      obtain ⟨hbx, hrx⟩ := HBX.out
      have bx0 : W.cell? ⟨w.heap.size, 0, none⟩ = some (.string ld) := cell_of_cells (k := 0) hbx rfl
      have bx1 : W.cell? ⟨w.heap.size, 1, none⟩ = some (.slice aR k cR) := cell_of_cells (k := 1) hbx rfl
      have rx0 : W.cell? ⟨w.heap.size + 1, 0, none⟩ = some (.string { data := #[] }) := cell_of_cells (k := 0) hrx rfl
      have rx1 : W.cell? ⟨w.heap.size + 1, 1, none⟩ = some (.slice none 0 0) := cell_of_cells (k := 1) hrx rfl
      have fb0 : W.frozen? ⟨w.heap.size, 0, none⟩ = false := by simp [World.frozen?, hbx]
      have fr0 : W.frozen? ⟨w.heap.size + 1, 0, none⟩ = false := by simp [World.frozen?, hrx]
      have fr1 : W.frozen? ⟨w.heap.size + 1, 1, none⟩ = false := by simp [World.frozen?, hrx]
      clear hbx hrx HBX
      cases ht : best live leads closed reps with
      | none =>
        have e1 : leadF live closed leads ld reps = (leads, ByteArray.empty) := by unfold leadF; rw [HI.out]; simp only [ht]
        have HE : Hid (leadF live closed leads ld reps = (leads, ByteArray.empty)) := e1
        simp only [oi]
        have HF : Hid (LI W s live leads closed ∧ _) := And.intro h1 hR1
        clear e1 ht h1 hR1 hb
        go_wp2
        refine bodyPost_ret (v := .agg #[.string { data := #[] }, .slice aR k cR]) (by simp [results, Try.results16, go_sem, rx0, rx1]) rfl ?_
        have BF : Below w.heap.size w ((((W.drewN m).setCell ⟨w.heap.size, 0, none⟩ (.string { data := #[] })).setCell ⟨w.heap.size + 1, 0, none⟩ (.string { data := #[] })).setCell ⟨w.heap.size + 1, 1, none⟩ (.slice aR k cR)) :=
          (((below_drewN HB m).setCell (by simp) _).setCell (by simp) _).setCell (by simp) _
        rw [HE.out]
        exact ⟨rfl, LI.below HH.out BF, grown_of_below BF _⟩
      | some t =>
        have htn : t < s.n := by
          rw [← h1.lenL]
          obtain ⟨id, _, h2, _⟩ := pick_some ht
          exact idx_lt h2
        have e1 : leadF live closed leads ld reps = (leads.set t (leads.getD t 0 + 1), live.getD t ByteArray.empty) := by unfold leadF; rw [HI.out]; simp only [ht]
        have HE : Hid (leadF live closed leads ld reps = (leads.set t (leads.getD t 0 + 1), live.getD t ByteArray.empty)) := e1
        obtain ⟨bD, hD, d2, f2, -⟩ := h1.lead htn
        have c3 := h1.c3
        have c0 := h1.c0
        obtain ⟨bL, oL, hL, l1⟩ := h1.liveAt htn
        rw [hD] at c3
        rw [hL] at c0
        have hglD : ¬ s.gl = bD := fun e => LI.gl_ne h1 hD e
        have hLD : ¬ bL = bD := fun e => LI.live_ne h1 hD hL l1 e
        have hlt := LI.lt HH.out
        have q1 : ¬ s.gl = w.heap.size := by have := hlt.1; omega
        have q2 : ¬ bD = w.heap.size := by have := hlt.2.2.2.2 bD (by rw [hD]; rfl); omega
        have q3 : ¬ bL = w.heap.size := by have := hlt.2.2.1 bL (by rw [hL]; rfl); omega
        have q4 : ¬ w.heap.size = bD := fun e => q2 e.symm
        have q5 : ¬ w.heap.size + 1 = bD := by have := hlt.2.2.2.2 bD (by rw [hD]; rfl); omega
        have b2 := hb (leads.getD t 0) (by rw [List.getD_eq_getElem?_getD, List.getElem?_eq_getElem (by rw [h1.lenD]; exact htn)]; exact List.getElem_mem _)
        have i2 : (t : Int) < (s.n : Int) := by omega
        have BF : Below w.heap.size w ((W.drewN m).setCell ⟨w.heap.size, 0, none⟩ (.string { data := #[] })) := (below_drewN HB m).setCell (by simp) _
        have L2 := (LI.below HH.out BF).setLead hD t (leads.getD t 0 + 1)
        have HL2 : Hid (LI _ s live _ closed ∧ Below _ _ _ ∧ s.lt _ ∧ s.aD = _) := And.intro L2 (And.intro BF (And.intro hlt hD))
        simp only [oi]
        clear e1 ht h1 hR1 hb L2 BF hlt hD hL
        generalize leads.getD t 0 = lt at *
        generalize live.getD t ByteArray.empty = lv at *
        go_wp2
        refine bodyPost_ret (v := .agg #[.string lv, .slice aR k cR]) (by simp [results, Try.results16, go_sem, rx0, rx1]) rfl ?_
        obtain ⟨L2, BF, hlt, hD⟩ := HL2.out
        rw [HE.out]
        have hk : ∀ k', k' < w.heap.size → ((((((W.drewN m).setCell ⟨w.heap.size, 0, none⟩ (.string { data := #[] })).setCell ⟨bD, t, none⟩ (.int .i64 (lt + 1))).setCell ⟨w.heap.size, 0, none⟩ (.string lv)).setCell ⟨w.heap.size + 1, 0, none⟩ (.string lv)).setCell ⟨w.heap.size + 1, 1, none⟩ (.slice aR k cR)).heap[k']? =
            (((W.drewN m).setCell ⟨w.heap.size, 0, none⟩ (.string { data := #[] })).setCell ⟨bD, t, none⟩ (.int .i64 (lt + 1))).heap[k']? := by
          intro k' hk'
          rw [Below.heap_setCell _ _ _ _ (by simp; omega), Below.heap_setCell _ _ _ _ (by simp; omega), Below.heap_setCell _ _ _ _ (by simp; omega)]
        refine ⟨rfl, LI.blocks L2 hlt hk, ⟨BF.os, BF.tape, BF.output, ?_, fun k' hk' hkb => ?_⟩⟩
        · simp only [size_setCell] at BF ⊢
          have := BF.size
          simp only [size_setCell] at this
          exact this
        · rw [hk k' hk']
          have : k' ≠ bD := fun e => hkb (by rw [hD, e]; rfl)
          rw [Below.heap_setCell _ _ _ _ (by simpa using this)]
          exact BF.block k' hk'

theorem lead_any (w : World) (s : Ld) (live : List ByteArray) (leads : List Int) (closed : List Bool) (ld : ByteArray) (aR : Option Addr) (nR cR : Nat) (reps : List ByteArray)
    (h : LI w s live leads closed) (hR : Strs w (.slice aR nR cR) reps) (hn : nR ≤ 1048576) (hb : ∀ x ∈ leads, -2147483648 ≤ x ∧ x ≤ 2147483648) :
    Calls Try.prog 16 #[.pointer (some ⟨s.gl, 0, none⟩), .agg #[.string ld, .slice aR nR cR]] w fun e w' => e = .returned (.agg #[.string (leadF live closed leads ld reps).2, .slice aR nR cR]) ∧ LI w' s live (leadF live closed leads ld reps).1 closed ∧ w.grownBy w' (Value.slice s.aD s.n s.cD).ownBlock := by
  cases hi : idx live ld with
  | none => exact lead_none w s live leads closed ld aR nR cR reps h hR hn hi hb
  | some f =>
    have e : leadF live closed leads ld reps = (leads, ld) := by unfold leadF; rw [hi]
    rw [e]
    refine (lead_has w s live leads closed ld aR nR cR f h hi).mono ?_
    rintro e w' ⟨rfl, hbw⟩
    exact ⟨rfl, h.below hbw, grown_of_below hbw _⟩

end Go.Proofs.Qxb6603051a
