/-
  Seat b6603051a: (*Loads).target (49), (*Loads).handOver (44).
-/
import Derived.Test.Qxb6603051aS1
namespace Go.Proofs.Qxb6603051a
open Go.RowKit
set_option linter.unusedVariables false

theorem foldl_take_succ {α β : Type} (f : β → α → β) (b : β) (l : List α) (k : Nat) (h : k < l.length) : (l.take (k + 1)).foldl f b = f ((l.take k).foldl f b) l[k] := by
  rw [List.take_succ_eq_append_getElem h, List.foldl_append]; rfl

abbrev topAt (live : List ByteArray) (leads : List Int) (closed : List Bool) (reps : List ByteArray) (k : Nat) : Option Nat :=
  (reps.take k).foldl (pickStep live leads closed (fun i => !(closed.getD i false))) none

theorem topAt_lt {live : List ByteArray} {leads : List Int} {closed : List Bool} {reps : List ByteArray} {k b : Nat} (h : topAt live leads closed reps k = some b) : b < live.length := by
  obtain ⟨id, _, h2, _⟩ := pick_some (reps := reps.take k) h
  exact idx_lt h2

set_option maxRecDepth 100000 in
set_option maxHeartbeats 1000000 in
theorem target_none (w : World) (s : Ld) (live : List ByteArray) (leads : List Int) (closed : List Bool) (ld : ByteArray) (aR : Option Addr) (nR cR : Nat) (reps : List ByteArray)
    (h : LI w s live leads closed) (hR : Strs w (.slice aR nR cR) reps) (hn : nR ≤ 1048576) (hi : idx live ld = none) :
    Calls Try.prog 49 #[.pointer (some ⟨s.gl, 0, none⟩), .agg #[.string ld, .slice aR nR cR]] w fun e w' => e = .returned (.tuple #[.int .i64 (-1), .int .i64 (-1)]) ∧ Below w.heap.size w w' := by
  have hlk := fun o => (h.alloc o).look ld
  rw [hi] at hlk
  have c1 := fun o => (h.alloc o).c1
  clear h hR hi
  go_enter Try.func49, Try.ntmps49
  go_wp2_with fail
  go_quiet (fail)
  go_wp2
  go_ret2
  exact ⟨rfl, below_drewN ((Below.refl _ _).alloc (Nat.le_refl _) _) _⟩

set_option maxRecDepth 100000 in
set_option maxHeartbeats 2000000 in
theorem target_some (w : World) (s : Ld) (live : List ByteArray) (leads : List Int) (closed : List Bool) (ld : ByteArray) (aR : Option Addr) (nR cR : Nat) (reps : List ByteArray) (f : Nat)
    (h : LI w s live leads closed) (hR : Strs w (.slice aR nR cR) reps) (hn : nR ≤ 1048576) (hi : idx live ld = some f) (hb : ∀ x ∈ leads, -2147483648 ≤ x ∧ x ≤ 2147483648) :
    Calls Try.prog 49 #[.pointer (some ⟨s.gl, 0, none⟩), .agg #[.string ld, .slice aR nR cR]] w fun e w' => e = .returned (.tuple #[.int .i64 (f : Int), .int .i64 (oi ((targetF live closed leads ld reps).map (·.2)))]) ∧ Below w.heap.size w w' := by
  have hlk := fun o => (h.alloc o).look ld
  rw [hi] at hlk
  have c1 := fun o => (h.alloc o).c1
  have HR : Hid (reps.length = nR) := hR.len.1
  have hfn : f < s.n := by rw [← h.lenL]; exact idx_lt hi
  have HI : Hid _ := hi
  have hsm := h.small
  clear hi
  go_enter Try.func49, Try.ntmps49
  go_wp2_with fail
  go_quiet (fail)
  go_wp2_with fail
  clear hlk
  obtain ⟨O, hO⟩ : ∃ O, O = Obj.cells #[Value.string ld, Value.slice aR nR cR] 35 := ⟨_, rfl⟩
  have h1 := h.alloc O
  have hR1 := Strs.below hR ((Below.refl w.heap.size w).alloc (Nat.le_refl _) O)
  have HB : Below w.heap.size w (w.alloc O) := (Below.refl _ _).alloc (Nat.le_refl _) O
  rw [← hO]
  have HO : Hid _ := hO
  clear hO h hR c1
  obtain ⟨W, hW⟩ : ∃ W, W = w.alloc O := ⟨_, rfl⟩
  rw [← hW] at h1 hR1 HB ⊢
  have HW : Hid _ := hW
  clear hW
  go_loopw [5, 26] (fun t i wr => ∃ k : Nat, k ≤ nR ∧ i = .int .i64 k ∧ t = .int .i64 (oi (topAt live leads closed reps k)) ∧ ∃ m, wr = W.drewN m) (fun _ i _ => nR - (intOf i).toNat)
  case atStart => exact ⟨0, Nat.zero_le _, rfl, rfl, _, rfl⟩
  case round =>
    obtain ⟨k, hk, rfl, rfl, m, rfl⟩ := hrel
    by_cases hlt : k < nR
    · have hkr : k < reps.length := by rw [HR.out]; exact hlt
      obtain ⟨b, off, u, hx, hc, hu⟩ := hR1.at hkr
      unfold EStr at hu
      subst hx
      subst hu
      have c1 := h1.c1
      have c4 := h1.c4
      have hlk := h1.look reps[k]
      have hstep := foldl_take_succ (pickStep live leads closed (fun i => !(closed.getD i false))) none reps k hkr
      have HS : Hid _ := hstep
      clear hstep
      have HF : Hid _ := And.intro h1 hR1
      clear h1 hR1
      cases hid : idx live reps[k] with
      | none =>
        have e1 : topAt live leads closed reps (k + 1) = topAt live leads closed reps k := by
          unfold topAt; rw [HS.out, pickStep_none hid]
        have HE : Hid _ := e1
        rw [hid] at hlk
        clear e1 hid
        go_wp2
        go_roundw
        case rel => exact ⟨k + 1, by omega, by go_num, by rw [HE.out], m, rfl⟩
        case measure => simp [intOf]; omega
      | some i =>
        have hin : i < s.n := by rw [← HF.out.1.lenL]; exact idx_lt hid
        obtain ⟨bC, oC, hC, hcc⟩ := HF.out.1.shut hin
        rw [hC] at c4
        rw [hid] at hlk
        simp only [Option.getD_some, Option.isSome_some] at hlk
        clear hC
        cases hci : closed.getD i false with
        | true =>
          have e1 : topAt live leads closed reps (k + 1) = topAt live leads closed reps k := by
            unfold topAt; rw [HS.out, pickStep_shut hid (by simp only [hci]; rfl)]
          have HE : Hid _ := e1
          rw [hci] at hcc
          clear e1 hid hci
          go_wp2
          go_roundw
          case rel => exact ⟨k + 1, by omega, by go_num, by rw [HE.out], m, rfl⟩
          case measure => simp [intOf]; omega
        | false =>
          rw [hci] at hcc
          cases htk : topAt live leads closed reps k with
          | none =>
            have e1 : topAt live leads closed reps (k + 1) = some i := by
              unfold topAt at htk ⊢; rw [HS.out, htk, pickStep_first hid (by simp only [hci]; rfl)]
            have HE : Hid _ := e1
            clear e1 hid hci htk
            simp only [oi]
            go_wp2
            go_roundw
            case rel => exact ⟨k + 1, by omega, by go_num, (by rw [HE.out]; try rfl), m, rfl⟩
            case measure => simp [intOf]; omega
          | some b' =>
            have hbn : b' < s.n := by rw [← HF.out.1.lenL]; exact topAt_lt htk
            have HC := fun mm => elected_any (W.drewN mm) s live leads closed i b' (HF.out.1.drewN mm) hin hbn
            simp only [oi]
            cases hel : el leads closed i b' with
            | true =>
              have e1 : topAt live leads closed reps (k + 1) = some i := by
                unfold topAt at htk ⊢; rw [HS.out, htk, pickStep_win hid (by simp only [hci]; rfl) hel]
              have HE : Hid _ := e1
              rw [hel] at HC
              clear e1 hid hci htk hel
              go_wp2_with (go_at_call 42; refine (HC _).mono ?_; rintro e w' ⟨rfl, mm, rfl⟩)
              go_roundw
              case rel => exact ⟨k + 1, by omega, by go_num, (by rw [HE.out]; try rfl), _, rfl⟩
              case measure => simp [intOf]; omega
            | false =>
              have e1 : topAt live leads closed reps (k + 1) = some b' := by
                unfold topAt at htk ⊢; rw [HS.out, htk, pickStep_lose hid (by simp only [hci]; rfl) hel]
              have HE : Hid _ := e1
              rw [hel] at HC
              clear e1 hid hci htk hel
              go_wp2_with (go_at_call 42; refine (HC _).mono ?_; rintro e w' ⟨rfl, mm, rfl⟩)
              go_roundw
              case rel => exact ⟨k + 1, by omega, by go_num, (by rw [HE.out]; try rfl), _, rfl⟩
              case measure => simp [intOf]; omega
    · obtain rfl : k = nR := by omega
      have et : topAt live leads closed reps k = top live leads closed reps := by
        unfold topAt top pick; rw [List.take_of_length_le (by rw [HR.out]; exact Nat.le_refl _)]
      rw [et]
      clear et hlt hk
      have c3 := h1.c3
      have c4 := h1.c4
      obtain ⟨bC, oC, hC, hcc⟩ := h1.shut hfn
      rw [hC] at c4
      have i1 : (f : Int) < (s.n : Int) := by omega
      cases ht : top live leads closed reps with
      | none =>
        have e1 : targetF live closed leads ld reps = none := by unfold targetF; rw [HI.out]; simp only [ht]
        have HE : Hid _ := e1
        simp only [oi]
        clear e1 ht h1 hR1 hC hb
        go_wp2_with fail
        go_quiet (fail)
        go_wp2
        go_ret2
        exact ⟨(by rw [HE.out]; try rfl), below_drewN (below_drewN HB _) _⟩
      | some t =>
        have htn : t < s.n := by
          rw [← h1.lenL]
          obtain ⟨id, _, h2, _⟩ := pick_some ht
          exact idx_lt h2
        obtain ⟨bD, hD, d1, -⟩ := h1.lead hfn
        obtain ⟨bD', hD', d2, -⟩ := h1.lead htn
        rw [hD] at hD'; simp only [Option.some.injEq, Addr.mk.injEq, and_true] at hD'; subst hD'
        rw [hD] at c3
        have b1 := hb (leads.getD f 0) (by rw [List.getD_eq_getElem?_getD, List.getElem?_eq_getElem (by rw [h1.lenD]; exact hfn)]; exact List.getElem_mem _)
        have b2 := hb (leads.getD t 0) (by rw [List.getD_eq_getElem?_getD, List.getElem?_eq_getElem (by rw [h1.lenD]; exact htn)]; exact List.getElem_mem _)
        have i2 : (t : Int) < (s.n : Int) := by omega
        have hg : decide ((t : Int) < 0) = false := decide_eq_false (by omega)
        have ET : targetF live closed leads ld reps = if !(closed.getD f false) && decide (leads.getD f 0 - leads.getD t 0 < 2) then none else some (f, t) := by
          unfold targetF; rw [HI.out]; simp only [ht]
        have HE : Hid _ := ET
        simp only [oi]
        clear ET ht h1 hR1 hC hb hD
        generalize closed.getD f false = cf at *
        generalize leads.getD f 0 = lf at *
        generalize leads.getD t 0 = lt at *
        cases cf with
        | true =>
          go_wp2_with fail
          go_quiet (fail)
          go_wp2
          go_ret2
          exact ⟨(by rw [HE.out]; try rfl), below_drewN (below_drewN HB _) _⟩
        | false =>
          by_cases hd : lf - lt < 2
          · go_wp2_with fail
            go_quiet (fail)
            go_wp2
            go_ret2
            exact ⟨(by rw [HE.out]; simp [hd]; try rfl), below_drewN (below_drewN HB _) _⟩
          · go_wp2_with fail
            go_quiet (fail)
            go_wp2
            go_ret2
            exact ⟨(by rw [HE.out, if_neg (by simp; omega)]; rfl), below_drewN (below_drewN HB _) _⟩

end Go.Proofs.Qxb6603051a
