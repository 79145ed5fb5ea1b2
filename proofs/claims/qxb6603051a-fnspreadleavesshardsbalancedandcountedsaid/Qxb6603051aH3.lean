/-
  Seat b6603051a: cb1LoadsBytes (38), cb1SpreadBytes (22), cb1IndexOf (12), ZZB1NewLoads (15), ZZB1LoadsLeads (21).
-/
import Derived.Test.Qxb6603051aH2
namespace Go.Proofs.Qxb6603051a
open Go.RowKit
set_option linter.unusedVariables false
set_option linter.unusedSimpArgs false

/-- An int came back whose meaning as a total is s. -/
def TotIs (s : Nat) (e : Ending) : Prop := ∃ v, e = .returned (.int .i64 v) ∧ Tot v s

theorem Tot.zero : Tot 0 0 := ⟨by omega, by omega, fun _ => rfl⟩

set_option maxHeartbeats 400000 in
theorem loadsBytes_any (a0 aD aC : Option Addr) (n c0 nD cD nC cC : Nat) (ro : Option Nat) (ml : Nat) (zf : ByteArray → Int) (okf : ByteArray → Bool) (live : List ByteArray) (w : World)
    (h0 : Strs w (.slice a0 n c0) live) (hm : MapArg w ro ml zf okf) (hok : okS live) (hn : n ≤ 9223372036854775807) (hnD : nD ≤ 9223372036854775807) (hnC : nC ≤ 9223372036854775807) (hml : ml ≤ 9223372036854775807) :
    Calls Try.prog 38 #[.slice a0 n c0, .map ro, .slice aD nD cD, .slice aC nC cC] w fun e w' => TotIs (szS live + ml * 24 + nD * 8 + nC) e ∧ w = w' := by
  have hl0 : (Builtin.len_ #[23] 3 #[.map ro]).run Try.prog w = .ok (.int .i64 (ml : Int)) w := hm.1 0
  clear hm
  go_enter Try.func38, Try.ntmps38
  go_wp2_with fail
  refine (strBytes_any 0 0 a0 n c0 live _ Tot.zero h0 hok hn).mono ?_
  rintro e w' ⟨v, rfl, rfl, hv⟩
  go_wp2_with fail
  refine (addW_any v ml 24 _ _ hv (by omega) hml).mono ?_
  rintro e w' ⟨v2, rfl, rfl, hv2⟩
  go_wp2_with fail
  refine (addW_any v2 nD 8 _ _ hv2 (by omega) hnD).mono ?_
  rintro e w' ⟨v3, rfl, rfl, hv3⟩
  go_wp2_with fail
  refine (addW_any v3 nC 1 _ _ hv3 (by omega) hnC).mono ?_
  rintro e w' ⟨v4, rfl, rfl, hv4⟩
  go_wp2
  go_ret
  refine ⟨⟨v4, rfl, ?_⟩, rfl⟩
  rw [show szS live + ml * 24 + nD * 8 + nC = 0 + szS live + ml * 24 + nD * 8 + nC * 1 by omega]
  exact hv4

set_option maxHeartbeats 400000 in
theorem spreadBytes_any (a0 aD aC aS aN : Option Addr) (n c0 nD cD nC cC nS cS nN cN : Nat) (ro : Option Nat) (ml : Nat) (zf : ByteArray → Int) (okf : ByteArray → Bool) (live leaders : List ByteArray) (reps : List (List ByteArray)) (w : World)
    (h0 : Strs w (.slice a0 n c0) live) (hm : MapArg w ro ml zf okf) (hok : okS live) (hn : n ≤ 9223372036854775807) (hnD : nD ≤ 9223372036854775807) (hnC : nC ≤ 9223372036854775807) (hml : ml ≤ 9223372036854775807)
    (hS : Strs w (.slice aS nS cS) leaders) (hokS : okS leaders) (hnS : nS ≤ 9223372036854775807) (hN : Nest w (.slice aN nN cN) reps) (hokN : okN reps) (hnN : nN ≤ 9223372036854775807) :
    Calls Try.prog 22 #[.slice a0 n c0, .map ro, .slice aD nD cD, .slice aC nC cC, .slice aS nS cS, .slice aN nN cN] w fun e w' => TotIs (szS live + ml * 24 + nD * 8 + nC + szS leaders + szN reps) e ∧ w = w' := by
  go_enter Try.func22, Try.ntmps22
  go_wp2_with fail
  refine (loadsBytes_any a0 aD aC n c0 nD cD nC cC ro ml zf okf live _ h0 hm hok hn hnD hnC hml).mono ?_
  rintro e w' ⟨⟨v, rfl, hv⟩, rfl⟩
  go_wp2_with fail
  refine (strBytes_any v _ aS nS cS leaders _ hv hS hokS hnS).mono ?_
  rintro e w' ⟨v2, rfl, rfl, hv2⟩
  go_wp2_with fail
  refine (nestBytes_any v2 _ aN nN cN reps _ hv2 hN hokN hnN).mono ?_
  rintro e w' ⟨v3, rfl, rfl, hv3⟩
  go_wp2
  go_ret
  exact ⟨⟨v3, rfl, hv3⟩, rfl⟩

/-- The index as far as place k. -/
theorem idx_take {live : List ByteArray} (hnd : live.Nodup) {k : Nat} (hk : k < live.length) (x : ByteArray) : (idx (live.take (k + 1)) x) = if x = live[k] then some k else idx (live.take k) x := by
  have e : live.take (k + 1) = live.take k ++ [live[k]] := List.take_succ_eq_append_getElem hk
  by_cases h : x = live[k]
  · subst h
    rw [if_pos rfl]
    refine idx_nodup (hnd.sublist (List.take_sublist _ _)) ?_
    rw [List.getElem?_take]; simp [hk]
  · rw [if_neg h]
    cases hi : idx (live.take k) x with
    | some i =>
      refine idx_nodup (hnd.sublist (List.take_sublist _ _)) ?_
      have := idx_get hi
      rw [e, List.getElem?_append_left (idx_lt hi)]
      exact this
    | none =>
      rw [idx_none] at hi ⊢
      rw [e]
      simp only [List.mem_append, List.mem_singleton, not_or]
      exact ⟨hi, h⟩

set_option maxHeartbeats 400000 in
theorem indexOf_any (ao : Option Addr) (n c : Nat) (live : List ByteArray) (w : World) (hs : Strs w (.slice ao n c) live) (hn : n ≤ 1048576) (hnd : live.Nodup) :
    Calls Try.prog 12 #[.slice ao n c] w fun e w' => e = .returned (.map (some w.heap.size)) ∧ (∃ m, MapIs w' w.heap.size m ∧ ∀ k, aget m k = (idx live k).map fun i => Value.int .i64 (i : Int)) ∧ Below w.heap.size w w' := by
  have HL : Hid (live.length = n) := hs.len.1
  have hmk := fun w => run_makeMap_hint (P := Try.prog) (w := w) (T := 23) (K := 9) (E := 3) Try.underlying23 (n : Int)
  go_enter Try.func12, Try.ntmps12
  go_wp2_with fail
  go_loopw [4] (fun i wr => ∃ k : Nat, k ≤ n ∧ i = .int .i64 k ∧ (∃ m, MapIs wr w.heap.size m ∧ ∀ x, aget m x = (idx (live.take k) x).map fun i => Value.int .i64 (i : Int)) ∧ Below w.heap.size w wr) (fun i _ => n - (intOf i).toNat)
  case atStart => exact ⟨0, Nat.zero_le _, rfl, ⟨[], MapIs.made w, fun x => rfl⟩, (Below.refl _ _).alloc (Nat.le_refl _) _⟩
  case round =>
    obtain ⟨k, hk, rfl, ⟨m, hm, hget⟩, hbe⟩ := hrel
    by_cases hlt : k < n
    · have hkl : k < live.length := by rw [HL.out]; exact hlt
      obtain ⟨b, off, u, hx, hc0, hu⟩ := hs.at hkl
      unfold EStr at hu
      subst hx hu
      have hc := cell_later hbe hc0
      have HA : Hid (_ ∧ _) := ⟨hm, hget⟩
      obtain ⟨w1, hrun, hm1, hg1, hsz1⟩ := run_update_my (P := Try.prog) (T := 23) (K := 9) (E := 3) Try.underlying23 Try.underlying9 hm live[k] (.int .i64 (k : Int))
      have HG : Hid (_ ∧ _) := ⟨hm1, hg1⟩
      have HN : Hid (live.Nodup) := hnd
      clear hs hc0 hm hget hm1 hg1 hsz1 hnd
      go_wp2
      go_roundw
      case rel =>
        refine ⟨k + 1, by omega, by go_num, ⟨_, HG.out.1, fun x => ?_⟩, ?_⟩
        · rw [aget_aset, HA.out.2 x, idx_take HN.out hkl]
          by_cases e : x = live[k] <;> simp [e]
        · exact hbe.grown HG.out.2 (Nat.le_of_lt (Nat.lt_of_lt_of_le (Nat.lt_of_le_of_lt (Nat.le_refl _) (HA.out.1.lt)) (Nat.le_refl _))) (fun j hj => by cases hj; exact Nat.le_refl _)
      case measure => simp [intOf]; omega
    · have HA : Hid (_ ∧ _) := ⟨hm, hget⟩
      clear hs hm hget
      go_wp2
      go_ret
      refine ⟨rfl, ⟨m, HA.out.1, fun x => ?_⟩, hbe⟩
      rw [HA.out.2 x, List.take_of_length_le (by rw [HL.out]; omega)]

set_option maxHeartbeats 400000 in
theorem newLoads_any (w : World) (s : Ld) (live : List ByteArray) (leads : List Int) (closed : List Bool) (hgl : s.gl = w.heap.size)
    (h3 : w.ownsRow 0 9 1 (.slice s.aL s.n s.cL) s.n (live.map Value.string)) (h4 : w.ownsRow 0 4 1 (.slice s.aC s.n s.cC) s.n (closed.map Value.bool)) (h5 : ∃ m, MapIs w s.ri m ∧ ∀ k, aget m k = (idx live k).map fun i => Value.int .i64 (i : Int))
    (h8 : w.ownsRow 0 3 1 (.slice s.aD s.n s.cD) s.n (leads.map (Value.int .i64))) (hn : s.n ≤ 1048576) :
    Calls Try.prog 15 #[.slice s.aL s.n s.cL, .map (some s.ri), .slice s.aD s.n s.cD, .slice s.aC s.n s.cC] w fun e w' => e = .returned (.pointer (some ⟨w.heap.size, 0, none⟩)) ∧ LI w' s live leads closed ∧ Below w.heap.size w w' := by
  have e3 := h3.1
  have e4 := h4.1
  have e8 := h8.1
  simp only [List.length_map, Nat.mul_one] at e3 e4 e8
  have HX : Hid (_ ∧ _ ∧ _ ∧ _ ∧ _ ∧ _ ∧ _ ∧ _) := ⟨h3, h4, h5, h8, e3, e4, e8, hgl⟩
  clear h3 h4 h5 h8 e3 e4 e8 hgl
  go_enter Try.func15, Try.ntmps15
  go_wp2
  go_ret
  obtain ⟨h3, h4, ⟨m, h5, h6⟩, h8, e3, e4, e8, hgl⟩ := HX.out
  have B : ∀ o, Below w.heap.size w (w.alloc o) := fun o => (Below.refl _ _).alloc (Nat.le_refl _) o
  exact ⟨rfl, ⟨⟨⟨_, by rw [hgl]; exact heap_alloc_new w _, rfl, rfl, rfl, rfl⟩, own_below h3 (B _), own_below h4 (B _), ⟨m, h5.below (B _), h6⟩, e3, e4, hn⟩, own_below h8 (B _), e8⟩, B _⟩

set_option maxHeartbeats 400000 in
theorem loadsLeads_any (w : World) (s : Ld) (live : List ByteArray) (leads : List Int) (closed : List Bool) (h : LI w s live leads closed) :
    Calls Try.prog 21 #[.pointer (some ⟨s.gl, 0, none⟩)] w fun e w' => e = .returned (.slice s.aD s.n s.cD) ∧ w = w' := by
  have c3 := h.c3
  clear h
  go_enter Try.func21, Try.ntmps21
  go_wp2
  go_ret
  exact ⟨rfl, rfl⟩

end Go.Proofs.Qxb6603051a
