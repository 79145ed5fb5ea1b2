/-
  Seat b6603051a: cb1HeldBytes (29).
-/
import Derived.Test.Qxb6603051aG1
namespace Go.Proofs.Qxb6603051a
open Go.RowKit
set_option linter.unusedVariables false

def szC (fc : List (List Int)) : Nat := 24 * fc.length + (fc.map fun x => x.length * 8).sum
def szH (ids : List ByteArray) (n1 n2 : Nat) (fk : List (List ByteArray)) (fc : List (List Int)) (ldrs : List ByteArray) (rps : List (List ByteArray)) : Nat :=
  szS ids + n1 * 8 + n2 * 8 + szN fk + szC fc + szS ldrs + szN rps

theorem sum_take_succI (f : List Int → Nat) (ss : List (List Int)) (k : Nat) (h : k < ss.length) : ((ss.take (k + 1)).map f).sum = ((ss.take k).map f).sum + f ss[k] := by
  rw [List.take_succ_eq_append_getElem h]; simp only [List.map_append, List.map_cons, List.map_nil, List.sum_append, List.sum_cons, List.sum_nil, Nat.add_zero]

theorem Tot.over {v : Int} (h0 : 0 ≤ v) (h1 : v ≤ 1048577) (h : ¬ v ≤ 1048576) (s : Nat) : Tot v s := ⟨h0, h1, fun h' => absurd h' h⟩

set_option maxRecDepth 100000 in
set_option maxHeartbeats 1000000 in
theorem heldBytes_any (a0 a1 a2 a3 a4 a5 a6 : Option Addr) (n0 c0 n1 c1 n2 c2 n3 c3 n4 c4 n5 c5 n6 c6 : Nat) (ids : List ByteArray) (fk : List (List ByteArray)) (fc : List (List Int)) (ldrs : List ByteArray) (rps : List (List ByteArray)) (w : World)
    (h0 : Strs w (.slice a0 n0 c0) ids) (h3 : Nest w (.slice a3 n3 c3) fk) (h4 : Slc (Slc EInt) w (.slice a4 n4 c4) fc) (h5 : Strs w (.slice a5 n5 c5) ldrs) (h6 : Nest w (.slice a6 n6 c6) rps)
    (q0 : okS ids) (q3 : okN fk) (q4 : ∀ x ∈ fc, x.length ≤ 9223372036854775807) (q5 : okS ldrs) (q6 : okN rps)
    (m0 : n0 ≤ 9223372036854775807) (m1 : n1 ≤ 9223372036854775807) (m2 : n2 ≤ 9223372036854775807) (m3 : n3 ≤ 9223372036854775807) (m4 : n4 ≤ 9223372036854775807) (m5 : n5 ≤ 9223372036854775807) (m6 : n6 ≤ 9223372036854775807) :
    Calls Try.prog 29 #[.slice a0 n0 c0, .slice a1 n1 c1, .slice a2 n2 c2, .slice a3 n3 c3, .slice a4 n4 c4, .slice a5 n5 c5, .slice a6 n6 c6] w fun e w' => ∃ v, e = .returned (.int .i64 v) ∧ w = w' ∧ Tot v (szH ids n1 n2 fk fc ldrs rps) := by
  have H0 : Hid (Strs w (.slice a0 n0 c0) ids ∧ okS ids) := ⟨h0, q0⟩
  have H3 : Hid (Nest w (.slice a3 n3 c3) fk ∧ okN fk) := ⟨h3, q3⟩
  have H4 : Hid (Slc (Slc EInt) w (.slice a4 n4 c4) fc ∧ ∀ x ∈ fc, x.length ≤ 9223372036854775807) := ⟨h4, q4⟩
  have H5 : Hid (Strs w (.slice a5 n5 c5) ldrs ∧ okS ldrs) := ⟨h5, q5⟩
  have H6 : Hid (Nest w (.slice a6 n6 c6) rps ∧ okN rps) := ⟨h6, q6⟩
  have L4 : Hid (fc.length = n4) := h4.len.1
  clear h0 h3 h4 h5 h6 q0 q3 q4 q5 q6
  go_enter Try.func29, Try.ntmps29
  go_wp2_with fail
  refine (strBytes_any 0 0 a0 n0 c0 ids w ⟨by omega, by omega, fun _ => rfl⟩ H0.out.1 H0.out.2 m0).mono ?_
  rintro e w' ⟨v, rfl, rfl, hv⟩
  rw [Nat.zero_add] at hv
  go_wp2_with fail
  refine (addW_any v n1 8 _ w hv (by omega) m1).mono ?_
  clear hv
  rintro e w' ⟨v, rfl, rfl, hv⟩
  go_wp2_with fail
  refine (addW_any v n2 8 _ w hv (by omega) m2).mono ?_
  clear hv
  rintro e w' ⟨v, rfl, rfl, hv⟩
  go_wp2_with fail
  refine (nestBytes_any v _ a3 n3 c3 fk w hv H3.out.1 H3.out.2 m3).mono ?_
  clear hv
  rintro e w' ⟨v, rfl, rfl, hv⟩
  go_wp2_with fail
  refine (addW_any v n4 24 _ w hv (by omega) m4).mono ?_
  clear hv
  rintro e w' ⟨v, rfl, rfl, hv⟩
  obtain ⟨S, hS⟩ : ∃ S, S = szS ids + n1 * 8 + n2 * 8 + szN fk + n4 * 24 := ⟨_, rfl⟩
  rw [← hS] at hv
  have HS : Hid (S = szS ids + n1 * 8 + n2 * 8 + szN fk + n4 * 24) := hS
  clear hS
  go_wp2_with fail
  go_loopw [15, 16] (fun q i wr => ∃ k : Nat, k ≤ n4 ∧ i = .int .i64 k ∧ w = wr ∧ ∃ v, q = .int .i64 v ∧ Tot v (S + ((fc.take k).map fun x => x.length * 8).sum)) (fun _ i _ => n4 - (intOf i).toNat)
  case atStart => exact ⟨0, Nat.zero_le _, rfl, rfl, v, rfl, by simpa using hv⟩
  case round =>
    clear hv
    obtain ⟨k, hk, rfl, rfl, v, rfl, hv⟩ := hrel
    have hvb := hv.1
    have hvc := hv.2.1
    have HV : Hid (Tot v (S + ((fc.take k).map fun x => x.length * 8).sum)) := hv
    clear hv
    by_cases hgo : k < n4 ∧ v ≤ 1048576
    · obtain ⟨hlt, hM⟩ := hgo
      have hkl : k < fc.length := by have := L4.out; omega
      obtain ⟨b, off, u, hx, hc, hu⟩ := H4.out.1.at hkl
      subst hx
      obtain ⟨ai, ci, rfl, -, -⟩ := hu.shape
      have hsz := H4.out.2 _ (List.getElem_mem hkl)
      have HSU := sum_take_succI (fun x => x.length * 8) fc k hkl
      have HSU' : Hid (((fc.take (k + 1)).map fun x => x.length * 8).sum = ((fc.take k).map fun x => x.length * 8).sum + fc[k].length * 8) := HSU
      clear hu HSU
      generalize fc[k].length = m at hc hsz HSU'
      go_wp2_with fail
      refine (addW_any v m 8 _ w HV.out (by omega) hsz).mono ?_
      rintro e w' ⟨v', rfl, rfl, hv'⟩
      have HV' : Hid (Tot v' (S + ((fc.take (k + 1)).map fun x => x.length * 8).sum)) := by
        show Tot _ _
        rw [HSU'.out, ← Nat.add_assoc]; exact hv'
      clear hv'
      go_wp2
      go_roundw
      case rel => exact ⟨k + 1, by omega, by go_num, by first | rfl | trivial, v', rfl, HV'.out⟩
      case measure => simp [intOf]; omega
    · have HF : Hid (Tot v (S + (fc.map fun x => x.length * 8).sum)) := by
        show Tot _ _
        by_cases hM : v ≤ 1048576
        · have := HV.out
          rw [List.take_of_length_le (by have := L4.out; omega)] at this
          exact this
        · exact Tot.over hvb hvc hM _
      clear HV
      by_cases hlt : k < n4
      · have hM : ¬ v ≤ 1048576 := fun h => hgo ⟨hlt, h⟩
        clear hgo
        go_wp2_with fail
        refine (strBytes_any v _ a5 n5 c5 ldrs w HF.out H5.out.1 H5.out.2 m5).mono ?_
        rintro e w' ⟨v1, rfl, rfl, hv1⟩
        go_wp2_with fail
        refine (nestBytes_any v1 _ a6 n6 c6 rps w hv1 H6.out.1 H6.out.2 m6).mono ?_
        rintro e w' ⟨v2, rfl, rfl, hv2⟩
        have HV2 : Hid (Tot v2 (szH ids n1 n2 fk fc ldrs rps)) := by
          show Tot _ _
          have e : szH ids n1 n2 fk fc ldrs rps = S + (fc.map fun x => x.length * 8).sum + szS ldrs + szN rps := by unfold szH szC; rw [HS.out, L4.out]; omega
          rw [e]; exact hv2
        clear hv1 hv2
        go_wp2
        go_ret
        exact ⟨_, rfl, rfl, HV2.out⟩
      · clear hgo
        go_wp2_with fail
        refine (strBytes_any v _ a5 n5 c5 ldrs w HF.out H5.out.1 H5.out.2 m5).mono ?_
        rintro e w' ⟨v1, rfl, rfl, hv1⟩
        go_wp2_with fail
        refine (nestBytes_any v1 _ a6 n6 c6 rps w hv1 H6.out.1 H6.out.2 m6).mono ?_
        rintro e w' ⟨v2, rfl, rfl, hv2⟩
        have HV2 : Hid (Tot v2 (szH ids n1 n2 fk fc ldrs rps)) := by
          show Tot _ _
          have e : szH ids n1 n2 fk fc ldrs rps = S + (fc.map fun x => x.length * 8).sum + szS ldrs + szN rps := by unfold szH szC; rw [HS.out, L4.out]; omega
          rw [e]; exact hv2
        clear hv1 hv2
        go_wp2
        go_ret
        exact ⟨_, rfl, rfl, HV2.out⟩

end Go.Proofs.Qxb6603051a
