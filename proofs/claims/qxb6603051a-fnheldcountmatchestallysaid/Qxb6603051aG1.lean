/-
  Seat b6603051a: the size guards: cb1Add (39), cb1AddW (45), cb1StringsBytes (40), cb1NestedBytes (43).
-/
import Derived.Test.Qxb6603051aRows
import Derived.Test.Qxb6603051aBase
namespace Go.Proofs.Qxb6603051a
open Go.RowKit

/-- What a guard's running total means: never beyond M + 1; up to M it is the true sum. -/
def Tot (v : Int) (s : Nat) : Prop := 0 ≤ v ∧ v ≤ 1048577 ∧ (v ≤ 1048576 → v = (s : Int))

def szS (ss : List ByteArray) : Nat := 16 * ss.length + (ss.map ByteArray.size).sum
def szN (sss : List (List ByteArray)) : Nat := 24 * sss.length + (sss.map szS).sum

set_option maxHeartbeats 400000 in
theorem add_any (t n : Int) (s m : Nat) (w : World) (ht : Tot t s) (hn : n = (m : Int)) (hm : m ≤ 9223372036854775807) :
    Calls Try.prog 39 #[.int .i64 t, .int .i64 n] w fun e w' => ∃ v, e = .returned (.int .i64 v) ∧ w = w' ∧ Tot v (s + m) := by
  obtain ⟨t0, t1, t2⟩ := ht
  have hn0 : 0 ≤ n := by omega
  have T2 : Hid (t ≤ 1048576 → t = (s : Int)) := t2
  have HN : Hid (n = (m : Int)) := hn
  clear t2 hn
  by_cases h1 : 1048576 < t
  · go_enter Try.func39, Try.ntmps39
    go_wp2
    go_ret
    exact ⟨_, rfl, rfl, by omega, by omega, by omega⟩
  by_cases h2 : 1048576 < n
  · go_enter Try.func39, Try.ntmps39
    go_wp2
    go_ret
    exact ⟨_, rfl, rfl, by omega, by omega, by omega⟩
  by_cases h3 : 1048576 - n < t
  · go_enter Try.func39, Try.ntmps39
    go_wp2
    go_ret
    exact ⟨_, rfl, rfl, by omega, by omega, by omega⟩
  go_enter Try.func39, Try.ntmps39
  go_wp2
  go_ret
  exact ⟨_, rfl, rfl, by omega, by omega, by have := T2.out; have := HN.out; omega⟩

set_option maxHeartbeats 400000 in
theorem addW_any (t : Int) (n k : Nat) (s : Nat) (w : World) (ht : Tot t s) (hk : k ≤ 24) (hn : n ≤ 9223372036854775807) :
    Calls Try.prog 45 #[.int .i64 t, .int .i64 (n : Int), .int .i64 (k : Int)] w fun e w' => ∃ v, e = .returned (.int .i64 v) ∧ w = w' ∧ Tot v (s + n * k) := by
  by_cases h1 : 1048576 < n
  · go_enter Try.func45, Try.ntmps45
    go_wp2
    go_ret
    exact ⟨_, rfl, rfl, by omega, by omega, by omega⟩
  have hb : n * k ≤ 1048576 * 24 := Nat.mul_le_mul (by omega) hk
  have e : ((n : Int) * (k : Int)) = ((n * k : Nat) : Int) := by simp
  have b1 : (n : Int) * (k : Int) ≤ 25165824 := by rw [e]; omega
  have b0 : 0 ≤ (n : Int) * (k : Int) := by rw [e]; omega
  have E : Hid _ := e
  clear e
  go_enter Try.func45, Try.ntmps45
  go_wp2_with fail
  refine (add_any t ((n : Int) * (k : Int)) s (n * k) _ ht E.out (by omega)).mono ?_
  rintro e w' ⟨v, rfl, rfl, hv⟩
  go_wp2
  go_ret
  exact ⟨_, rfl, rfl, hv⟩

theorem sum_take_succ (f : ByteArray → Nat) (ss : List ByteArray) (k : Nat) (h : k < ss.length) : ((ss.take (k + 1)).map f).sum = ((ss.take k).map f).sum + f ss[k] := by
  rw [List.take_succ_eq_append_getElem h]; simp only [List.map_append, List.map_cons, List.map_nil, List.sum_append, List.sum_cons, List.sum_nil, Nat.add_zero]

theorem sum_take_succ' (f : List ByteArray → Nat) (ss : List (List ByteArray)) (k : Nat) (h : k < ss.length) : ((ss.take (k + 1)).map f).sum = ((ss.take k).map f).sum + f ss[k] := by
  rw [List.take_succ_eq_append_getElem h]; simp only [List.map_append, List.map_cons, List.map_nil, List.sum_append, List.sum_cons, List.sum_nil, Nat.add_zero]

def okS (ss : List ByteArray) : Prop := ∀ s ∈ ss, s.size ≤ 9223372036854775807

set_option maxHeartbeats 400000 in
theorem strBytes_any (t : Int) (s : Nat) (ao : Option Addr) (n c : Nat) (ss : List ByteArray) (w : World) (ht : Tot t s) (hss : Strs w (.slice ao n c) ss) (hok : okS ss) (hn : n ≤ 9223372036854775807) :
    Calls Try.prog 40 #[.int .i64 t, .slice ao n c] w fun e w' => ∃ v, e = .returned (.int .i64 v) ∧ w = w' ∧ Tot v (s + szS ss) := by
  have hl := hss.len.1
  have HL : Hid (ss.length = n) := hl
  clear hl
  go_enter Try.func40, Try.ntmps40
  go_wp2_with fail
  refine (addW_any t n 16 s _ ht (by omega) hn).mono ?_
  rintro e w' ⟨v, rfl, rfl, hv⟩
  go_wp2_with fail
  go_loop [0, 5] (fun q i => ∃ k : Nat, k ≤ n ∧ i = .int .i64 k ∧ ∃ v, q = .int .i64 v ∧ Tot v (s + n * 16 + ((ss.take k).map ByteArray.size).sum)) (fun _ i => n - (intOf i).toNat)
  case atStart => exact ⟨0, Nat.zero_le _, rfl, v, rfl, by simpa using hv⟩
  case round =>
    clear hv
    obtain ⟨k, hk, rfl, v, rfl, hv⟩ := hrel
    have hvb := hv.1
    have hvc := hv.2.1
    by_cases hlt : k < n
    · by_cases hM : v ≤ 1048576
      · have hkl : k < ss.length := by have := HL.out; omega
        obtain ⟨b, off, u, hx, hc, hu⟩ := hss.at hkl
        subst hx
        unfold EStr at hu
        subst hu
        have hsz : (ss[k]).size ≤ 9223372036854775807 := hok _ (List.getElem_mem hkl)
        have HV : Hid _ := hv
        clear hv hss hok ht
        go_wp2_with fail
        refine (add_any v _ _ (ss[k]).size _ HV.out rfl hsz).mono ?_
        rintro e w' ⟨v', rfl, rfl, hv'⟩
        rw [Nat.add_assoc, ← sum_take_succ _ _ _ hkl] at hv'
        go_wp2
        go_round
        case rel => exact ⟨k + 1, by omega, by go_num, v', rfl, hv'⟩
        case measure => simp [intOf]; omega
      · have HV : Hid _ := hv
        clear hv hss hok ht
        go_wp2
        go_ret
        exact ⟨v, rfl, rfl, hvb, hvc, fun h => by omega⟩
    · have HV : Hid _ := hv
      clear hv hss hok ht
      go_wp2
      go_ret
      refine ⟨v, rfl, rfl, ?_⟩
      have := HV.out
      rw [List.take_of_length_le (by have := HL.out; omega)] at this
      have e : s + szS ss = s + n * 16 + (List.map ByteArray.size ss).sum := by unfold szS; rw [HL.out]; omega
      rw [e]
      exact this

def okN (sss : List (List ByteArray)) : Prop := ∀ ss ∈ sss, okS ss ∧ ss.length ≤ 9223372036854775807

set_option maxHeartbeats 400000 in
theorem nestBytes_any (t : Int) (s : Nat) (ao : Option Addr) (n c : Nat) (sss : List (List ByteArray)) (w : World) (ht : Tot t s) (hss : Nest w (.slice ao n c) sss) (hok : okN sss) (hn : n ≤ 9223372036854775807) :
    Calls Try.prog 43 #[.int .i64 t, .slice ao n c] w fun e w' => ∃ v, e = .returned (.int .i64 v) ∧ w = w' ∧ Tot v (s + szN sss) := by
  have hl := hss.len.1
  have HL : Hid (sss.length = n) := hl
  clear hl
  go_enter Try.func43, Try.ntmps43
  go_wp2_with fail
  refine (addW_any t n 24 s _ ht (by omega) hn).mono ?_
  rintro e w' ⟨v, rfl, rfl, hv⟩
  go_wp2_with fail
  go_loop [0, 5] (fun q i => ∃ k : Nat, k ≤ n ∧ i = .int .i64 k ∧ ∃ v, q = .int .i64 v ∧ Tot v (s + n * 24 + ((sss.take k).map szS).sum)) (fun _ i => n - (intOf i).toNat)
  case atStart => exact ⟨0, Nat.zero_le _, rfl, v, rfl, by simpa using hv⟩
  case round =>
    clear hv
    obtain ⟨k, hk, rfl, v, rfl, hv⟩ := hrel
    have hvb := hv.1
    have hvc := hv.2.1
    by_cases hlt : k < n
    · by_cases hM : v ≤ 1048576
      · have hkl : k < sss.length := by have := HL.out; omega
        obtain ⟨b, off, u, hx, hc, hu⟩ := hss.at hkl
        subst hx
        obtain ⟨ai, ci, rfl, -, -⟩ := hu.shape
        have hsz := hok _ (List.getElem_mem hkl)
        have HV : Hid _ := hv
        have HU : Hid _ := hu
        clear hv hss hok ht hu
        go_wp2_with fail
        refine (strBytes_any v _ _ _ _ _ _ HV.out HU.out hsz.1 hsz.2).mono ?_
        rintro e w' ⟨v', rfl, rfl, hv'⟩
        rw [Nat.add_assoc, ← sum_take_succ' _ _ _ hkl] at hv'
        go_wp2
        go_round
        case rel => exact ⟨k + 1, by omega, by go_num, v', rfl, hv'⟩
        case measure => simp [intOf]; omega
      · have HV : Hid _ := hv
        clear hv hss hok ht
        go_wp2
        go_ret
        exact ⟨v, rfl, rfl, hvb, hvc, fun h => by omega⟩
    · have HV : Hid _ := hv
      clear hv hss hok ht
      go_wp2
      go_ret
      refine ⟨v, rfl, rfl, ?_⟩
      have := HV.out
      rw [List.take_of_length_le (by have := HL.out; omega)] at this
      have e : s + szN sss = s + n * 24 + (List.map szS sss).sum := by unfold szN; rw [HL.out]; omega
      rw [e]
      exact this

end Go.Proofs.Qxb6603051a
