/-
  Seat b6603051a: cb1LoadsFit (10), cb1LoadsBytes (38), cb1SpreadBytes (22), cb1IndexOf (12), ZZB1NewLoads (15), ZZB1LoadsLeads (21).
-/
import Derived.Test.Qxb6603051aH1
import Derived.Maps.Own
namespace Go.Proofs.Qxb6603051a
open Go.RowKit
set_option linter.unusedVariables false
set_option linter.unusedSimpArgs false

/-- The map argument, as the guards look at it: its length, and what its look-ups give. -/
def MapArg (w : World) (ro : Option Nat) (ml : Nat) (zf : ByteArray → Int) (okf : ByteArray → Bool) : Prop :=
  (∀ nq, (Builtin.len_ #[23] 3 #[.map ro]).run Try.prog (w.drewN nq) = .ok (.int .i64 (ml : Int)) (w.drewN nq)) ∧
  ∀ k nq, (Instr.lookup 23 (.map ro) (.string k) true).run Try.prog (w.drewN nq) = .ok (.tuple #[.int .i64 (zf k), .bool (okf k)]) (w.drewN nq)

def FitP (live : List ByteArray) (leads : List Int) (closed : List Bool) : Prop :=
  leads.length = live.length ∧ closed.length = live.length ∧ Asc live ∧ ∀ x ∈ leads, 0 ≤ x ∧ x ≤ 1073741824

theorem asc_snoc {live : List ByteArray} {k : Nat} (h : ∀ (i j : Nat) x y, i < j → j < k → live[i]? = some x → live[j]? = some y → blB x y = true)
    (hk : ∀ x y, 0 < k → live[k - 1]? = some x → live[k]? = some y → blB x y = true) : ∀ (i j : Nat) x y, i < j → j < k + 1 → live[i]? = some x → live[j]? = some y → blB x y = true := by
  intro i j x y hij hj hx hy
  by_cases e : j = k
  · subst e
    by_cases e2 : i = j - 1
    · subst e2; exact hk x y (by omega) hx hy
    · have hl : j - 1 < live.length := by have := (List.getElem?_eq_some_iff.1 hy).1; omega
      have h1 := h i (j - 1) x _ (by omega) (by omega) hx (List.getElem?_eq_getElem hl)
      exact blB_trans h1 (hk _ y (by omega) (List.getElem?_eq_getElem hl) hy)
  · exact h i j x y hij (by omega) hx hy

set_option maxRecDepth 100000 in
set_option maxHeartbeats 2000000 in
theorem loadsFit_any (a0 aD aC : Option Addr) (n c0 nD cD nC cC : Nat) (ro : Option Nat) (ml : Nat) (zf : ByteArray → Int) (okf : ByteArray → Bool) (live : List ByteArray) (leads : List Int) (closed : List Bool) (w : World)
    (h0 : Strs w (.slice a0 n c0) live) (hD : Ints w (.slice aD nD cD) leads) (hC : Bools w (.slice aC nC cC) closed) (hm : MapArg w ro ml zf okf) (hn : n ≤ 1048576) (hnD : nD ≤ 1048576) (hnC : nC ≤ 1048576) (hml : ml ≤ 1048576) (hok : okS live) :
    Calls Try.prog 10 #[.slice a0 n c0, .map ro, .slice aD nD cD, .slice aC nC cC] w fun e w' => BoolIf (FitP live leads closed) e ∧ ∃ m, w' = w.drewN m := by
  have HL : Hid (live.length = n) := h0.len.1
  have HD : Hid (leads.length = nD) := hD.len.1
  have HC : Hid (closed.length = nC) := hC.len.1
  obtain ⟨hle, hlk⟩ := hm
  have hl0 : (Builtin.len_ #[23] 3 #[.map ro]).run Try.prog w = .ok (.int .i64 (ml : Int)) w := hle 0
  by_cases hq1 : nD = n
  case neg =>
    clear hlk h0 hD hC hle
    go_enter Try.func10, Try.ntmps10
    go_wp2
    go_ret
    exact ⟨BoolIf.no _, 0, rfl⟩
  subst hq1
  by_cases hq2 : nC = nD
  case neg =>
    clear hlk h0 hD hC hle
    go_enter Try.func10, Try.ntmps10
    go_wp2
    go_ret
    exact ⟨BoolIf.no _, 0, rfl⟩
  subst hq2
  by_cases hq3 : ml = nC
  case neg =>
    clear hlk h0 hD hC hle
    go_enter Try.func10, Try.ntmps10
    go_wp2
    go_ret
    exact ⟨BoolIf.no _, 0, rfl⟩
  subst hq3
  generalize ml = n at *
  go_enter Try.func10, Try.ntmps10
  go_wp2_with fail
  go_loopw [9] (fun i wr => ∃ k : Nat, k ≤ n ∧ i = .int .i64 k ∧ (∀ (i j : Nat) x y, i < j → j < k → live[i]? = some x → live[j]? = some y → blB x y = true) ∧ (∀ j x, j < k → leads[j]? = some x → 0 ≤ x ∧ x ≤ 1073741824) ∧ ∃ m, wr = w.drewN m) (fun i _ => n - (intOf i).toNat)
  case atStart => exact ⟨0, Nat.zero_le _, rfl, fun i j x y _ hj => by omega, fun j x hj => by omega, 0, rfl⟩
  case round =>
    clear hl0 hle
    obtain ⟨k, hk, rfl, hasc, hbd, m, rfl⟩ := hrel
    by_cases hlt : k < n
    · have hkl : k < live.length := by rw [HL.out]; exact hlt
      have hkd : k < leads.length := by rw [HD.out]; exact hlt
      obtain ⟨b, off, u, hx, hc, hu⟩ := h0.at hkl
      obtain ⟨b2, off2, u2, hx2, hc2, hu2⟩ := hD.at hkd
      unfold EStr at hu
      unfold EInt at hu2
      have hprev : 0 < k → ∃ x, live[k - 1]? = some x ∧ w.cell? ⟨b, off + (k - 1), none⟩ = some (.string x) ∧ x.size ≤ 9223372036854775807 := by
        intro hk0
        have hk1 : k - 1 < live.length := by omega
        obtain ⟨b', off', u', hx', hc', hu'⟩ := h0.at hk1
        rw [hx] at hx'
        cases hx'
        unfold EStr at hu'
        subst hu'
        exact ⟨_, List.getElem?_eq_getElem hk1, hc', hok _ (List.getElem_mem hk1)⟩
      have hsz := hok _ (List.getElem_mem hkl)
      subst hx hx2 hu hu2
      have i1 : (k : Int) < (n : Int) := by omega
      have hlk' := hlk live[k]
      have HA : Hid (_ ∧ _) := ⟨hasc, hbd⟩
      clear hasc hbd h0 hD hC hlk hok
      cases hokf : okf live[k] with
      | false =>
        rw [hokf] at hlk'
        clear hprev
        go_wp2
        go_ret
        exact ⟨BoolIf.no _, _, rfl⟩
      | true =>
        rw [hokf] at hlk'
        by_cases hzf : zf live[k] = (k : Int)
        case neg =>
          generalize zf live[k] = z at *
          clear hprev
          go_wp2
          go_ret
          exact ⟨BoolIf.no _, _, rfl⟩
        rw [hzf] at hlk'
        clear hzf hokf
        have fin : ∀ mm : Nat, (∀ x y, 0 < k → live[k - 1]? = some x → live[k]? = some y → blB x y = true) → (0 ≤ leads[k] ∧ leads[k] ≤ 1073741824) →
            (∀ (i j : Nat) x y, i < j → j < k + 1 → live[i]? = some x → live[j]? = some y → blB x y = true) ∧ (∀ j x, j < k + 1 → leads[j]? = some x → 0 ≤ x ∧ x ≤ 1073741824) := by
          intro mm h1 h2
          refine ⟨asc_snoc HA.out.1 h1, fun j x hj hx => ?_⟩
          by_cases e : j = k
          · subst e; rw [List.getElem?_eq_getElem hkd] at hx; cases hx; exact h2
          · exact HA.out.2 j x (by omega) hx
        have FIN : Hid _ := fin
        clear fin
        have hcase : k = 0 ∨ 0 < k := by omega
        rcases hcase with hk0 | hk0
        · have hg : decide ((0 : Int) < (k : Int)) = false := decide_eq_false (by omega)
          clear hprev
          have FIN2 : Hid ((0 ≤ leads[k] ∧ leads[k] ≤ 1073741824) → _) := FIN.out 0 (fun x y h _ _ => absurd h (by omega))
          clear FIN
          generalize leads[k] = lk at *
          have hgN : decide (0 < k) = false := decide_eq_false (by omega)
          have HK0 : Hid (k = 0) := hk0
          clear hk0
          by_cases hb1 : lk < 0
          · go_wp2_with fail
            go_quiet (fail)
            go_wp2
            go_ret
            exact ⟨BoolIf.no _, _, by first | rfl | exact World.drewN_drewN _ _ _⟩
          by_cases hb2 : 1073741824 < lk
          · go_wp2_with fail
            go_quiet (fail)
            go_wp2
            go_ret
            exact ⟨BoolIf.no _, _, by first | rfl | exact World.drewN_drewN _ _ _⟩
          go_wp2_with fail
          go_quiet (fail)
          go_wp2
          go_roundw
          case rel => exact ⟨k + 1, by omega, by go_num, (FIN2.out ⟨by omega, by omega⟩).1, (FIN2.out ⟨by omega, by omega⟩).2, _, by first | rfl | exact World.drewN_drewN _ _ _⟩
          case measure => simp [intOf]; omega
        · obtain ⟨x, hx, hcx, hszx⟩ := hprev hk0
          have hg : (0 : Int) < (k : Int) := by omega
          have i3 : (k : Int) - 1 < (n : Int) := by omega
          have HX : Hid _ := hx
          clear hprev hx
          have hcW : (w.drewN m).cell? ⟨b, off + k, none⟩ = some (.string live[k]) := hc
          have hcxW : (w.drewN m).cell? ⟨b, off + (k - 1), none⟩ = some (.string x) := hcx
          have hc2W : (w.drewN m).cell? ⟨b2, off2 + k, none⟩ = some (.int .i64 leads[k]) := hc2
          have hlkW := hlk' m
          clear hc hc2 hcx hlk'
          generalize hwr : w.drewN m = wr at hcW hcxW hc2W hlkW ⊢
          have HW : Hid (w.drewN m = wr) := hwr
          clear hwr
          cases hbl : blB x live[k] with
          | false =>
            clear FIN
            generalize leads[k] = lk at *
            go_wp2_with fail
            go_quiet ((go_at_call 41; exact Calls.quiet_of (byteLess_any _ _ _ hszx hsz)))
            go_wp2
            go_ret
            exact ⟨BoolIf.no _, _, by rw [← HW.out]; exact World.drewN_drewN _ _ _⟩
          | true =>
            have FIN2 : Hid ((0 ≤ leads[k] ∧ leads[k] ≤ 1073741824) → _) := FIN.out 0 (fun x' y' h h1 h2 => by
              rw [HX.out] at h1; cases h1
              rw [List.getElem?_eq_getElem hkl] at h2; cases h2
              exact hbl)
            clear FIN
            generalize leads[k] = lk at *
            by_cases hb1 : lk < 0
            · go_wp2_with fail
              go_quiet ((go_at_call 41; exact Calls.quiet_of (byteLess_any _ _ _ hszx hsz)))
              go_wp2
              go_ret
              exact ⟨BoolIf.no _, _, by rw [← HW.out]; exact World.drewN_drewN _ _ _⟩
            by_cases hb2 : 1073741824 < lk
            · go_wp2_with fail
              go_quiet ((go_at_call 41; exact Calls.quiet_of (byteLess_any _ _ _ hszx hsz)))
              go_wp2
              go_ret
              exact ⟨BoolIf.no _, _, by rw [← HW.out]; exact World.drewN_drewN _ _ _⟩
            go_wp2_with fail
            go_quiet ((go_at_call 41; exact Calls.quiet_of (byteLess_any _ _ _ hszx hsz)))
            go_wp2
            go_roundw
            case rel => exact ⟨k + 1, by omega, by go_num, (FIN2.out ⟨by omega, by omega⟩).1, (FIN2.out ⟨by omega, by omega⟩).2, _, by rw [← HW.out]; exact World.drewN_drewN _ _ _⟩
            case measure => simp [intOf]; omega
    · have HA : Hid (_ ∧ _) := ⟨hasc, hbd⟩
      clear hasc hbd h0 hD hC hlk hok
      go_wp2
      go_ret
      refine ⟨BoolIf.yes ⟨by rw [HD.out, HL.out], by rw [HC.out, HL.out], ?_, ?_⟩, _, rfl⟩
      · intro i j x y hij hx hy
        exact HA.out.1 i j x y hij (by have := (List.getElem?_eq_some_iff.1 hy).1; have := HL.out; omega) hx hy
      · intro x hx
        obtain ⟨j, hj, hj2⟩ := List.getElem_of_mem hx
        exact HA.out.2 j x (by have := HD.out; omega) (by rw [List.getElem?_eq_getElem hj, hj2])

end Go.Proofs.Qxb6603051a
