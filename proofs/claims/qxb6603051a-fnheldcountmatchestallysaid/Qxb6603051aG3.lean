/-
  Seat b6603051a: the size guard zzBytes_FnHeldCountMatchesTally (28).
-/
import Derived.Test.Qxb6603051aG1
namespace Go.Proofs.Qxb6603051a
open Go.RowKit
set_option linter.unusedVariables false

def BoolIs (e : Ending) : Prop := ∃ b, e = .returned (.bool b)
theorem boolIs_mk (b : Bool) : BoolIs (.returned (.bool b)) := ⟨b, rfl⟩

set_option maxRecDepth 100000 in
set_option maxHeartbeats 4000000 in
theorem zz28_any (a0 a1 a2 a3 a4 a5 a6 : Option Addr) (n0 c0 n1 c1 n2 c2 n3 c3 n4 c4 n5 c5 n6 c6 : Nat) (by_ : Int) (ids : List ByteArray) (fk : List (List ByteArray)) (fc : List (List Int)) (ldrs : List ByteArray) (reps2 : List (List ByteArray)) (w : World)
    (h0 : Strs w (.slice a0 n0 c0) ids) (h3 : Nest w (.slice a3 n3 c3) fk) (h4 : Slc (Slc EInt) w (.slice a4 n4 c4) fc) (h5 : Strs w (.slice a5 n5 c5) ldrs) (h6 : Nest w (.slice a6 n6 c6) reps2) :
    Calls Try.prog 28 #[.slice a0 n0 c0, .slice a1 n1 c1, .slice a2 n2 c2, .slice a3 n3 c3, .slice a4 n4 c4, .slice a5 n5 c5, .slice a6 n6 c6, .int .i64 by_] w fun e w' => BoolIs e ∧ w = w' := by
  have L0 : Hid (ids.length = n0) := h0.len.1
  have L3 : Hid (fk.length = n3) := h3.len.1
  have L4 : Hid (fc.length = n4) := h4.len.1
  have L5 : Hid (ldrs.length = n5) := h5.len.1
  have L6 : Hid (reps2.length = n6) := h6.len.1
  have H0 : Hid (Strs w (.slice a0 n0 c0) ids) := h0
  have H3 : Hid (Nest w (.slice a3 n3 c3) fk) := h3
  have H4 : Hid (Slc (Slc EInt) w (.slice a4 n4 c4) fc) := h4
  have H5 : Hid (Strs w (.slice a5 n5 c5) ldrs) := h5
  have H6 : Hid (Nest w (.slice a6 n6 c6) reps2) := h6
  clear h0 h3 h4 h5 h6
  by_cases b0 : 1048576 < n0
  · go_enter Try.func28, Try.ntmps28
    go_wp2
    go_ret
    exact ⟨boolIs_mk _, rfl⟩
  go_enter Try.func28, Try.ntmps28
  go_wp2_with fail
  go_loopw [17, 18] (fun t i wr => ∃ k : Nat, ∃ z : Int, k ≤ n0 ∧ i = .int .i64 k ∧ t = .int .i64 z ∧ 0 ≤ z ∧ z ≤ 1048576 ∧ w = wr) (fun _ i _ => n0 - (intOf i).toNat)
  case atStart => exact ⟨0, _, Nat.zero_le _, rfl, rfl, by omega, by omega, rfl⟩
  case round =>
    obtain ⟨k1, z2, h3k, rfl, rfl, h30, h31, rfl⟩ := hrel
    by_cases h3lt : k1 < n0
    · have hkx : k1 < ids.length := by have := L0.out; omega
      obtain ⟨b, off, u, hx, hc, hu⟩ := H0.out.at hkx
      unfold EStr at hu
      subst hu
      subst hx
      generalize ids[k1] = y at hc
      have i1 : (k1 : Int) < (n0 : Int) := by omega
      by_cases hy : 1048576 < y.size
      · go_wp2
        go_ret
        exact ⟨boolIs_mk _, rfl⟩
      by_cases hz : 1048576 < z2 + (y.size : Int)
      · go_wp2
        go_ret
        exact ⟨boolIs_mk _, rfl⟩
      go_wp2
      go_roundw
      case rel => exact ⟨k1 + 1, _, by omega, by go_num, by go_num, by omega, by omega, (by first | rfl | trivial)⟩
      case measure => simp [intOf]; omega
    obtain rfl : n0 = k1 := by omega
    clear h3lt h3k
    by_cases g4 : 1048576 < n1
    · go_wp2
      go_ret
      exact ⟨boolIs_mk _, rfl⟩
    by_cases g5 : 1048576 < z2 + (n1 : Int)
    · go_wp2
      go_ret
      exact ⟨boolIs_mk _, rfl⟩
    by_cases g6 : 1048576 < n2
    · go_wp2
      go_ret
      exact ⟨boolIs_mk _, rfl⟩
    by_cases g7 : 1048576 < (z2 + (n1 : Int)) + (n2 : Int)
    · go_wp2
      go_ret
      exact ⟨boolIs_mk _, rfl⟩
    by_cases g8 : 1048576 < n3
    · go_wp2
      go_ret
      exact ⟨boolIs_mk _, rfl⟩
    by_cases g9 : 1048576 < (z2 + (n1 : Int) + (n2 : Int)) + (n3 : Int)
    · go_wp2
      go_ret
      exact ⟨boolIs_mk _, rfl⟩
    go_wp2_with fail
    go_loopw [17, 19] (fun t i wr => ∃ k : Nat, ∃ z : Int, k ≤ n3 ∧ i = .int .i64 k ∧ t = .int .i64 z ∧ 0 ≤ z ∧ z ≤ 1048576 ∧ w = wr) (fun _ i _ => n3 - (intOf i).toNat)
    case atStart => exact ⟨0, _, Nat.zero_le _, rfl, rfl, by omega, by omega, rfl⟩
    case round =>
      obtain ⟨k10, z11, h12k, rfl, rfl, h120, h121, rfl⟩ := hrel
      by_cases h12lt : k10 < n3
      · have hkx : k10 < fk.length := by have := L3.out; omega
        obtain ⟨b, off, u, hx, hc', hu⟩ := H3.out.at hkx
        obtain ⟨ai, ci, rfl, -, -⟩ := hu.shape
        have HU : Hid (Strs w (.slice ai fk[k10].length ci) fk[k10]) := hu
        subst hx
        clear hu
        generalize fk[k10] = ys at hc' HU
        obtain ⟨m, hm⟩ : ∃ m, m = ys.length := ⟨_, rfl⟩
        have HM : Hid (ys.length = m) := hm.symm
        rw [HM.out] at hc' HU
        clear hm
        have j1 : (k10 : Int) < (n3 : Int) := by omega
        by_cases g13 : 1048576 < m
        · go_wp2
          go_ret
          exact ⟨boolIs_mk _, rfl⟩
        by_cases g14 : 1048576 < z11 + (m : Int)
        · go_wp2
          go_ret
          exact ⟨boolIs_mk _, rfl⟩
        go_wp2_with fail
        go_loopw [17, 20] (fun t i wr => ∃ k : Nat, ∃ z : Int, k ≤ m ∧ i = .int .i64 k ∧ t = .int .i64 z ∧ 0 ≤ z ∧ z ≤ 1048576 ∧ w = wr) (fun _ i _ => m - (intOf i).toNat)
        case atStart => exact ⟨0, _, Nat.zero_le _, rfl, rfl, by omega, by omega, rfl⟩
        case round =>
          obtain ⟨k15, z16, h17k, rfl, rfl, h170, h171, rfl⟩ := hrel
          by_cases h17lt : k15 < m
          · have hkx : k15 < ys.length := by have := HM.out; omega
            obtain ⟨b, off, u, hx, hc, hu⟩ := HU.out.at hkx
            unfold EStr at hu
            subst hu
            subst hx
            generalize ys[k15] = y at hc
            have i1 : (k15 : Int) < (m : Int) := by omega
            by_cases hy : 1048576 < y.size
            · go_wp2
              go_ret
              exact ⟨boolIs_mk _, rfl⟩
            by_cases hz : 1048576 < z16 + (y.size : Int)
            · go_wp2
              go_ret
              exact ⟨boolIs_mk _, rfl⟩
            go_wp2
            go_roundw
            case rel => exact ⟨k15 + 1, _, by omega, by go_num, by go_num, by omega, by omega, (by first | rfl | trivial)⟩
            case measure => simp [intOf]; omega
          obtain rfl : m = k15 := by omega
          clear h17lt h17k
          go_wp2
          go_roundw
          case rel => exact ⟨k10 + 1, _, by omega, by go_num, rfl, by omega, by omega, by first | rfl | trivial⟩
          case measure => simp [intOf]; omega
      obtain rfl : n3 = k10 := by omega
      clear h12lt h12k
      by_cases g18 : 1048576 < n4
      · go_wp2
        go_ret
        exact ⟨boolIs_mk _, rfl⟩
      by_cases g19 : 1048576 < z11 + (n4 : Int)
      · go_wp2
        go_ret
        exact ⟨boolIs_mk _, rfl⟩
      go_wp2_with fail
      go_loopw [17, 21] (fun t i wr => ∃ k : Nat, ∃ z : Int, k ≤ n4 ∧ i = .int .i64 k ∧ t = .int .i64 z ∧ 0 ≤ z ∧ z ≤ 1048576 ∧ w = wr) (fun _ i _ => n4 - (intOf i).toNat)
      case atStart => exact ⟨0, _, Nat.zero_le _, rfl, rfl, by omega, by omega, rfl⟩
      case round =>
        obtain ⟨k20, z21, h22k, rfl, rfl, h220, h221, rfl⟩ := hrel
        by_cases h22lt : k20 < n4
        · have hkx : k20 < fc.length := by have := L4.out; omega
          obtain ⟨b, off, u, hx, hc, hu⟩ := H4.out.at hkx
          obtain ⟨ai, ci, rfl, -, -⟩ := hu.shape
          subst hx
          clear hu
          generalize fc[k20].length = m at hc
          have i1 : (k20 : Int) < (n4 : Int) := by omega
          by_cases hy : 1048576 < m
          · go_wp2
            go_ret
            exact ⟨boolIs_mk _, rfl⟩
          by_cases hz : 1048576 < z21 + (m : Int)
          · go_wp2
            go_ret
            exact ⟨boolIs_mk _, rfl⟩
          go_wp2
          go_roundw
          case rel => exact ⟨k20 + 1, _, by omega, by go_num, by go_num, by omega, by omega, (by first | rfl | trivial)⟩
          case measure => simp [intOf]; omega
        obtain rfl : n4 = k20 := by omega
        clear h22lt h22k
        by_cases g23 : 1048576 < n5
        · go_wp2
          go_ret
          exact ⟨boolIs_mk _, rfl⟩
        by_cases g24 : 1048576 < z21 + (n5 : Int)
        · go_wp2
          go_ret
          exact ⟨boolIs_mk _, rfl⟩
        go_wp2_with fail
        go_loopw [17, 22] (fun t i wr => ∃ k : Nat, ∃ z : Int, k ≤ n5 ∧ i = .int .i64 k ∧ t = .int .i64 z ∧ 0 ≤ z ∧ z ≤ 1048576 ∧ w = wr) (fun _ i _ => n5 - (intOf i).toNat)
        case atStart => exact ⟨0, _, Nat.zero_le _, rfl, rfl, by omega, by omega, rfl⟩
        case round =>
          obtain ⟨k25, z26, h27k, rfl, rfl, h270, h271, rfl⟩ := hrel
          by_cases h27lt : k25 < n5
          · have hkx : k25 < ldrs.length := by have := L5.out; omega
            obtain ⟨b, off, u, hx, hc, hu⟩ := H5.out.at hkx
            unfold EStr at hu
            subst hu
            subst hx
            generalize ldrs[k25] = y at hc
            have i1 : (k25 : Int) < (n5 : Int) := by omega
            by_cases hy : 1048576 < y.size
            · go_wp2
              go_ret
              exact ⟨boolIs_mk _, rfl⟩
            by_cases hz : 1048576 < z26 + (y.size : Int)
            · go_wp2
              go_ret
              exact ⟨boolIs_mk _, rfl⟩
            go_wp2
            go_roundw
            case rel => exact ⟨k25 + 1, _, by omega, by go_num, by go_num, by omega, by omega, (by first | rfl | trivial)⟩
            case measure => simp [intOf]; omega
          obtain rfl : n5 = k25 := by omega
          clear h27lt h27k
          by_cases g28 : 1048576 < n6
          · go_wp2
            go_ret
            exact ⟨boolIs_mk _, rfl⟩
          by_cases g29 : 1048576 < z26 + (n6 : Int)
          · go_wp2
            go_ret
            exact ⟨boolIs_mk _, rfl⟩
          go_wp2_with fail
          go_loopw [17, 23] (fun t i wr => ∃ k : Nat, ∃ z : Int, k ≤ n6 ∧ i = .int .i64 k ∧ t = .int .i64 z ∧ 0 ≤ z ∧ z ≤ 1048576 ∧ w = wr) (fun _ i _ => n6 - (intOf i).toNat)
          case atStart => exact ⟨0, _, Nat.zero_le _, rfl, rfl, by omega, by omega, rfl⟩
          case round =>
            obtain ⟨k30, z31, h32k, rfl, rfl, h320, h321, rfl⟩ := hrel
            by_cases h32lt : k30 < n6
            · have hkx : k30 < reps2.length := by have := L6.out; omega
              obtain ⟨b, off, u, hx, hc', hu⟩ := H6.out.at hkx
              obtain ⟨ai, ci, rfl, -, -⟩ := hu.shape
              have HU : Hid (Strs w (.slice ai reps2[k30].length ci) reps2[k30]) := hu
              subst hx
              clear hu
              generalize reps2[k30] = ys at hc' HU
              obtain ⟨m, hm⟩ : ∃ m, m = ys.length := ⟨_, rfl⟩
              have HM : Hid (ys.length = m) := hm.symm
              rw [HM.out] at hc' HU
              clear hm
              have j1 : (k30 : Int) < (n6 : Int) := by omega
              by_cases g33 : 1048576 < m
              · go_wp2
                go_ret
                exact ⟨boolIs_mk _, rfl⟩
              by_cases g34 : 1048576 < z31 + (m : Int)
              · go_wp2
                go_ret
                exact ⟨boolIs_mk _, rfl⟩
              go_wp2_with fail
              go_loopw [17, 24] (fun t i wr => ∃ k : Nat, ∃ z : Int, k ≤ m ∧ i = .int .i64 k ∧ t = .int .i64 z ∧ 0 ≤ z ∧ z ≤ 1048576 ∧ w = wr) (fun _ i _ => m - (intOf i).toNat)
              case atStart => exact ⟨0, _, Nat.zero_le _, rfl, rfl, by omega, by omega, rfl⟩
              case round =>
                obtain ⟨k35, z36, h37k, rfl, rfl, h370, h371, rfl⟩ := hrel
                by_cases h37lt : k35 < m
                · have hkx : k35 < ys.length := by have := HM.out; omega
                  obtain ⟨b, off, u, hx, hc, hu⟩ := HU.out.at hkx
                  unfold EStr at hu
                  subst hu
                  subst hx
                  generalize ys[k35] = y at hc
                  have i1 : (k35 : Int) < (m : Int) := by omega
                  by_cases hy : 1048576 < y.size
                  · go_wp2
                    go_ret
                    exact ⟨boolIs_mk _, rfl⟩
                  by_cases hz : 1048576 < z36 + (y.size : Int)
                  · go_wp2
                    go_ret
                    exact ⟨boolIs_mk _, rfl⟩
                  go_wp2
                  go_roundw
                  case rel => exact ⟨k35 + 1, _, by omega, by go_num, by go_num, by omega, by omega, (by first | rfl | trivial)⟩
                  case measure => simp [intOf]; omega
                obtain rfl : m = k35 := by omega
                clear h37lt h37k
                go_wp2
                go_roundw
                case rel => exact ⟨k30 + 1, _, by omega, by go_num, rfl, by omega, by omega, by first | rfl | trivial⟩
                case measure => simp [intOf]; omega
            obtain rfl : n6 = k30 := by omega
            clear h32lt h32k
            go_wp2
            go_ret
            exact ⟨boolIs_mk _, rfl⟩

end Go.Proofs.Qxb6603051a
