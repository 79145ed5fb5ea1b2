/-
  Seat b6603244a: the size guard zzBytes_FnModelUsesArcsPointIntoTheirChains (29).
-/
import Derived.Test.Qxb6603244aG1
namespace Go.Proofs.Qxb6603244a
open Go.RowKit
set_option linter.unusedVariables false

set_option maxRecDepth 100000 in
set_option maxHeartbeats 4000000 in
theorem bytes_any (a0 a1 a2 a3 a4 : Option Addr) (n0 c0 n1 c1 n2 c2 n3 c3 n4 c4 : Nat) (rel : List ByteArray) (steps : List (List ByteArray)) (files : List ByteArray) (w : World)
    (h0 : Strs w (.slice a0 n0 c0) rel) (h1 : Nest w (.slice a1 n1 c1) steps) (h2 : Strs w (.slice a2 n2 c2) files) :
    Calls Try.prog 29 #[.slice a0 n0 c0, .slice a1 n1 c1, .slice a2 n2 c2, .slice a3 n3 c3, .slice a4 n4 c4] w fun e w' => BoolIs e ∧ w = w' := by
  obtain ⟨hl0, -, -⟩ := h0.len
  obtain ⟨hl1, -, -⟩ := h1.len
  obtain ⟨hl2, -, -⟩ := h2.len
  have L0 : Hid (rel.length = n0) := hl0
  have L1 : Hid (steps.length = n1) := hl1
  have L2 : Hid (files.length = n2) := hl2
  clear hl0 hl1 hl2
  have H0 : Hid (Strs w (.slice a0 n0 c0) rel) := h0
  have H1 : Hid (Nest w (.slice a1 n1 c1) steps) := h1
  have H2 : Hid (Strs w (.slice a2 n2 c2) files) := h2
  clear h0 h1 h2
  by_cases b0 : 1048576 < n0
  · go_enter Try.func29, Try.ntmps29
    go_wp2
    go_ret
    exact ⟨boolIs_mk _, rfl⟩
  go_enter Try.func29, Try.ntmps29
  go_wp2_with fail
  go_loopw [11, 12] (fun t i wr => ∃ k : Nat, ∃ z : Int, k ≤ n0 ∧ i = .int .i64 k ∧ t = .int .i64 z ∧ 0 ≤ z ∧ z ≤ 1048576 ∧ w = wr) (fun _ i _ => n0 - (intOf i).toNat)
  case atStart => exact ⟨0, _, Nat.zero_le _, rfl, rfl, by omega, by omega, rfl⟩
  case round =>
    obtain ⟨k, z, hk, rfl, rfl, hz0, hz1, rfl⟩ := hrel
    by_cases hlt : k < n0
    · have hkx : k < rel.length := by have := L0.out; omega
      obtain ⟨b, off, u, hx, hc, hu⟩ := H0.out.at hkx
      unfold EStr at hu
      subst hu
      have HX : Hid _ := hx
      rw [HX.out]
      clear hx
      generalize rel[k] = y at hc
      have i1 : (k : Int) < (n0 : Int) := by omega
      by_cases hy : 1048576 < y.size
      · go_wp2
        go_ret
        exact ⟨boolIs_mk _, rfl⟩
      by_cases hz : 1048576 < z + (y.size : Int)
      · go_wp2
        go_ret
        exact ⟨boolIs_mk _, rfl⟩
      go_wp2
      go_roundw
      case rel => exact ⟨k + 1, _, by omega, by go_num, by go_num, by omega, by omega, (by first | rfl | trivial)⟩
      case measure => simp [intOf]; omega
    obtain rfl : k = n0 := by omega
    clear hlt hk
    by_cases g1 : 1048576 < n1
    · go_wp2
      go_ret
      exact ⟨boolIs_mk _, rfl⟩
    by_cases g2 : 1048576 < z + (n1 : Int)
    · go_wp2
      go_ret
      exact ⟨boolIs_mk _, rfl⟩
    go_wp2_with fail
    go_loopw [11, 13] (fun t i wr => ∃ k : Nat, ∃ z : Int, k ≤ n1 ∧ i = .int .i64 k ∧ t = .int .i64 z ∧ 0 ≤ z ∧ z ≤ 1048576 ∧ w = wr) (fun _ i _ => n1 - (intOf i).toNat)
    case atStart => exact ⟨0, _, Nat.zero_le _, rfl, rfl, by omega, by omega, rfl⟩
    case round =>
      clear hz0 hz1 g1 g2
      obtain ⟨q, z1, hq, rfl, rfl, hy0, hy1, rfl⟩ := hrel
      by_cases hqt : q < n1
      · have hqx : q < steps.length := by have := L1.out; omega
        obtain ⟨b, off, u, hx, hc', hu⟩ := H1.out.at hqx
        obtain ⟨ai, ci, rfl, -, -⟩ := hu.shape
        have HU : Hid (Strs w (.slice ai steps[q].length ci) steps[q]) := hu
        subst hx
        clear hu
        generalize steps[q] = ys at hc' HU
        obtain ⟨m, hm⟩ : ∃ m, m = ys.length := ⟨_, rfl⟩
        have HM : Hid (ys.length = m) := hm.symm
        rw [HM.out] at hc' HU
        clear hm
        have j1 : (q : Int) < (n1 : Int) := by omega
        by_cases g1 : 1048576 < m
        · go_wp2
          go_ret
          exact ⟨boolIs_mk _, rfl⟩
        by_cases g2 : 1048576 < z1 + (m : Int)
        · go_wp2
          go_ret
          exact ⟨boolIs_mk _, rfl⟩
        go_wp2_with fail
        go_loopw [11, 14] (fun t i wr => ∃ k : Nat, ∃ z : Int, k ≤ m ∧ i = .int .i64 k ∧ t = .int .i64 z ∧ 0 ≤ z ∧ z ≤ 1048576 ∧ w = wr) (fun _ i _ => m - (intOf i).toNat)
        case atStart => exact ⟨0, _, Nat.zero_le _, rfl, rfl, by omega, by omega, rfl⟩
        case round =>
          obtain ⟨k, z, hk, rfl, rfl, hz0, hz1, rfl⟩ := hrel
          by_cases hlt : k < m
          · have hkx : k < ys.length := by have := HM.out; omega
            obtain ⟨b, off, u, hx, hc, hu⟩ := HU.out.at hkx
            unfold EStr at hu
            subst hu
            subst hx
            generalize ys[k] = y at hc
            have i1 : (k : Int) < (m : Int) := by omega
            by_cases hy : 1048576 < y.size
            · go_wp2
              go_ret
              exact ⟨boolIs_mk _, rfl⟩
            by_cases hz : 1048576 < z + (y.size : Int)
            · go_wp2
              go_ret
              exact ⟨boolIs_mk _, rfl⟩
            go_wp2
            go_roundw
            case rel => exact ⟨k + 1, _, by omega, by go_num, by go_num, by omega, by omega, (by first | rfl | trivial)⟩
            case measure => simp [intOf]; omega
          obtain rfl : k = m := by omega
          clear hlt hk
          go_wp2
          go_roundw
          case rel => exact ⟨q + 1, _, by omega, by go_num, rfl, by omega, by omega, by first | rfl | trivial⟩
          case measure => simp [intOf]; omega
      obtain rfl : q = n1 := by omega
      clear hq hqt
      by_cases g1 : 1048576 < n2
      · go_wp2
        go_ret
        exact ⟨boolIs_mk _, rfl⟩
      by_cases g2 : 1048576 < z1 + (n2 : Int)
      · go_wp2
        go_ret
        exact ⟨boolIs_mk _, rfl⟩
      go_wp2_with fail
      go_loopw [11, 15] (fun t i wr => ∃ k : Nat, ∃ z : Int, k ≤ n2 ∧ i = .int .i64 k ∧ t = .int .i64 z ∧ 0 ≤ z ∧ z ≤ 1048576 ∧ w = wr) (fun _ i _ => n2 - (intOf i).toNat)
      case atStart => exact ⟨0, _, Nat.zero_le _, rfl, rfl, by omega, by omega, rfl⟩
      case round =>
        obtain ⟨k, z, hk, rfl, rfl, hz0, hz1, rfl⟩ := hrel
        by_cases hlt : k < n2
        · have hkx : k < files.length := by have := L2.out; omega
          obtain ⟨b, off, u, hx, hc, hu⟩ := H2.out.at hkx
          unfold EStr at hu
          subst hu
          have HX : Hid _ := hx
          rw [HX.out]
          clear hx
          generalize files[k] = y at hc
          have i1 : (k : Int) < (n2 : Int) := by omega
          by_cases hy : 1048576 < y.size
          · go_wp2
            go_ret
            exact ⟨boolIs_mk _, rfl⟩
          by_cases hz : 1048576 < z + (y.size : Int)
          · go_wp2
            go_ret
            exact ⟨boolIs_mk _, rfl⟩
          go_wp2
          go_roundw
          case rel => exact ⟨k + 1, _, by omega, by go_num, by go_num, by omega, by omega, (by first | rfl | trivial)⟩
          case measure => simp [intOf]; omega
        obtain rfl : k = n2 := by omega
        clear hlt hk
        by_cases g1 : 1048576 < n3
        · go_wp2
          go_ret
          exact ⟨boolIs_mk _, rfl⟩
        by_cases g2 : 1048576 < z + (n3 : Int)
        · go_wp2
          go_ret
          exact ⟨boolIs_mk _, rfl⟩
        by_cases d1 : 1048576 < n4
        · go_wp2
          go_ret
          exact ⟨boolIs_mk _, rfl⟩
        by_cases d2 : 1048576 < (z + (n3 : Int)) + (n4 : Int)
        · go_wp2
          go_ret
          exact ⟨boolIs_mk _, rfl⟩
        go_wp2
        go_ret
        exact ⟨boolIs_mk _, rfl⟩

end Go.Proofs.Qxb6603244a
