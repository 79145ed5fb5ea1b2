/-
  The walk of FnAppendedTextWriteTwiceIsOnce (5).
-/
import Derived.Test.Qxb6603561aW1
import Derived.Deep.QuietTactic
import Derived.BigQuiet
import Derived.WalkSmall
namespace Go.Proofs.Qxb6603561a
open Go.RowKit

set_option maxRecDepth 100000 in
set_option maxHeartbeats 1000000 in
theorem law_no (a0 a1 a2 : Option Addr) (l0 c0 l1 c1 l2 c2 : Nat) (w : World) (h0 : l0 ≤ 9223372036854775807) (h1 : l1 ≤ 9223372036854775807) (h2 : l2 ≤ 9223372036854775807)
    (hno : okLen l0 l1 l2 = false ∨ 262144 < l0 ∨ 262144 < l1 ∨ 262144 < l2) :
    Calls Try.prog 5 #[.slice a0 l0 c0, .slice a1 l1 c1, .slice a2 l2 c2] w fun e w' => e = .returned (.bool true) ∧ Below w.heap.size w w' := by
  by_cases hok : okLen l0 l1 l2 = true
  · by_cases k0 : 262144 < l0
    · go_enter Try.func5, Try.ntmps5
      go_wp2_with (go_at_call 9; refine (bytes_any _ _ _ _ _ _ _ _ _ _ h0 h1 h2).mono ?_; rintro e w' ⟨rfl, rfl⟩)
      go_ret
      exact ⟨rfl, Below.refl _ _⟩
    by_cases k1 : 262144 < l1
    · go_enter Try.func5, Try.ntmps5
      go_wp2_with (go_at_call 9; refine (bytes_any _ _ _ _ _ _ _ _ _ _ h0 h1 h2).mono ?_; rintro e w' ⟨rfl, rfl⟩)
      go_ret
      exact ⟨rfl, Below.refl _ _⟩
    have k2 : 262144 < l2 := by
      rcases hno with h | h | h | h
      · rw [hok] at h; cases h
      · omega
      · omega
      · exact h
    clear hno
    go_enter Try.func5, Try.ntmps5
    go_wp2_with (go_at_call 9; refine (bytes_any _ _ _ _ _ _ _ _ _ _ h0 h1 h2).mono ?_; rintro e w' ⟨rfl, rfl⟩)
    go_ret
    exact ⟨rfl, Below.refl _ _⟩
  · have hok' : okLen l0 l1 l2 = false := by simpa using hok
    clear hok hno
    go_enter Try.func5, Try.ntmps5
    go_wp2_with (go_at_call 9; refine (bytes_any _ _ _ _ _ _ _ _ _ _ h0 h1 h2).mono ?_; rintro e w' ⟨rfl, rfl⟩)
    go_ret
    exact ⟨rfl, Below.refl _ _⟩

theorem make_sum (w : World) (a b : Nat) (ha : a ≤ 1048576) (hb : b ≤ 1048576) :
    (Instr.makeSlice 29 (.int .i64 ((a : Int) + (b : Int))) (.int .i64 ((a : Int) + (b : Int)))).run Try.prog w = .ok (.slice (some ⟨w.heap.size, 0, none⟩) (a + b) (a + b)) (w.alloc (.cells (List.replicate (a + b) (Value.int .u8 0)).toArray 5)) := by
  have := make_row w (a + b) (by omega)
  rw [Int.natCast_add] at this
  exact this

set_option maxRecDepth 100000 in
set_option maxHeartbeats 2000000 in
theorem law_yes (a0 a1 a2 : Option Addr) (l0 c0 l1 c1 l2 c2 : Nat) (y0 y1 y2 : List Int) (w : World) (e0 : y0.length = l0) (e1 : y1.length = l1) (e2 : y2.length = l2)
    (r0 : Rd w a0 (y0.map (Value.int .u8))) (r1 : Rd w a1 (y1.map (Value.int .u8))) (r2 : Rd w a2 (y2.map (Value.int .u8)))
    (n0 : a0 = none → l0 = 0) (n1 : a1 = none → l1 = 0) (n2 : a2 = none → l2 = 0)
    (hok : okLen l0 l1 l2 = true) (h0 : l0 ≤ 262144) (h1 : l1 ≤ 262144) (h2 : l2 ≤ 262144) :
    Calls Try.prog 5 #[.slice a0 l0 c0, .slice a1 l1 c1, .slice a2 l2 c2] w fun e w' => e = .returned (.bool true) ∧ Below w.heap.size w w' := by
  have E0 : Hid (y0.length = l0) := e0
  have E1 : Hid (y1.length = l1) := e1
  have E2 : Hid (y2.length = l2) := e2
  clear e0 e1 e2
  go_enter Try.func5, Try.ntmps5
  go_wp2_with (go_at_call 9; refine (bytes_any _ _ _ _ _ _ _ _ _ _ (by omega) (by omega) (by omega)).mono ?_; rintro e w' ⟨rfl, rfl⟩)
  -- t = clone(t)
  refine (clone_any a0 l0 c0 y0 _ E0.out (by omega) n0 r0).mono ?_
  rintro e w1 ⟨t0, k0, rfl, o0, b1⟩
  have r1' := r1.below b1
  have r2' := r2.below b1
  clear r0 r1 r2 n0
  go_wp2_with fail
  -- p = clone(p)
  refine (clone_any a1 l1 c1 y1 _ E1.out (by omega) n1 r1').mono ?_
  rintro e w2 ⟨t1, k1, rfl, o1, b2⟩
  have r2 := r2'.below b2
  have o0' := own_below o0 b2
  clear r1' r2' n1 o0
  go_wp2_with fail
  -- q = clone(q)
  refine (clone_any a2 l2 c2 y2 _ E2.out (by omega) n2 r2).mono ?_
  rintro e w3 ⟨t2, k2, rfl, o2, b3⟩
  have o0 := own_below o0' b3
  have o1' := own_below o1 b3
  have m0 := (own_shape o0); have m1 := own_shape o1'; have m2 := own_shape o2
  have t0n : t0 = none → l0 = 0 := by obtain ⟨_, _, h, _, h'⟩ := m0; cases h; exact fun h => (h' h).1
  have t1n : t1 = none → l1 = 0 := by obtain ⟨_, _, h, _, h'⟩ := m1; cases h; exact fun h => (h' h).1
  have t2n : t2 = none → l2 = 0 := by obtain ⟨_, _, h, _, h'⟩ := m2; cases h; exact fun h => (h' h).1
  have q0 := own_rd o0
  have q1 := own_rd o1'
  have q2 := own_rd o2
  have B3 : Below w.heap.size w w3 := b1.trans ((b2.mono b1.size).trans (b3.mono (Nat.le_trans b1.size b2.size)))
  clear o0 o1 o1' o2 o0' r2 n2 b1 b2 b3 m0 m1 m2
  go_wp2_with fail
  -- x1, n1, e1 := Write(clone(t), clone(p))
  refine (clone_any t0 l0 k0 y0 _ E0.out (by omega) t0n q0).mono ?_
  rintro e w4 ⟨ta, ka, rfl, oa, b4⟩
  go_wp2_with fail
  refine (clone_any t1 l1 k1 y1 _ E1.out (by omega) t1n (q1.below b4)).mono ?_
  rintro e w5 ⟨tb, kb, rfl, ob, b5⟩
  have tbn := own_shape ob
  have tbn : tb = none → l1 = 0 ∧ kb = 0 := by obtain ⟨_, _, h, _, h'⟩ := tbn; cases h; exact h'
  go_wp2_with fail
  refine (zzwrite_any (.slice ta l0 ka) w3.heap.size l0 (y0.map (Value.int .u8)) tb l1 kb y1 _ (own_below oa b5) E1.out tbn (own_rd ob) (Nat.le_trans b4.size b5.size) (by omega)).mono ?_
  rintro e w6 ⟨x1, rfl, ox1, g6⟩
  have B6 : Below w3.heap.size w3 w6 := (b4.trans (b5.mono b4.size)).grown g6 (Nat.le_trans b4.size b5.size) (fun k hk => ((own_below oa b5).lt k hk).1)
  clear oa ob b4 b5 g6 tbn
  obtain ⟨xa, xc, rfl, hxc, -⟩ := own_shape ox1
  go_wp2_with fail
  -- x2, n2, e2 := Write(x1, clone(q))
  refine (clone_any t2 l2 k2 y2 _ E2.out (by omega) t2n (q2.below B6)).mono ?_
  rintro e w7 ⟨tb, kb, rfl, ob, b7⟩
  have tbn := own_shape ob
  have tbn : tb = none → l2 = 0 ∧ kb = 0 := by obtain ⟨_, _, h, _, h'⟩ := tbn; cases h; exact h'
  go_wp2_with fail
  refine (zzwrite_any (.slice xa (l0 + l1) xc) w3.heap.size (l0 + l1) (y0.map (Value.int .u8) ++ y1.map (Value.int .u8)) tb l2 kb y2 _ (own_below ox1 b7) E2.out tbn (own_rd ob) (Nat.le_trans B6.size b7.size) (by omega)).mono ?_
  rintro e w8 ⟨x2, rfl, ox2, g8⟩
  have B8 : Below w3.heap.size w3 w8 := (B6.trans (b7.mono B6.size)).grown g8 (Nat.le_trans B6.size b7.size) (fun k hk => ((own_below ox1 b7).lt k hk).1)
  clear ox1 ob b7 g8 tbn B6
  obtain ⟨xb, xd, rfl, hxd, -⟩ := own_shape ox2
  have hmk := fun w => make_sum w l1 l2 (by omega) (by omega)
  go_wp2_with fail
  -- joined: two loops
  obtain ⟨X, hX⟩ : ∃ X : List Value, X = (y1 ++ y2).map (Value.int .u8) := ⟨_, rfl⟩
  have HX : Hid (X = (y1 ++ y2).map (Value.int .u8)) := hX
  have hXl : X.length = l1 + l2 := by rw [hX]; simp [E1.out, E2.out]
  have HXl : Hid (X.length = l1 + l2) := hXl
  go_loopw [14] (fun i wr => ∃ k : Nat, k ≤ l1 ∧ i = .int .i64 k ∧ Below w8.heap.size w8 wr ∧ w8.heap.size < wr.heap.size ∧
      wr.heap[w8.heap.size]? = some (.cells (X.take k ++ List.replicate (X.length - k) (Value.int .u8 0)).toArray 5 (0,0)))  (fun i _ => l1 - (intOf i).toNat)
  case atStart => exact ⟨0, Nat.zero_le _, rfl, (Below.refl _ _).alloc (Nat.le_refl _) _, by simp, by rw [heap_alloc_new]; simp [hXl]⟩
  case round =>
    obtain ⟨k, hk, rfl, hbe, hsz, hrow⟩ := hrel
    clear hX hXl
    by_cases hlt : k < l1
    · have hzk : k < y1.length := by have := E1.out; omega
      have hXk : X[k]? = some (.int .u8 y1[k]) := by rw [HX.out]; simp [hzk, List.getElem?_append]
      have hkX : k < X.length := by have := HXl.out; omega
      obtain ⟨b, off, hx, hcx0⟩ := q1.atInt (i := k) hzk
      subst hx
      have hcx := hbe.cell (p := ⟨b, off + k, none⟩) (Nat.lt_of_lt_of_le (World.block_lt_of_cell? _ _ hcx0) B8.size)
      rw [B8.cell (p := ⟨b, off + k, none⟩) (World.block_lt_of_cell? _ _ hcx0), hcx0] at hcx
      have hcy : wr.cell? ⟨w8.heap.size, k, none⟩ = some (.int .u8 0) := by rw [cell_of_block hrow]; exact fill_get hkX
      have hfy : wr.frozen? ⟨w8.heap.size, k, none⟩ = false := free_of_block hrow
      have hs := block_setCell (k := k) hrow (.int .u8 y1[k])
      rw [fill_set _ _ _ k hXk] at hs
      clear hrow hcx0 hXk q0 q1 q2 ox2
      have HS : Hid _ := hs
      clear hs
      go_wp2
      go_roundw
      case rel => exact ⟨k + 1, by omega, by go_num, hbe.setCell (by exact Nat.le_refl _) _, by rw [size_setCell]; exact hsz, HS.out⟩
      case measure => simp [intOf]; omega
    · obtain rfl : k = l1 := by omega
      clear hlt hk
      go_wp2_with fail
      go_loopw [15] (fun i wr => ∃ j : Nat, j ≤ l2 ∧ i = .int .i64 j ∧ Below w8.heap.size w8 wr ∧ w8.heap.size < wr.heap.size ∧
        wr.heap[w8.heap.size]? = some (.cells (X.take (k + j) ++ List.replicate (X.length - (k + j)) (Value.int .u8 0)).toArray 5 (0,0)))  (fun i _ => l2 - (intOf i).toNat)
      case atStart => exact ⟨0, Nat.zero_le _, rfl, hbe, hsz, hrow⟩
      case round =>
        clear hbe hsz hrow
        rename_i wr0
        obtain ⟨j, hj, rfl, hbe, hsz, hrow⟩ := hrel
        by_cases hlt : j < l2
        · have hzk : j < y2.length := by have := E2.out; omega
          have hXk : X[k + j]? = some (.int .u8 y2[j]) := by rw [HX.out]; simp [hzk, E1.out]
          have hkX : k + j < X.length := by have := HXl.out; omega
          obtain ⟨b, off, hx, hcx0⟩ := q2.atInt (i := j) hzk
          subst hx
          have hcx := hbe.cell (p := ⟨b, off + j, none⟩) (Nat.lt_of_lt_of_le (World.block_lt_of_cell? _ _ hcx0) B8.size)
          rw [B8.cell (p := ⟨b, off + j, none⟩) (World.block_lt_of_cell? _ _ hcx0), hcx0] at hcx
          have hcy : wr.cell? ⟨w8.heap.size, k + j, none⟩ = some (.int .u8 0) := by rw [cell_of_block hrow]; exact fill_get hkX
          have hfy : wr.frozen? ⟨w8.heap.size, k + j, none⟩ = false := free_of_block hrow
          have hs := block_setCell (k := k + j) hrow (.int .u8 y2[j])
          rw [fill_set _ _ _ (k + j) hXk] at hs
          clear hrow hcx0 hXk q0 q1 q2 ox2
          have HS : Hid _ := hs
          clear hs
          go_wp2
          go_roundw
          case rel => exact ⟨j + 1, by omega, by go_num, hbe.setCell (by exact Nat.le_refl _) _, by rw [size_setCell]; exact hsz, HS.out⟩
          case measure => simp [intOf]; omega
        · obtain rfl : j = l2 := by omega
          clear hlt hj
          go_wp2_with fail
          have eX : X.take (k + j) ++ List.replicate (X.length - (k + j)) (Value.int .u8 0) = X := by
            have := HXl.out
            rw [List.take_of_length_le (by omega)]; simp [HXl.out]
          rw [eX] at hrow
          have BR : Below w3.heap.size w3 wr := B8.trans (hbe.mono B8.size)
          have oj := own_of_block (base := w8.heap.size) hrow (Nat.le_refl _) (by rw [HXl.out]; unfold maxLen; omega)
          simp only [HXl.out] at oj
          have rj := own_rd oj
          have ox2' := own_below ox2 hbe
          clear hrow eX ox2 oj
          -- y, n, e := Write(clone(t), joined)
          refine (clone_any t0 l0 k0 y0 _ E0.out (by omega) t0n (q0.below BR)).mono ?_
          rintro e w9 ⟨ta, ka, rfl, oa, b9⟩
          go_wp2_with fail
          refine (zzwrite_any (.slice ta l0 ka) wr.heap.size l0 (y0.map (Value.int .u8)) (some ⟨w8.heap.size, 0, none⟩) (k + j) (k + j) (y1 ++ y2) _ oa (by simp [E1.out, E2.out]) (fun h => by cases h) (by rw [← HX.out]; exact rj.below b9) b9.size (by omega)).mono ?_
          rintro e w10 ⟨yv, rfl, oy, g10⟩
          have B10 : Below wr.heap.size wr w10 := b9.grown g10 b9.size (fun k hk => (oa.lt k hk).1)
          have rx := own_rd (own_below ox2' B10)
          obtain ⟨ya, yc, rfl, hyc, -⟩ := own_shape oy
          have ry := own_rd oy
          have BW : Below w.heap.size w w10 := B3.trans ((BR.mono B3.size).trans (B10.mono (Nat.le_trans B3.size BR.size)))
          have rq := (q2.below BR).below B10
          clear oy g10 oa b9 ox2' rj B10 BR hbe hsz B8 B3 q0 q1 q2 t0n t1n t2n HX HXl
          rw [← List.map_append, ← List.map_append, List.append_assoc] at rx
          rw [← List.map_append] at ry
          obtain ⟨Z, hZ⟩ : ∃ Z, Z = y0 ++ (y1 ++ y2) := ⟨_, rfl⟩
          rw [← hZ] at rx ry
          have hZl : Z.length = l0 + (k + j) := by rw [hZ]; simp [E0.out, E1.out, E2.out]
          have HZ : Hid (Z = y0 ++ (y1 ++ y2)) := hZ
          have HZl : Hid (Z.length = l0 + (k + j)) := hZl
          clear hZ hZl
          go_wp2_with fail
          go_loopw [19] (fun i wx => ∃ n : Nat, n ≤ l0 + (k + j) ∧ i = .int .i64 n ∧ Below w10.heap.size w10 wx)  (fun i _ => l0 + (k + j) - (intOf i).toNat)
          case atStart => exact ⟨0, Nat.zero_le _, rfl, Below.refl _ _⟩
          case round =>
            rename_i wx
            obtain ⟨n, hn, rfl, hbe⟩ := hrel
            by_cases hlt : n < l0 + (k + j)
            · have hzn : n < Z.length := by rw [HZl.out]; exact hlt
              obtain ⟨b, off, hx, hcx⟩ := (rx.below hbe).atInt (i := n) hzn
              obtain ⟨b', off', hy, hcy⟩ := (ry.below hbe).atInt (i := n) hzn
              subst hx
              subst hy
              have i1 : (n : Int) < ((l0 + k + j : Nat) : Int) := by omega
              have i2 : (n : Int) < ((l0 + (k + j) : Nat) : Int) := by omega
              clear rx ry rq
              go_wp2_with fail
              go_quiet (fail)
              go_wp2
              go_roundw
              case rel => exact ⟨n + 1, by omega, by go_num, below_drewN hbe _⟩
              case measure => simp [intOf]; omega
            · go_wp2_with fail
              go_loopw [20] (fun i wx => ∃ n : Nat, n ≤ j ∧ i = .int .i64 n ∧ Below w10.heap.size w10 wx)  (fun i _ => j - (intOf i).toNat)
              case atStart => exact ⟨0, Nat.zero_le _, rfl, hbe⟩
              case round =>
                clear hbe hlt hn
                rename_i n' wx' wx
                obtain ⟨n, hn, rfl, hbe⟩ := hrel
                by_cases hlt : n < j
                · have hzn : l0 + k + n < Z.length := by rw [HZl.out]; omega
                  have hqn : n < y2.length := by rw [E2.out]; exact hlt
                  obtain ⟨b, off, hx, hcx⟩ := (rx.below hbe).atInt (i := l0 + k + n) hzn
                  obtain ⟨b', off', hy, hcy⟩ := (rq.below hbe).atInt (i := n) hqn
                  have eZ : Z[l0 + k + n] = y2[n] := by
                    have h1 : Z[l0 + k + n]? = some y2[n] := by
                      rw [HZ.out, List.getElem?_append_right (by rw [E0.out]; omega), List.getElem?_append_right (by rw [E0.out, E1.out]; omega)]
                      rw [E0.out, E1.out, show l0 + k + n - l0 - k = n by omega]
                      exact List.getElem?_eq_getElem hqn
                    rw [List.getElem?_eq_getElem hzn] at h1
                    exact Option.some.inj h1
                  rw [eZ] at hcx
                  subst hx
                  subst hy
                  have i1 : (l0 : Int) + (k : Int) + (n : Int) < ((l0 + k + j : Nat) : Int) := by omega
                  have i2 : (n : Int) < (j : Int) := by omega
                  clear rx ry rq eZ
                  go_wp2_with fail
                  go_quiet (fail)
                  go_wp2
                  go_roundw
                  case rel => exact ⟨n + 1, by omega, by go_num, below_drewN hbe _⟩
                  case measure => simp [intOf]; omega
                · go_wp2
                  go_ret
                  exact ⟨rfl, BW.trans (hbe.mono BW.size)⟩
end Go.Proofs.Qxb6603561a
