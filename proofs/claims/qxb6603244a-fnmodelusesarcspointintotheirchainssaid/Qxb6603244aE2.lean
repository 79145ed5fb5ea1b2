/-
  Seat b6603244a: ZZModelUses (32): the walk.
-/
import Derived.Test.Qxb6603244aE1
namespace Go.Proofs.Qxb6603244a
open Go.RowKit
set_option linter.unusedVariables false
set_option linter.unusedSimpArgs false

theorem wantAt_zero_le (D : List ByteArray) (steps : List (List ByteArray)) (i : Nat) : wantAt D steps i 0 ≤ cntS steps steps.length := by
  have h1 := sum_cD_le D (steps.take i)
  have h2 := sum_take_le steps i
  unfold wantAt cntS
  rw [List.take_length, List.take_zero]
  have : cD D [] = 0 := rfl
  omega

theorem own_strs {w : World} {base n : Nat} {v : Value} {xs : List ByteArray} (h : w.ownsRow base 9 1 v n (xs.map Value.string)) : Strs w v xs := by
  obtain ⟨a, c, rfl, h1, h2⟩ := own_shape h
  have hl : xs.length = n := by have := h.1; simpa using this
  exact Slc.of_rd (own_rd h) (by simpa using hl) hl h1 h2 (fun i u x hu hx => by
    rw [List.getElem?_map, hx] at hu
    cases hu
    rfl)

theorem own_ints {w : World} {base n : Nat} {v : Value} {xs : List Int} (h : w.ownsRow base 3 1 v n (xs.map (Value.int .i64))) : Ints w v xs := by
  obtain ⟨a, c, rfl, h1, h2⟩ := own_shape h
  have hl : xs.length = n := by have := h.1; simpa using this
  exact Slc.of_rd (own_rd h) (by simpa using hl) hl h1 h2 (fun i u x hu hx => by
    rw [List.getElem?_map, hx] at hu
    cases hu
    rfl)

theorem block_rd {w : World} {g : Nat} {xs : List Value} {e : TypeId} (h : w.heap[g]? = some (.cells xs.toArray e (0, 0))) : Rd w (some ⟨g, 0, none⟩) xs := fun i u hu => ⟨g, 0, rfl, by rw [Nat.zero_add, cell_of_block h]; exact hu⟩

theorem E1I.nest {w1 wr : World} {n : Nat} {A : List (List (Nat × Nat))} (h : E1I w1 wr n A n 0 0) :
    NestI wr (.slice (some ⟨w1.heap.size, 0, none⟩) n n) (A.map fun a => a.map selT) ∧ NestI wr (.slice (some ⟨w1.heap.size + 1, 0, none⟩) n n) (A.map fun a => a.map selC) := by
  obtain ⟨h1, h2, vs, h3, h4, h5, h6⟩ := h
  have eT : part selT A n 0 = A.map (fun a => a.map selT) := by rw [← h2]; exact part_full _ _
  have eC : part selC A n 0 = A.map (fun a => a.map selC) := by rw [← h2]; exact part_full _ _
  rw [eT, eC] at h6
  refine ⟨?_, ?_⟩
  · refine Slc.of_rd (block_rd h4) (by rw [List.length_take]; omega) (by simpa using h2) (Nat.le_refl _) (fun h => by cases h) (fun i u x hu hx => ?_)
    rw [List.getElem?_take] at hu
    split at hu
    · have hi : i < (A.map fun a => a.map selT).length := (List.getElem?_eq_some_iff.1 hx).1
      exact own_ints (h6.2.1 i u x hu (by rw [List.getElem?_append_left hi]; exact hx))
    · cases hu
  · refine Slc.of_rd (block_rd h5) (by rw [List.length_drop]; omega) (by simpa using h2) (Nat.le_refl _) (fun h => by cases h) (fun i u x hu hx => ?_)
    rw [List.getElem?_drop] at hu
    have e : (A.map fun a => a.map selT).length = n := by simpa using h2
    exact own_ints (h6.2.1 (n + i) u x hu (by rw [List.getElem?_append_right (by omega), e, Nat.add_sub_cancel_left]; exact hx))

set_option maxRecDepth 100000 in
set_option maxHeartbeats 4000000 in
theorem modelUses_any (gm gc n : Nat) (F R : List ByteArray) (Ln C : List Int) (us : List Value) (steps : List (List ByteArray)) (w : World)
    (hm : w.cell? ⟨gm, 0, none⟩ = some (.slice (some ⟨gc, 0, none⟩) n n)) (hcb : CB w gc n F Ln C R us)
    (l0 : R.length = n) (l1 : us.length = n) (l2 : F.length = n) (l3 : Ln.length = n) (l4 : C.length = n) (l5 : steps.length = n) (hn : n ≤ 4096) (hus : ∀ u ∈ us, ∃ a m c, u = .slice a m c) (hst : ∀ (i : Nat) u, us[i]? = some u → ∃ a c x, steps[i]? = some x ∧ u = .slice a x.length c ∧ Strs w u x) (hct : cntS steps steps.length ≤ 1048576) :
    Calls Try.prog 32 #[.pointer (some ⟨gm, 0, none⟩)] w fun e w' => ∃ rv gt gh A, e = .returned (.tuple #[rv, .slice (some ⟨gt, 0, none⟩) (dd R).length (dd R).length, .slice (some ⟨gh, 0, none⟩) (dd R).length (dd R).length]) ∧ Below w.heap.size w w' ∧
      AOK R steps (dd R) A n 0 ∧ Strs w' rv (dd R) ∧ NestI w' (.slice (some ⟨gt, 0, none⟩) (dd R).length (dd R).length) (A.map fun a => a.map selT) ∧ NestI w' (.slice (some ⟨gh, 0, none⟩) (dd R).length (dd R).length) (A.map fun a => a.map selC) := by
  have hDl : (dd R).length ≤ 4096 := by
    have h1 := dd_take_len R n
    rw [List.take_of_length_le (by omega)] at h1
    omega
  have HCT : Hid (cntS steps steps.length ≤ 1048576) := hct
  have H38 := uses38_any gm gc n F R Ln C us steps w hm hcb l0 l1 l2 l3 l4 l5 hn hus hst hct
  have L5 : Hid (steps.length = n) := l5
  clear hm hcb l0 l1 l2 l3 l4 l5 hus hst hct
  go_enter Try.func32, Try.ntmps32
  go_wp2_with fail
  refine H38.mono ?_
  rintro e w1 ⟨ga, rv, rfl, hu⟩
  obtain ⟨A, hA, r0, r1, hrv, hB, hrd⟩ := hu.read
  have HA : Hid (AOK R steps (dd R) A n 0) := hA
  have HRV : Hid (w1.ownsRow (w.heap.size + 2) 9 1 rv (dd R).length ((dd R).map Value.string) ∧ Below w.heap.size w w1) := ⟨hrv, hB⟩
  have HRD : Hid (∀ f, f < (dd R).length → ∃ va vc, w1.cell? ⟨ga, f, none⟩ = some (.slice va (A.getD f []).length vc) ∧ ∀ j p, (A.getD f [])[j]? = some p → ∃ b, va = some ⟨b, 0, none⟩ ∧ w1.cell? ⟨b, j * 2, none⟩ = some (.int .i64 (selT p)) ∧ w1.cell? ⟨b, j * 2 + 1, none⟩ = some (.int .i64 (selC p))) := hrd
  have HAl : Hid (A.length = (dd R).length) := hA.1
  clear H38 hu hA hrv hB hrd
  obtain ⟨D, hDD⟩ : ∃ D, D = dd R := ⟨_, rfl⟩
  have HDD : Hid (dd R = D) := hDD.symm
  rw [← hDD] at HA HRV HRD HAl r1 hDl
  clear hDD
  obtain ⟨M, hM⟩ : ∃ M : Array Value, M = (List.replicate D.length (Value.slice none 0 0)).toArray := ⟨_, rfl⟩
  have hmk : ∀ w, (Instr.makeSlice 46 (.int .i64 (D.length : Int)) (.int .i64 (D.length : Int))).run Try.prog w = .ok (.slice (some ⟨w.heap.size, 0, none⟩) D.length D.length) (w.alloc (.cells M 42)) := fun w => by rw [hM]; exact make_row 46 42 (.slice none 0 0) 24 Try.underlying46 Try.info42 rfl (by omega) w D.length (by omega)
  have B1 : Below w1.heap.size w1 (w1.alloc (.cells M 42)) := (Below.refl _ _).alloc (Nat.le_refl _) _
  have B2 : Below w1.heap.size w1 ((w1.alloc (.cells M 42)).alloc (.cells M 42)) := B1.alloc (by simp) _
  have s1 := cell_later B1 r1
  have s2 := cell_later B2 r1
  have HE : Hid (E1I w1 ((w1.alloc (.cells M 42)).alloc (.cells M 42)) D.length A 0 0 0) := by
    refine ⟨B2, HAl.out, List.replicate (D.length + D.length) (.slice none 0 0), by simp, ?_, ?_, ?_⟩
    · rw [Below.heap_alloc _ _ _ (by simp), heap_alloc_new, hM]
      simp
    · have := heap_alloc_new (w1.alloc (.cells M 42)) (.cells M 42)
      rw [hM] at this ⊢
      simpa using this
    · rw [part_zero, part_zero, List.replicate_append_replicate, HAl.out]
      exact FamI.nil _ _ _
  have HS2 : Hid (((w1.alloc (.cells M 42)).alloc (.cells M 42)).cell? ⟨w.heap.size, 1, none⟩ = some (.slice (some ⟨ga, 0, none⟩) D.length D.length)) := s2
  have HR1' : Hid (w1.cell? ⟨w.heap.size, 1, none⟩ = some (.slice (some ⟨ga, 0, none⟩) D.length D.length)) := r1
  have HR0 : Hid (w1.cell? ⟨w.heap.size, 0, none⟩ = some rv) := r0
  clear hM B1 B2
  go_wp2_with fail
  generalize (w1.alloc (.cells M 42)).alloc (.cells M 42) = wv at HE HS2 ⊢
  clear hmk s1 s2 r0 r1
  go_loopw [30] (fun i wr => ∃ q : Nat, q ≤ D.length ∧ i = .int .i64 q ∧ E1I w1 wr D.length A q 0 0) (fun i _ => D.length - (intOf i).toNat)
  case atStart => exact ⟨0, Nat.zero_le _, rfl, HE.out⟩
  case round =>
    obtain ⟨q, hq, rfl, hinv⟩ := hrel
    have HI : Hid (E1I w1 wr D.length A q 0 0) := hinv
    clear hinv HE HS2
    have HR1 : Hid (w1.cell? ⟨w.heap.size, 1, none⟩ = some (.slice (some ⟨ga, 0, none⟩) D.length D.length)) := HR1'.out
    have r1 := cell_later HI.out.1 HR1.out
    by_cases hlt : q < D.length
    · obtain ⟨va, vc, r2, hrd⟩ := HRD.out q hlt
      replace r2 := cell_later HI.out.1 r2
      have HRQ : Hid (∀ j p, (A.getD q [])[j]? = some p → ∃ b, va = some ⟨b, 0, none⟩ ∧ w1.cell? ⟨b, j * 2, none⟩ = some (.int .i64 (selT p)) ∧ w1.cell? ⟨b, j * 2 + 1, none⟩ = some (.int .i64 (selC p))) := hrd
      have hml : (A.getD q []).length ≤ 1048576 := by
        have hqA : q < A.length := by rw [HAl.out]; exact hlt
        have h1 := len_le_sum A q (A.getD q []) (by simp [hqA])
        rw [HA.out.2.2] at h1
        exact Nat.le_trans h1 (Nat.le_trans (wantAt_zero_le _ _ _) HCT.out)
      obtain ⟨m, hm⟩ : ∃ m, m = (A.getD q []).length := ⟨_, rfl⟩
      have HM : Hid ((A.getD q []).length = m) := hm.symm
      rw [← hm] at r2 hml
      clear hm hrd
      have i1 : (q : Int) < (D.length : Int) := by omega
      have i0 : 0 ≤ (q : Int) := by omega
      go_wp2_with fail
      clear r1 r2
      generalize hwv : wr = wv2 at HI ⊢
      clear hwv
      go_loopw [41] (fun i wr => ∃ j : Nat, j ≤ m ∧ i = .int .i64 j ∧ E1I w1 wr D.length A q j j) (fun i _ => m - (intOf i).toNat)
      case atStart => exact ⟨0, Nat.zero_le _, rfl, HI.out⟩
      case round =>
        clear HI
        obtain ⟨j, hj, rfl, hinv⟩ := hrel
        have HI : Hid (E1I w1 wr D.length A q j j) := hinv
        clear hinv
        by_cases hjl : j < m
        · have JL : Hid (j < (A.getD q []).length) := by show _ < _; rw [HM.out]; exact hjl
          obtain ⟨b, hvb, c0, c1⟩ := HRQ.out j _ (List.getElem?_eq_getElem JL.out)
          subst hvb
          replace c0 := cell_later HI.out.1 c0
          replace c1 := cell_later HI.out.1 c1
          obtain ⟨zT, hzT⟩ : ∃ z, z = selT ((A.getD q [])[j]'JL.out) := ⟨_, rfl⟩
          obtain ⟨zC, hzC⟩ : ∃ z, z = selC ((A.getD q [])[j]'JL.out) := ⟨_, rfl⟩
          rw [← hzT] at c0
          rw [← hzC] at c1
          have HZC : Hid (selC ((A.getD q [])[j]'JL.out) = zC) := hzC.symm
          have B1 : Below wr.heap.size wr (wr.alloc (.cells #[.int .i64 zT, .int .i64 zC] 101)) := (Below.refl _ _).alloc (Nat.le_refl _) _
          have HIy := HI.out.later B1
          obtain ⟨wa, wc, p1, p2, p3, p4, p5, p6, p7⟩ := HIy.arcT hlt JL.out
          rw [← hzT] at p7
          have hgl : (wr.alloc (.cells #[.int .i64 zT, .int .i64 zC] 101)).heap[wr.heap.size]? = some (.cells #[.int .i64 zT, .int .i64 zC] 101 (0, 0)) := heap_alloc_new _ _
          have hgw : w1.heap.size + 2 ≤ wr.heap.size := by
            obtain ⟨_, _, _, _, _, h5, _⟩ := HI.out
            exact lt_of_block h5
          clear hzT hzC B1 HIy
          have i2 : (j : Int) < (m : Int) := by omega
          have i3 : 0 ≤ (j : Int) := by omega
          go_wp2_with fail
          clear c0 c1
          generalize wr.alloc (.cells #[.int .i64 zT, .int .i64 zC] 101) = wy at p1 p2 p3 p5 p6 p7 hgl ⊢
          generalize wr.heap.size = gl at hgl hgw ⊢
          have lgl := lt_of_block hgl
          have d0 : wy.cell? ⟨gl, 0, none⟩ = some (.int .i64 zT) := by rw [cell_of_block (xs := [.int .i64 zT, .int .i64 zC]) (e := 101) (by simpa using hgl)]; rfl
          obtain ⟨X, hX⟩ : ∃ X, X = (((A.getD q []).take j).map selT).map (Value.int .i64) := ⟨_, rfl⟩
          rw [← hX] at p3 p7
          have HP3 : Hid (wy.ownsRow (w1.heap.size + 2) 3 1 (.slice wa j wc) j X) := p3
          have HP7 : Hid _ := p7
          have HGL : Hid (wy.heap[gl]? = some (.cells #[.int .i64 zT, .int .i64 zC] 101 (0, 0))) := hgl
          have agl : (Value.slice wa j wc).ownBlock ≠ some gl := (own_ne p3 hgl (by decide)).symm
          obtain ⟨i0, hi0, hz0, hz1, hz2⟩ := info_parts Try.info3
          have BA : Below wy.heap.size wy (wy.alloc (.cells #[.int .i64 zT] 3)).drew := ((Below.refl _ _).alloc (Nat.le_refl _) _).drew
          have hal1 : (wy.alloc (.cells #[.int .i64 zT] 3)).drew.cell? ⟨w1.heap.size, q, none⟩ = some (.slice wa j wc) := cell_later BA p1
          have hal3 : (wy.alloc (.cells #[.int .i64 zT] 3)).drew.frozen? ⟨w1.heap.size, q, none⟩ = false := by rw [BA.frozen p5]; exact p2
          clear hX p3 p7 hgl BA
          go_region_law
            (refine step_append_lies _ (by rfl) _ _ _ (by rfl) (w1.heap.size + 2) 3 i0 _ 1 8 Try.underlying42 hi0 hz0 hz1 hz2 rfl (by omega) (.slice wa j wc) j X (by rfl) ((HP3.out.alloc _).drew) ⟨wy.heap.size, 0, none⟩ 1 1 [.int .i64 zT] (by rfl) (by rfl) (World.news_of_block (cs := #[.int .i64 zT]) (t := 3) (fr := (0, 0)) (heap_alloc_new wy _)) (by simp [Value.oneCell']) (by omega) (by unfold maxLen; omega) (by omega) (by simp; omega) (wy.heap.size + 1) (by simp) ?_
             intro gg cap w3 hown1 hgrow hat hlt3
             have c3 : w3.cell? ⟨w1.heap.size, q, none⟩ = some (.slice wa j wc) := by rw [hgrow.cell_far _ (by simp; omega) (Ne.symm p4)]; exact hal1
             have f3 : w3.frozen? ⟨w1.heap.size, q, none⟩ = false := by rw [hgrow.frozen_far _ (by simp; omega) (Ne.symm p4)]; exact hal3)
          all_goals
            have HU : Hid (E1I w1 (w3.setCell ⟨w1.heap.size, q, none⟩ (.slice (some ⟨gg, 0, none⟩) (j + 1) cap)) D.length A q (j + 1) j) := HP7.out gg cap w3 hown1 hgrow hat
            have hg4 : (w3.setCell ⟨w1.heap.size, q, none⟩ (.slice (some ⟨gg, 0, none⟩) (j + 1) cap)).heap[gl]? = some (.cells #[.int .i64 zT, .int .i64 zC] 101 (0, 0)) := by
              rw [Below.heap_setCell _ _ _ _ (by simp; omega), hgrow.block gl (by simp; omega) (Ne.symm agl)]
              exact (Below.heap_alloc _ _ _ lgl).trans HGL.out
            clear hown1 hgrow hat hlt3 hal1 hal3 c3 f3 d0
            generalize w3.setCell ⟨w1.heap.size, q, none⟩ (.slice (some ⟨gg, 0, none⟩) (j + 1) cap) = wz at HU hg4 ⊢
            go_wp2_with fail
            obtain ⟨xa, xc, y1, y2, y3, y4, y5, y6, y7⟩ := HU.out.arcC hlt JL.out
            rw [HZC.out] at y7
            have lgz := lt_of_block hg4
            have e1 : wz.cell? ⟨gl, 1, none⟩ = some (.int .i64 zC) := by rw [cell_of_block (xs := [.int .i64 zT, .int .i64 zC]) (e := 101) (by simpa using hg4)]; rfl
            obtain ⟨Y, hY⟩ : ∃ Y, Y = (((A.getD q []).take j).map selC).map (Value.int .i64) := ⟨_, rfl⟩
            rw [← hY] at y3 y7
            have HY3 : Hid (wz.ownsRow (w1.heap.size + 2) 3 1 (.slice xa j xc) j Y) := y3
            have HY7 : Hid _ := y7
            have BZ : Below wz.heap.size wz (wz.alloc (.cells #[.int .i64 zC] 3)).drew := ((Below.refl _ _).alloc (Nat.le_refl _) _).drew
            have hbl1 : (wz.alloc (.cells #[.int .i64 zC] 3)).drew.cell? ⟨w1.heap.size + 1, q, none⟩ = some (.slice xa j xc) := cell_later BZ y1
            have hbl3 : (wz.alloc (.cells #[.int .i64 zC] 3)).drew.frozen? ⟨w1.heap.size + 1, q, none⟩ = false := by rw [BZ.frozen y5]; exact y2
            clear hY y3 y7 hg4 BZ HP3 HP7 HGL HU
            go_region_law
              (refine step_append_lies _ (by rfl) _ _ _ (by rfl) (w1.heap.size + 2) 3 i0 _ 1 8 Try.underlying42 hi0 hz0 hz1 hz2 rfl (by omega) (.slice xa j xc) j Y (by rfl) ((HY3.out.alloc _).drew) ⟨wz.heap.size, 0, none⟩ 1 1 [.int .i64 zC] (by rfl) (by rfl) (World.news_of_block (cs := #[.int .i64 zC]) (t := 3) (fr := (0, 0)) (heap_alloc_new wz _)) (by simp [Value.oneCell']) (by omega) (by unfold maxLen; omega) (by omega) (by simp; omega) (wz.heap.size + 1) (by simp) ?_
               intro gg2 cap2 w5 hown2 hgrow2 hat2 hlt5
               have c5 : w5.cell? ⟨w1.heap.size + 1, q, none⟩ = some (.slice xa j xc) := by rw [hgrow2.cell_far _ (by simp; omega) (Ne.symm y4)]; exact hbl1
               have f5 : w5.frozen? ⟨w1.heap.size + 1, q, none⟩ = false := by rw [hgrow2.frozen_far _ (by simp; omega) (Ne.symm y4)]; exact hbl3)
            all_goals
              have HV : Hid (E1I w1 (w5.setCell ⟨w1.heap.size + 1, q, none⟩ (.slice (some ⟨gg2, 0, none⟩) (j + 1) cap2)) D.length A q (j + 1) (j + 1)) := HY7.out gg2 cap2 w5 hown2 hgrow2 hat2
              clear hown2 hgrow2 hat2 hlt5 hbl1 hbl3
              go_wp2
              go_roundw
              case rel => exact ⟨j + 1, by omega, by go_num, HV.out⟩
              case measure => simp [intOf]; omega
        · obtain rfl : j = m := by omega
          have HI2 : Hid (E1I w1 wr D.length A (q + 1) 0 0) := by
            have := HI.out
            rw [← HM.out] at this
            exact this.next
          go_wp2
          go_roundw
          case rel => exact ⟨q + 1, by omega, by go_num, HI2.out⟩
          case measure => simp [intOf]; omega
    · obtain rfl : q = D.length := by omega
      have r0 := cell_later HI.out.1 HR0.out
      have hN := HI.out.nest
      have hRV := own_strs (own_below HRV.out.1 HI.out.1)
      have hBB : Below w.heap.size w wr := HRV.out.2.trans (HI.out.1.mono HRV.out.2.size)
      have HFIN : Hid _ := And.intro hN (And.intro hRV hBB)
      clear hN hRV hBB
      go_wp2
      go_ret3
      refine ⟨rv, w1.heap.size, w1.heap.size + 1, A, ?_, HFIN.out.2.2, ?_, ?_, ?_, ?_⟩
      · rw [HDD.out]; rfl
      · rw [HDD.out]; exact HA.out
      · rw [HDD.out]; exact HFIN.out.2.1
      · rw [HDD.out]; exact HFIN.out.1.1
      · rw [HDD.out]; exact HFIN.out.1.2

end Go.Proofs.Qxb6603244a
