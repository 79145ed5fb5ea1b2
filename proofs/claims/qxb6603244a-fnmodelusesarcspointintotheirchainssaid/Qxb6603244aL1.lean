/-
  Seat b6603244a: FnModelUsesArcsPointIntoTheirChains (5).
-/
import Derived.Test.Qxb6603244aL0
namespace Go.Proofs.Qxb6603244a
open Go.RowKit
set_option linter.unusedVariables false
set_option linter.unusedSimpArgs false

/-- What the law's loops read. -/
def LF (wq : World) (a0 a1 ra : Option Addr) (n c0 c1 rc gt gh : Nat) (R : List ByteArray) (steps : List (List ByteArray)) (A : List (List (Nat × Nat))) : Prop :=
  Strs wq (.slice a0 n c0) R ∧ Nest wq (.slice a1 n c1) steps ∧ Strs wq (.slice ra (dd R).length rc) (dd R) ∧ NestI wq (.slice (some ⟨gt, 0, none⟩) (dd R).length (dd R).length) (A.map fun a => a.map selT) ∧
    NestI wq (.slice (some ⟨gh, 0, none⟩) (dd R).length (dd R).length) (A.map fun a => a.map selC)

theorem LF.drewN {wq : World} {a0 a1 ra : Option Addr} {n c0 c1 rc gt gh : Nat} {R : List ByteArray} {steps : List (List ByteArray)} {A : List (List (Nat × Nat))} (h : LF wq a0 a1 ra n c0 c1 rc gt gh R steps A) (m : Nat) : LF (wq.drewN m) a0 a1 ra n c0 c1 rc gt gh R steps A := by
  have B : Below wq.heap.size wq (wq.drewN m) := below_drewN (Below.refl _ _) m
  exact ⟨Strs.below h.1 B, Nest.below h.2.1 B, Strs.below h.2.2.1 B, NestI.below h.2.2.2.1 B, NestI.below h.2.2.2.2 B⟩

/-- The copies of the steps. -/
def RR (w : World) (us : List Value) (RS : List (List ByteArray)) : Prop := us.length = RS.length ∧ ∀ (i : Nat) u, us[i]? = some u → ∃ x, RS[i]? = some x ∧ w.ownsRow 0 9 1 u x.length (x.map Value.string)

theorem RR.below {w w' : World} {us : List Value} {RS : List (List ByteArray)} (h : RR w us RS) (hb : Below w.heap.size w w') : RR w' us RS :=
  ⟨h.1, fun i u hu => by obtain ⟨x, h1, h2⟩ := h.2 i u hu; exact ⟨x, h1, own_below h2 hb⟩⟩

theorem RR.read {w : World} {us : List Value} {RS : List (List ByteArray)} (h : RR w us RS) : ∀ (i : Nat) u, us[i]? = some u → ∃ a c x, RS[i]? = some x ∧ u = .slice a x.length c ∧ Strs w u x := by
  intro i u hu
  obtain ⟨x, h1, h2⟩ := h.2 i u hu
  obtain ⟨a, c, e, _⟩ := own_shape h2
  exact ⟨a, c, x, h1, e, own_strs h2⟩

theorem RR.shapes {w : World} {us : List Value} {RS : List (List ByteArray)} (h : RR w us RS) : ∀ u ∈ us, ∃ a m c, u = .slice a m c := by
  intro u hu
  obtain ⟨i, hi, rfl⟩ := List.getElem_of_mem hu
  obtain ⟨a, c, x, _, e, _⟩ := h.read i _ (List.getElem?_eq_getElem hi)
  exact ⟨a, _, c, e⟩

theorem RR.nest {w : World} {us : List Value} {RS : List (List ByteArray)} {base n c : Nat} {ao : Option Addr} (h : RR w us RS) (ho : w.ownsRow base 23 1 (.slice ao n c) n us) : Nest w (.slice ao n c) RS := by
  obtain ⟨a', c', e, h1, h2⟩ := own_shape ho
  cases e
  have hl : us.length = n := by have := ho.1; simpa using this
  refine Slc.of_rd (own_rd ho) hl (by rw [← h.1]; exact hl) h1 h2 (fun i u x hu hx => ?_)
  obtain ⟨a, c, y, e1, _, e3⟩ := h.read i u hu
  rw [hx] at e1
  cases e1
  exact e3

/-- The rows of arcs of relation q. -/
theorem LF.row {wq : World} {a0 a1 ra : Option Addr} {n c0 c1 rc gt gh : Nat} {R : List ByteArray} {steps : List (List ByteArray)} {A : List (List (Nat × Nat))} (h : LF wq a0 a1 ra n c0 c1 rc gt gh R steps A) {q : Nat} (hq : q < A.length) :
    ∃ ta tc ca cc, wq.cell? ⟨gt, q, none⟩ = some (.slice ta (A.getD q []).length tc) ∧ wq.cell? ⟨gh, q, none⟩ = some (.slice ca (A.getD q []).length cc) ∧
      ∀ (j : Nat) (p : Nat × Nat), (A.getD q [])[j]? = some p → (∃ b off, ta = some ⟨b, off, none⟩ ∧ wq.cell? ⟨b, off + j, none⟩ = some (.int .i64 (p.1 : Int))) ∧ (∃ b off, ca = some ⟨b, off, none⟩ ∧ wq.cell? ⟨b, off + j, none⟩ = some (.int .i64 (p.2 : Int))) := by
  have e : A.getD q [] = A[q] := by simp [hq]
  obtain ⟨b, off, u, h1, h2, h3⟩ := Slc.at h.2.2.2.1 (i := q) (by simpa using hq)
  obtain ⟨b', off', u', h1', h2', h3'⟩ := Slc.at h.2.2.2.2 (i := q) (by simpa using hq)
  cases h1
  cases h1'
  rw [Nat.zero_add] at h2 h2'
  simp only [List.getElem_map] at h3 h3'
  obtain ⟨ta, tc, rfl, -, -⟩ := Slc.shape h3
  obtain ⟨ca, cc, rfl, -, -⟩ := Slc.shape h3'
  rw [e]
  refine ⟨ta, tc, ca, cc, by simpa using h2, by simpa using h2', fun j p hp => ?_⟩
  have hj : j < A[q].length := (List.getElem?_eq_some_iff.1 hp).1
  obtain ⟨x, y, z, g1, g2, g3⟩ := Slc.at h3 (i := j) (by simpa using hj)
  obtain ⟨x', y', z', g1', g2', g3'⟩ := Slc.at h3' (i := j) (by simpa using hj)
  have ep : A[q][j] = p := by rw [List.getElem?_eq_getElem hj] at hp; simpa using hp
  simp only [List.getElem_map, ep, EInt, selT, selC] at g3 g3'
  subst g3 g3'
  exact ⟨⟨x, y, g1, g2⟩, ⟨x', y', g1', g2'⟩⟩

/-- The number of arcs that have been counted. -/
def sumTo (A : List (List (Nat × Nat))) (q j : Nat) : Nat := ((A.take q).map List.length).sum + j

theorem sumTo_next {A : List (List (Nat × Nat))} {q : Nat} (h : q < A.length) : sumTo A q (A.getD q []).length = sumTo A (q + 1) 0 := by
  unfold sumTo
  have e : A.getD q [] = A[q] := by simp [h]
  rw [List.take_succ_eq_append_getElem h, List.map_append, List.sum_append, e]
  simp

theorem sumTo_mono : ∀ (A : List (List (Nat × Nat))) (q : Nat), sumTo A q 0 ≤ (A.map List.length).sum
  | [], q => by simp [sumTo]
  | a :: A, 0 => by simp [sumTo]
  | a :: A, q + 1 => by
    have := sumTo_mono A q
    simp [sumTo] at this ⊢
    exact this

theorem sumTo_le {A : List (List (Nat × Nat))} {q j : Nat} (h : q < A.length) (hj : j ≤ (A.getD q []).length) : sumTo A q j ≤ (A.map List.length).sum := by
  have h1 := sumTo_mono A (q + 1)
  rw [← sumTo_next h] at h1
  unfold sumTo at h1 ⊢
  omega

theorem cD_dd (R l : List ByteArray) : cD (dd R) l = cD R l := by
  unfold cD
  congr 1
  exact List.filter_congr (fun x _ => isSome_dd R x)

theorem wantAt_dd (R : List ByteArray) (steps : List (List ByteArray)) (i j : Nat) : wantAt (dd R) steps i j = wantAt R steps i j := by
  unfold wantAt
  rw [cD_dd, show cD (dd R) = cD R from funext (cD_dd R)]

/-- The law's world: only draws have been made. -/
def LW (w wr : World) (a0 a1 ra : Option Addr) (n c0 c1 rc gt gh : Nat) (R : List ByteArray) (steps : List (List ByteArray)) (A : List (List (Nat × Nat))) : Prop :=
  LF wr a0 a1 ra n c0 c1 rc gt gh R steps A ∧ Below w.heap.size w wr

theorem LW.drewN {w wq : World} {a0 a1 ra : Option Addr} {n c0 c1 rc gt gh : Nat} {R : List ByteArray} {steps : List (List ByteArray)} {A : List (List (Nat × Nat))} (h : LW w wq a0 a1 ra n c0 c1 rc gt gh R steps A) (m : Nat) : LW w (wq.drewN m) a0 a1 ra n c0 c1 rc gt gh R steps A :=
  ⟨h.1.drewN m, below_drewN h.2 m⟩

set_option maxRecDepth 100000 in
set_option maxHeartbeats 4000000 in
theorem law_any (a0 a1 a2 a3 a4 : Option Addr) (n0 c0 n1 c1 n2 c2 n3 c3 n4 c4 : Nat) (R : List ByteArray) (steps : List (List ByteArray)) (F : List ByteArray) (Ln C : List Int) (w : World)
    (h0 : Strs w (.slice a0 n0 c0) R) (h1 : Nest w (.slice a1 n1 c1) steps) (h2 : Strs w (.slice a2 n2 c2) F) (h3 : Ints w (.slice a3 n3 c3) Ln) (h4 : Ints w (.slice a4 n4 c4) C)
    (m0 : n0 ≤ 9223372036854775807) (m1 : n1 ≤ 9223372036854775807) (m2 : n2 ≤ 9223372036854775807) (m3 : n3 ≤ 9223372036854775807) (m4 : n4 ≤ 9223372036854775807) :
    Calls Try.prog 5 #[.slice a0 n0 c0, .slice a1 n1 c1, .slice a2 n2 c2, .slice a3 n3 c3, .slice a4 n4 c4] w fun e w' => e = .returned (.bool true) ∧ Below w.heap.size w w' := by
  have H0 : Hid (Strs w (.slice a0 n0 c0) R) := h0
  have H1 : Hid (Nest w (.slice a1 n1 c1) steps) := h1
  have H2 : Hid (Strs w (.slice a2 n2 c2) F) := h2
  have H3 : Hid (Ints w (.slice a3 n3 c3) Ln) := h3
  have H4 : Hid (Ints w (.slice a4 n4 c4) C) := h4
  clear h0 h1 h2 h3 h4
  go_enter Try.func5, Try.ntmps5
  go_wp2_with fail
  refine (bytes_any a0 a1 a2 a3 a4 n0 c0 n1 c1 n2 c2 n3 c3 n4 c4 R steps F w H0.out H1.out H2.out).mono ?_
  rintro e w' ⟨⟨b, rfl⟩, rfl⟩
  cases b with
  | false =>
    go_wp2
    go_ret
    exact ⟨rfl, Below.refl _ _⟩
  | true =>
    go_wp2_with fail
    refine (uses_any a0 a1 a2 a3 a4 n0 c0 n1 c1 n2 c2 n3 c3 n4 c4 R steps F w H0.out H1.out H2.out).mono ?_
    rintro e w' ⟨⟨v, rfl, hub⟩, rfl⟩
    by_cases hv : 1048576 < v
    · go_wp2
      go_ret
      exact ⟨rfl, Below.refl _ _⟩
    have HUB : Hid (cntS steps n1 ≤ 1048576) := hub (by omega)
    clear hub
    by_cases h4096 : 4096 < n0
    · go_wp2
      go_ret
      exact ⟨rfl, Below.refl _ _⟩
    by_cases e1 : ¬ n1 = n0
    · have e1' : ((n1 : Int) != (n0 : Int)) = true := by simp; omega
      go_wp2
      go_ret
      exact ⟨rfl, Below.refl _ _⟩
    obtain rfl : n1 = n0 := by omega
    clear e1
    by_cases e2 : ¬ n2 = n1
    · have e1' : ((n2 : Int) != (n1 : Int)) = true := by simp; omega
      go_wp2
      go_ret
      exact ⟨rfl, Below.refl _ _⟩
    obtain rfl : n2 = n1 := by omega
    clear e2
    by_cases e3 : ¬ n3 = n2
    · have e1' : ((n3 : Int) != (n2 : Int)) = true := by simp; omega
      go_wp2
      go_ret
      exact ⟨rfl, Below.refl _ _⟩
    obtain rfl : n3 = n2 := by omega
    clear e3
    by_cases e4 : ¬ n4 = n3
    · have e1' : ((n4 : Int) != (n3 : Int)) = true := by simp; omega
      go_wp2
      go_ret
      exact ⟨rfl, Below.refl _ _⟩
    obtain rfl : n4 = n3 := by omega
    clear e4
    have hl0 := H0.out.len.1
    have hl1 := H1.out.len.1
    have hl2 := H2.out.len.1
    have hl3 := H3.out.len.1
    have hl4 := H4.out.len.1
    have HL : Hid (R.length = n4 ∧ steps.length = n4 ∧ F.length = n4 ∧ Ln.length = n4 ∧ C.length = n4) := ⟨hl0, hl1, hl2, hl3, hl4⟩
    have HCT : Hid (cntS steps steps.length ≤ 1048576) := by show _ ≤ _; rw [hl1]; exact HUB.out
    clear hl0 hl1 hl2 hl3 hl4 HUB m0 m1 m2 m3 m4
    go_wp2_with fail
    refine (clone10_any a0 n4 c0 R w H0.out (by omega)).mono ?_
    rintro e w1 ⟨aR, cR, rfl, oR, B1⟩
    go_wp2_with fail
    refine (clone11_any a1 n4 c1 steps w1 (Nest.below H1.out B1) (by omega) (fun x hx => by
      obtain ⟨i, hi, e⟩ := List.getElem_of_mem hx
      exact Nat.le_trans (len_le_cntS (i := i) (by rw [List.getElem?_eq_getElem hi, e])) HCT.out)).mono ?_
    rintro e w2 ⟨aS, cS, us, rfl, oS, hus, hrr, B2⟩
    have B12 : Below w.heap.size w w2 := B1.trans (B2.mono B1.size)
    go_wp2_with fail
    refine (clone10_any a2 n4 c2 F w2 (Strs.below H2.out B12) (by omega)).mono ?_
    rintro e w3 ⟨aF, cF, rfl, oF, B3⟩
    have B13 : Below w.heap.size w w3 := B12.trans (B3.mono B12.size)
    go_wp2_with fail
    refine (clone31_any a3 n4 c3 Ln w3 (Ints.below H3.out B13) (by omega)).mono ?_
    rintro e w4 ⟨aL, cL, rfl, oL, B4⟩
    have B14 : Below w.heap.size w w4 := B13.trans (B4.mono B13.size)
    go_wp2_with fail
    refine (clone31_any a4 n4 c4 C w4 (Ints.below H4.out B14) (by omega)).mono ?_
    rintro e w5 ⟨aC, cC, rfl, oC, B5⟩
    have B15 : Below w.heap.size w w5 := B14.trans (B5.mono B14.size)
    have oR5 := own_below (own_below (own_below (own_below oR B2) B3) B4) B5
    have oS5 := own_below (own_below (own_below oS B3) B4) B5
    have oF5 := own_below (own_below oF B4) B5
    have oL5 := own_below oL B5
    have rr2 : RR w2 us steps := ⟨by rw [hus]; exact HL.out.2.1.symm, fun i u hu => by obtain ⟨x, h1, h2⟩ := hrr i u hu; exact ⟨x, h1, own_mono h2 (Nat.zero_le _)⟩⟩
    have rr5 := ((rr2.below B3).below B4).below B5
    have H5 : Hid (w5.ownsRow w.heap.size 9 1 (.slice aR n4 cR) n4 (R.map Value.string) ∧ w5.ownsRow w1.heap.size 23 1 (.slice aS n4 cS) n4 us ∧ RR w5 us steps ∧ Below w.heap.size w w5) := ⟨oR5, oS5, rr5, B15⟩
    have HNM := newModel_any aR aS aF aL aC n4 cR cS cF cL cC R F us Ln C w5 (own_rd oR5) (own_rd oS5) (own_rd oF5) (own_rd oL5) (own_rd oC) HL.out.1 hus HL.out.2.2.1 HL.out.2.2.2.1 HL.out.2.2.2.2 (by omega) rr5.shapes
    have HUSL : Hid (us.length = n4) := hus
    clear oR oS oF oL oC oR5 oS5 oF5 oL5 rr2 rr5 B1 B2 B3 B4 B5 B12 B13 B14 B15 hrr hus H0 H1 H2 H3 H4
    go_wp2_with fail
    refine HNM.mono ?_
    rintro e w6 ⟨gm, gc, rfl, g1, g2, g3, g4, B6⟩
    clear HNM
    have HMU := modelUses_any gm gc n4 F R Ln C us steps w6 g1 g4 HL.out.1 HUSL.out HL.out.2.2.1 HL.out.2.2.2.1 HL.out.2.2.2.2 HL.out.2.1 (by omega) H5.out.2.2.1.shapes (H5.out.2.2.1.below B6).read HCT.out
    have H6 : Hid (Strs w6 (.slice aR n4 cR) R ∧ Nest w6 (.slice aS n4 cS) steps ∧ Below w.heap.size w w6) := ⟨own_strs (own_below H5.out.1 B6), RR.nest (H5.out.2.2.1.below B6) (own_below H5.out.2.1 B6), H5.out.2.2.2.trans (B6.mono H5.out.2.2.2.size)⟩
    clear g1 g2 g3 g4 B6 H5 HUSL
    go_wp2_with fail
    refine HMU.mono ?_
    rintro e wq ⟨rv, gt, gh, A, rfl, B7, hA, s1, s2, s3⟩
    clear HMU
    obtain ⟨ra, rc, rfl, -, -⟩ := s1.shape
    have HQ : Hid (LF wq aR aS ra n4 cR cS rc gt gh R steps A ∧ Below w.heap.size w wq ∧ AOK R steps (dd R) A n4 0) := ⟨⟨Strs.below H6.out.1 B7, Nest.below H6.out.2.1 B7, s1, s2, s3⟩, H6.out.2.2.trans (B7.mono H6.out.2.2.size), hA⟩
    clear H6 B7 hA s1 s2 s3
    obtain ⟨nD, hnD⟩ : ∃ nD, nD = (dd R).length := ⟨_, rfl⟩
    have HND : Hid ((dd R).length = nD) := hnD.symm
    have hDl : nD ≤ 4096 := by
      have h1 := dd_take_len R n4
      rw [List.take_of_length_le (by rw [HL.out.1]; exact Nat.le_refl _)] at h1
      omega
    rw [HND.out]
    clear hnD
    go_wp2_with fail
    go_loopw [103] (fun i wr => ∃ k : Nat, k ≤ nD ∧ i = .int .i64 k ∧ wq = wr) (fun i _ => nD - (intOf i).toNat)
    case atStart => exact ⟨0, Nat.zero_le _, rfl, rfl⟩
    case round =>
      obtain ⟨k, hk, rfl, rfl⟩ := hrel
      by_cases hlt : k < nD
      · have hkx : k < (dd R).length := by rw [HND.out]; exact hlt
        obtain ⟨b, off, u, hx, hc, hu⟩ := HQ.out.1.2.2.1.at hkx
        unfold EStr at hu
        subst hu
        have HX : Hid ((dd R)[k]? = some (dd R)[k]) := List.getElem?_eq_getElem hkx
        generalize (dd R)[k] = y at hc HX
        have HI1 : Calls Try.prog 34 #[.slice ra nD rc, .string y] wq fun e w' => e = .returned (.int .i64 (k : Int)) ∧ wq = w' := by
          have h3 := HQ.out.1.2.2.1
          rw [HND.out] at h3
          refine (index_any ra nD rc (dd R) y wq h3 (by omega)).mono (fun e w' q => ?_)
          rw [idx_dd_self R HX.out] at q
          exact q
        obtain ⟨i1, hi1⟩ := idx_R_of_dd R HX.out
        have HI2 : Calls Try.prog 34 #[.slice aR n4 cR, .string y] wq fun e w' => e = .returned (.int .i64 (i1 : Int)) ∧ wq = w' := by
          refine (index_any aR n4 cR R y wq HQ.out.1.1 (by omega)).mono (fun e w' q => ?_)
          rw [hi1] at q
          exact q
        have HI1x : Hid (idx R y = some i1) := hi1
        clear hi1
        by_cases hk0 : k = 0
        · have HK0 : Hid (k = 0) := hk0
          clear hk0
          have i1' : (k : Int) < (nD : Int) := by omega
          subst hx
          go_wp2_with fail
          refine HI1.mono ?_
          rintro e w' ⟨rfl, rfl⟩
          go_wp2_with fail
          refine HI2.mono ?_
          rintro e w' ⟨rfl, rfl⟩
          have hk0 : k = 0 := HK0.out
          clear HI1 HI2 hc HX
          subst hk0
          go_wp2
          go_roundw
          case rel => exact ⟨0 + 1, by omega, by go_num, by first | rfl | trivial⟩
          case measure => simp [intOf]; omega
        · obtain ⟨p, rfl⟩ : ∃ p, k = p + 1 := ⟨k - 1, by omega⟩
          have hpx : p < (dd R).length := by rw [HND.out]; omega
          obtain ⟨b', off', u', hx', hc', hu'⟩ := HQ.out.1.2.2.1.at hpx
          unfold EStr at hu'
          subst hu'
          have HX' : Hid ((dd R)[p]? = some (dd R)[p]) := List.getElem?_eq_getElem hpx
          generalize (dd R)[p] = y' at hc' HX'
          obtain ⟨i2, i3, h5, h6, h7⟩ := ord_dd R p (p + 1) y' y (by omega) HX'.out HX.out
          rw [HI1x.out] at h6
          obtain rfl : i1 = i3 := by simpa using h6
          have HI3 : Calls Try.prog 34 #[.slice aR n4 cR, .string y'] wq fun e w' => e = .returned (.int .i64 (i2 : Int)) ∧ wq = w' := by
            refine (index_any aR n4 cR R y' wq HQ.out.1.1 (by omega)).mono (fun e w' q => ?_)
            rw [h5] at q
            exact q
          subst hx
          cases hx'
          clear h5 h6
          have i1' : ((p + 1 : Nat) : Int) - 1 = (p : Int) := by omega
          have i2' : ((p + 1 : Nat) : Int) < (nD : Int) := by omega
          have i3' : ¬ ((i1 : Int) ≤ (i2 : Int)) := by omega
          go_wp2_with fail
          refine HI1.mono ?_
          rintro e w' ⟨rfl, rfl⟩
          go_wp2_with fail
          refine HI2.mono ?_
          rintro e w' ⟨rfl, rfl⟩
          go_wp2_with fail
          refine HI3.mono ?_
          rintro e w' ⟨rfl, rfl⟩
          go_wp2
          go_roundw
          case rel => exact ⟨p + 1 + 1, by omega, by go_num, by first | rfl | trivial⟩
          case measure => simp [intOf]; omega
      · obtain rfl : nD = k := by omega
        clear hlt hk
        go_wp2_with fail
        go_loopw [138] (fun i wr => ∃ k : Nat, k ≤ n4 ∧ i = .int .i64 k ∧ wq = wr) (fun i _ => n4 - (intOf i).toNat)
        case atStart => exact ⟨0, Nat.zero_le _, rfl, rfl⟩
        case round =>
          obtain ⟨k, hk, rfl, rfl⟩ := hrel
          by_cases hlt : k < n4
          · have hkx : k < R.length := by rw [HL.out.1]; exact hlt
            obtain ⟨b, off, u, hx, hc, hu⟩ := HQ.out.1.1.at hkx
            unfold EStr at hu
            subst hu
            obtain ⟨f, hf⟩ := idx_dd hkx
            generalize R[k] = y at hc hf
            have HI1 : Calls Try.prog 34 #[.slice ra nD rc, .string y] wq fun e w' => e = .returned (.int .i64 (f : Int)) ∧ wq = w' := by
              have h3 := HQ.out.1.2.2.1
              rw [HND.out] at h3
              refine (index_any ra nD rc (dd R) y wq h3 (by omega)).mono (fun e w' q => ?_)
              rw [hf] at q
              exact q
            subst hx
            clear hf
            have i1' : (k : Int) < (n4 : Int) := by omega
            have i2' : ¬ ((f : Int) < 0) := by omega
            go_wp2_with fail
            refine HI1.mono ?_
            rintro e w' ⟨rfl, rfl⟩
            go_wp2
            go_roundw
            case rel => exact ⟨k + 1, by omega, by go_num, by first | rfl | trivial⟩
            case measure => simp [intOf]; omega
          · obtain rfl : n4 = k := by omega
            clear hlt hk
            have HW : Hid (LW w wq aR aS ra n4 cR cS rc gt gh R steps A) := ⟨HQ.out.1, HQ.out.2.1⟩
            have HA : Hid (AOK R steps (dd R) A n4 0) := HQ.out.2.2
            have HAL : Hid (A.length = nD) := HA.out.1.trans HND.out
            have HSM : Hid ((A.map List.length).sum ≤ 1048576) := by
              show _ ≤ _
              rw [HA.out.2.2]
              exact Nat.le_trans (wantAt_zero_le _ _ _) HCT.out
            clear HQ
            go_wp2_with fail
            go_loopw [17, 151] (fun t i wr => ∃ q : Nat, q ≤ nD ∧ i = .int .i64 q ∧ t = .int .i64 (sumTo A q 0 : Int) ∧ LW w wr aR aS ra n4 cR cS rc gt gh R steps A) (fun _ i _ => nD - (intOf i).toNat)
            case atStart => exact ⟨0, Nat.zero_le _, rfl, by simp [sumTo], HW.out⟩
            case round =>
              clear HW
              obtain ⟨q, hq, rfl, rfl, hw⟩ := hrel
              have HW : Hid (LW w wr aR aS ra n4 cR cS rc gt gh R steps A) := hw
              clear hw
              by_cases hlt : q < nD
              · have hqA : q < A.length := by rw [HAL.out]; exact hlt
                obtain ⟨ta, tc, ca, cc, r1, r2, r3⟩ := HW.out.1.row hqA
                obtain ⟨m, hm⟩ : ∃ m, m = (A.getD q []).length := ⟨_, rfl⟩
                have HM : Hid ((A.getD q []).length = m) := hm.symm
                have HT : Hid (∀ j, j ≤ m → sumTo A q j ≤ 1048576) := fun j hj => Nat.le_trans (sumTo_le hqA (by rw [HM.out]; exact hj)) HSM.out
                have hml : m ≤ 1048576 := by have := HT.out m (Nat.le_refl _); unfold sumTo at this; omega
                rw [← hm] at r1 r2
                have i1' : (q : Int) < (nD : Int) := by omega
                clear hm r3
                go_wp2_with fail
                go_quiet (fail)
                go_wp2_with fail
                clear r1 r2
                go_loopw [17, 170] (fun t i wr => ∃ j : Nat, j ≤ m ∧ i = .int .i64 j ∧ t = .int .i64 (sumTo A q j : Int) ∧ LW w wr aR aS ra n4 cR cS rc gt gh R steps A) (fun _ i _ => m - (intOf i).toNat)
                case atStart => exact ⟨0, Nat.zero_le _, rfl, rfl, HW.out.drewN _⟩
                case round =>
                  clear HW
                  obtain ⟨j, hj, rfl, rfl, hw⟩ := hrel
                  have HW : Hid (LW w wr aR aS ra n4 cR cS rc gt gh R steps A) := hw
                  clear hw
                  by_cases hjl : j < m
                  · obtain ⟨ta, tc, ca, cc, r1, r2, r3⟩ := HW.out.1.row hqA
                    have JL : Hid (j < (A.getD q []).length) := by show _ < _; rw [HM.out]; exact hjl
                    have hAq : A[q]? = some (A.getD q []) := by simp [hqA]
                    obtain ⟨hall, hpw⟩ := HA.out.2.1 q _ hAq
                    have HR3 : Hid (∀ (j : Nat) (p : Nat × Nat), (A.getD q [])[j]? = some p → (∃ b off, ta = some ⟨b, off, none⟩ ∧ wr.cell? ⟨b, off + j, none⟩ = some (.int .i64 (p.1 : Int))) ∧ (∃ b off, ca = some ⟨b, off, none⟩ ∧ wr.cell? ⟨b, off + j, none⟩ = some (.int .i64 (p.2 : Int)))) := r3
                    have HPW : Hid ((A.getD q []).Pairwise (fun p q => p.2 ≤ q.2)) := hpw
                    obtain ⟨-, q2, q3, q4, s, q5, q6⟩ := hall _ (List.getElem_mem JL.out)
                    have HJ : Hid ((A.getD q [])[j]? = some ((A.getD q [])[j]'JL.out)) := List.getElem?_eq_getElem JL.out
                    obtain ⟨⟨bt, ot, ht1, ht2⟩, ⟨bc, oc, hc1, hc2⟩⟩ := r3 j _ HJ.out
                    generalize ((A.getD q [])[j]'JL.out) = pp at q2 q3 q4 q6 q5 ht2 hc2 HJ
                    obtain ⟨t, c⟩ := pp
                    simp only at q2 q3 q4 q5 q6 ht2 hc2
                    -- the chain's relation
                    have hqD : q < (dd R).length := by rw [HND.out]; exact hlt
                    obtain ⟨bR, oR, uR, x1, x2, x3⟩ := HW.out.1.1.at q2
                    obtain ⟨bD, oD, uD, y1, y2, y3⟩ := HW.out.1.2.2.1.at hqD
                    rw [List.getElem?_eq_getElem q2, List.getElem?_eq_getElem hqD] at q4
                    have hRD : R[c] = (dd R)[q] := by simpa using q4
                    unfold EStr at x3 y3
                    subst x3 y3
                    rw [hRD] at x2
                    generalize (dd R)[q] = y at x2 y2
                    -- the step
                    obtain ⟨bD', oD', uD', z1, z2, z3⟩ := HW.out.1.2.2.1.at q3
                    rw [List.getElem?_eq_getElem q3] at q5
                    have hs : (dd R)[t] = s := by simpa using q5
                    unfold EStr at z3
                    subst z3
                    rw [hs] at z2
                    rw [y1] at z1
                    cases z1
                    have hcS : c < steps.length := by have := HL.out.1; have := HL.out.2.1; omega
                    obtain ⟨bS, oS, uS, v1, v2, v3⟩ := HW.out.1.2.1.at hcS
                    obtain ⟨sa, sc, rfl, -, -⟩ := Slc.shape v3
                    have hsx : steps.getD c [] = steps[c] := by simp [hcS]
                    rw [hsx] at q6
                    have hsl : steps[c].length ≤ 1048576 := Nat.le_trans (len_le_cntS (i := c) (List.getElem?_eq_getElem hcS)) HCT.out
                    obtain ⟨ix, hix⟩ : ∃ ix, idx steps[c] s = some ix := by
                      cases e : idx steps[c] s with
                      | none => rw [idx_none] at e; exact absurd q6 e
                      | some ix => exact ⟨ix, rfl⟩
                    obtain ⟨sn, hsn⟩ : ∃ sn, sn = steps[c].length := ⟨_, rfl⟩
                    rw [← hsn] at v2 v3 hsl
                    have HC0 : ∀ nq, Calls Try.prog 34 #[.slice sa sn sc, .string s] (wr.drewN nq) fun e w' => e = .returned (.int .i64 (ix : Int)) ∧ wr.drewN nq = w' := fun nq => by
                      refine (index_any sa sn sc steps[c] s (wr.drewN nq) (Slc.below v3 (below_drewN (Below.refl _ _) nq) (fun _ _ h => h)) (by omega)).mono (fun e w' q => ?_)
                      rw [hix] at q
                      exact q
                    have HCS := fun nq => Calls.quiet_of_same ((HC0 nq).mono (fun _ _ q => ⟨q.1, q.2.symm⟩))
                    clear HC0
                    have hcn : c < n4 := by have := HL.out.1; omega
                    have htn : t < nD := by have := HND.out; omega
                    subst x1 y1 v1
                    subst ht1 hc1
                    clear q2 q3 q4 q5 q6 hall hpw hix hsn v3 hs hsx hRD hcS hqD hAq r3
                    rw [HM.out] at r1 r2
                    have i1' : (q : Int) < (nD : Int) := by omega
                    have i2' : (j : Int) < (m : Int) := by omega
                    have i3' : (c : Int) < (n4 : Int) := by omega
                    have i4' : (t : Int) < (nD : Int) := by omega
                    have i5' : ¬ ((n4 : Int) ≤ (c : Int)) := by omega
                    have i6' : ¬ ((nD : Int) ≤ (t : Int)) := by omega
                    have i7' : ¬ ((c : Int) < 0) := by omega
                    have i8' : ¬ ((t : Int) < 0) := by omega
                    have i9' : ¬ ((ix : Int) < 0) := by omega
                    go_wp2_with fail
                    go_quiet ((go_at_call 34; exact HCS _))
                    clear HCS
                    have HTJ := HT.out (j + 1) (by omega)
                    have e1 : sumTo A q (j + 1) = sumTo A q j + 1 := rfl
                    have HE1 : Hid (sumTo A q (j + 1) = sumTo A q j + 1) := e1
                    rw [e1] at HTJ
                    clear e1
                    by_cases hj0 : j = 0
                    · clear ht2 hc2 i2'
                      subst hj0
                      go_wp2
                      go_roundw
                      case rel => exact ⟨0 + 1, by omega, by go_num, by rw [HE1.out]; go_num, HW.out.drewN _⟩
                      case measure => simp [intOf]; omega
                    · obtain ⟨p, rfl⟩ : ∃ p, j = p + 1 := ⟨j - 1, by omega⟩
                      have JP : Hid (p < (A.getD q []).length) := by show _ < _; have := JL.out; omega
                      have HP : Hid ((A.getD q [])[p]? = some ((A.getD q [])[p]'JP.out)) := List.getElem?_eq_getElem JP.out
                      obtain ⟨-, ⟨bc', oc', hc1', hc2'⟩⟩ := HR3.out p _ HP.out
                      have hle : ((A.getD q [])[p]'JP.out).2 ≤ c := by
                        have h1 := List.pairwise_iff_getElem.1 HPW.out p (p + 1) JP.out JL.out (by omega)
                        have h2 := HJ.out
                        rw [List.getElem?_eq_getElem JL.out] at h2
                        simp only [Option.some.injEq] at h2
                        rw [h2] at h1
                        exact h1
                      generalize ((A.getD q [])[p]'JP.out).2 = c' at hle hc2'
                      cases hc1'
                      have j1' : ((p + 1 : Nat) : Int) - 1 = (p : Int) := by omega
                      have j2' : ((p : Nat) : Int) < (m : Int) := by omega
                      have j3' : ¬ ((c : Int) < (c' : Int)) := by omega
                      go_wp2
                      go_roundw
                      case rel => exact ⟨p + 1 + 1, by omega, by go_num, by rw [HE1.out]; go_num, HW.out.drewN _⟩
                      case measure => simp [intOf]; omega
                  · obtain rfl : m = j := by omega
                    have HE1 : Hid (sumTo A q m = sumTo A (q + 1) 0) := by
                      have := sumTo_next hqA
                      rw [HM.out] at this
                      exact this
                    go_wp2
                    go_roundw
                    case rel => exact ⟨q + 1, by omega, by go_num, by rw [HE1.out], HW.out⟩
                    case measure => simp [intOf]; omega
              · obtain rfl : nD = q := by omega
                clear hlt hq
                have HTOT : Hid (sumTo A nD 0 = wantAt R steps n4 0) := by
                  show _ = _
                  have h1 := HA.out.2.2
                  rw [wantAt_dd] at h1
                  rw [← h1, ← HAL.out]
                  unfold sumTo
                  rw [List.take_length]
                  rfl
                go_wp2_with fail
                go_loopw [22, 246] (fun t i wx => ∃ i' : Nat, i' ≤ n4 ∧ i = .int .i64 i' ∧ t = .int .i64 (wantAt R steps i' 0 : Int) ∧ wr = wx) (fun _ i _ => n4 - (intOf i).toNat)
                case atStart => exact ⟨0, Nat.zero_le _, rfl, by simp [wantAt, cD], rfl⟩
                case round =>
                  obtain ⟨i, hi, rfl, rfl, rfl⟩ := hrel
                  by_cases hlt : i < n4
                  · have hiS : i < steps.length := by rw [HL.out.2.1]; exact hlt
                    obtain ⟨bS, oS, uS, v1, v2, v3⟩ := HW.out.1.2.1.at hiS
                    obtain ⟨sa, sc, rfl, -, -⟩ := Slc.shape v3
                    have hsx : steps.getD i [] = steps[i] := by simp [hiS]
                    have hsl : steps[i].length ≤ 1048576 := Nat.le_trans (len_le_cntS (i := i) (List.getElem?_eq_getElem hiS)) HCT.out
                    have HST : Hid (∀ j (h : j < steps[i].length), wantAt R steps i (j + 1) = wantAt R steps i j + (if (idx R (steps[i])[j]).isSome then 1 else 0)) := fun j h => by
                      have := wantAt_step (D := R) (steps := steps) (i := i) (j := j) (by rw [hsx]; exact h)
                      simp only [hsx] at this
                      exact this
                    have HNX : Hid (wantAt R steps (i + 1) 0 = wantAt R steps i steps[i].length) := by
                      show _ = _
                      rw [wantAt_next hiS, hsx]
                    have HLE : Hid (∀ j, wantAt R steps i j ≤ 1048576) := fun j => Nat.le_trans (wantAt_le hiS) HCT.out
                    clear hsx
                    generalize steps[i] = x at v2 v3 hsl HST HNX
                    have HV3 : Hid (Strs wr (.slice sa x.length sc) x) := v3
                    clear v3
                    obtain ⟨m, hm⟩ : ∃ m, m = x.length := ⟨_, rfl⟩
                    have HM : Hid (x.length = m) := hm.symm
                    rw [← hm] at v2 hsl HNX HV3
                    clear hm
                    subst v1
                    have i1' : (i : Int) < (n4 : Int) := by omega
                    go_wp2_with fail
                    go_loopw [22, 254] (fun t i1 wx => ∃ j : Nat, j ≤ m ∧ i1 = .int .i64 j ∧ t = .int .i64 (wantAt R steps i j : Int) ∧ wr = wx) (fun _ i _ => m - (intOf i).toNat)
                    case atStart => exact ⟨0, Nat.zero_le _, rfl, rfl, rfl⟩
                    case round =>
                      obtain ⟨j, hj, rfl, rfl, rfl⟩ := hrel
                      by_cases hjl : j < m
                      · have hjx : j < x.length := by rw [HM.out]; exact hjl
                        obtain ⟨b, off, u, g1, g2, g3⟩ := HV3.out.at hjx
                        unfold EStr at g3
                        subst g3
                        have HS1 : Hid (wantAt R steps i (j + 1) = wantAt R steps i j + (if (idx R x[j]).isSome then 1 else 0)) := HST.out j hjx
                        have HIX := index_any aR n4 cR R x[j] wr HW.out.1.1 (by omega)
                        have hle := HLE.out (j + 1)
                        generalize x[j] = y at HIX HS1 g2
                        subst g1
                        have i2' : (j : Int) < (m : Int) := by omega
                        cases hid : idx R y with
                        | none =>
                          rw [hid] at HIX HS1
                          have HS2 : Hid (wantAt R steps i (j + 1) = wantAt R steps i j) := HS1.out
                          simp only [oi] at HIX
                          clear hid HS1
                          go_wp2_with fail
                          refine HIX.mono ?_
                          rintro e w' ⟨rfl, rfl⟩
                          go_wp2
                          go_roundw
                          case rel => exact ⟨j + 1, by omega, by go_num, by rw [HS2.out], by first | rfl | trivial⟩
                          case measure => simp [intOf]; omega
                        | some f =>
                          rw [hid] at HIX HS1
                          have HS2 : Hid (wantAt R steps i (j + 1) = wantAt R steps i j + 1) := HS1.out
                          rw [HS2.out] at hle
                          simp only [oi] at HIX
                          clear hid HS1
                          have i3' : (0 : Int) ≤ (f : Int) := by omega
                          go_wp2_with fail
                          refine HIX.mono ?_
                          rintro e w' ⟨rfl, rfl⟩
                          go_wp2
                          go_roundw
                          case rel => exact ⟨j + 1, by omega, by go_num, by rw [HS2.out]; go_num, by first | rfl | trivial⟩
                          case measure => simp [intOf]; omega
                      · obtain rfl : m = j := by omega
                        go_wp2
                        go_roundw
                        case rel => exact ⟨i + 1, by omega, by go_num, by rw [HNX.out], by first | rfl | trivial⟩
                        case measure => simp [intOf]; omega
                  · obtain rfl : n4 = i := by omega
                    clear hlt hi
                    have hTOT := HTOT.out
                    generalize sumTo A nD 0 = tot at hTOT ⊢
                    subst hTOT
                    have heq : ((wantAt R steps n4 0 : Nat) : Int) = ((wantAt R steps n4 0 : Nat) : Int) := rfl
                    go_wp2
                    go_ret
                    exact ⟨by simp, HW.out.2⟩

end Go.Proofs.Qxb6603244a
