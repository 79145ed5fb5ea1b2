/-
  Seat b6603051a: FnHeldCountMatchesTally (7).
-/
import Derived.Test.Qxb6603051aZ1
import Derived.Test.Qxb6603051aY7
import Derived.Test.Qxb6603051aG3
import Derived.Test.Qxb6603051aG4
namespace Go.Proofs.Qxb6603051a
open Go.RowKit
set_option linter.unusedVariables false
set_option linter.unusedSimpArgs false

theorem szS_len (ss : List ByteArray) : 16 * ss.length ≤ szS ss := by unfold szS; omega

theorem szN_mem : ∀ (sss : List (List ByteArray)) (x : List ByteArray), x ∈ sss → szS x ≤ (sss.map szS).sum
  | [], x, h => by cases h
  | y :: sss, x, h => by
    simp only [List.map_cons, List.sum_cons]
    rcases List.mem_cons.1 h with rfl | h
    · omega
    · have := szN_mem sss x h; omega

theorem szN_flat : ∀ (sss : List (List ByteArray)), sss.flatten.length ≤ (sss.map szS).sum
  | [] => by simp
  | y :: sss => by
    have := szN_flat sss
    have := szS_len y
    simp only [List.flatten_cons, List.length_append, List.map_cons, List.sum_cons]
    omega

theorem szC_mem : ∀ (fc : List (List Int)) (x : List Int), x ∈ fc → x.length * 8 ≤ (fc.map fun x => x.length * 8).sum
  | [], x, h => by cases h
  | y :: fc, x, h => by
    simp only [List.map_cons, List.sum_cons]
    rcases List.mem_cons.1 h with rfl | h
    · omega
    · have := szC_mem fc x h; omega

theorem pk_range {P : Int → Prop} (h0 : P 0) : ∀ (xs : List ByteArray) (zs : List Int) (k : ByteArray), (∀ z ∈ zs, P z) → P (pk xs zs k)
  | [], _, _, _ => h0
  | _ :: _, [], _, _ => h0
  | x :: xs, z :: zs, k, h => by
    simp only [pk]
    split
    · exact h z (.head _)
    · exact pk_range h0 xs zs k (fun y hy => h y (.tail _ hy))

theorem pkF_range {P : Int → Prop} (h0 : P 0) : ∀ (xs : List ByteArray) (ys : List (List ByteArray)) (zs : List (List Int)) (a k : ByteArray), (∀ l ∈ zs, ∀ z ∈ l, P z) → P (pkF xs ys zs a k)
  | [], _, _, _, _, _ => h0
  | _ :: _, [], _, _, _, _ => h0
  | _ :: _, _ :: _, [], _, _, _ => h0
  | x :: xs, y :: ys, z :: zs, a, k, h => by
    simp only [pkF]
    split
    · exact pk_range h0 y z k (h z (.head _))
    · exact pkF_range h0 xs ys zs a k (fun l hl => h l (.tail _ hl))

def inR (z : Int) : Prop := -9223372036854775808 ≤ z ∧ z ≤ 9223372036854775807

theorem heldS_start {w : World} {bh base : Nat} {b : Int} {R0 L0 : ByteArray → Int} {F0 : ByteArray → ByteArray → Int} {B : ByteArray → Option Nat} {ex : Option ByteArray} (h : HeldC w bh base R0 L0 F0 B ex) (h1 : ∀ a, inR (R0 a)) (h2 : ∀ a, inR (L0 a)) (h3 : ∀ a k, inR (F0 a k)) : HeldS w bh base b R0 L0 F0 PS.zero B ex := by
  unfold HeldS
  have e1 : (fun id => val b (R0 id) (PS.zero.nR id)) = R0 := funext fun a => val_zero b (h1 a)
  have e2 : (fun id => val b (L0 id) (PS.zero.nL id)) = L0 := funext fun a => val_zero b (h2 a)
  have e3 : (fun id k => val b (F0 id k) (PS.zero.nF id k)) = F0 := funext fun a => funext fun k => val_zero b (h3 a k)
  rw [e1, e2, e3]
  exact h

set_option maxRecDepth 100000 in
set_option maxHeartbeats 4000000 in
theorem held_any (a0 a1 a2 a3 a4 a5 a6 : Option Addr) (n0 c0 n1 c1 n2 c2 n3 c3 n4 c4 n5 c5 n6 c6 : Nat) (b : Int) (ids : List ByteArray) (rp ld : List Int) (fk : List (List ByteArray)) (fc : List (List Int)) (ls : List ByteArray) (RS : List (List ByteArray)) (w : World)
    (h0 : Strs w (.slice a0 n0 c0) ids) (h1 : Ints w (.slice a1 n1 c1) rp) (h2 : Ints w (.slice a2 n2 c2) ld) (h3 : Nest w (.slice a3 n3 c3) fk) (h4 : Slc (Slc EInt) w (.slice a4 n4 c4) fc) (h5 : Strs w (.slice a5 n5 c5) ls) (h6 : Nest w (.slice a6 n6 c6) RS)
    (q0 : okS ids) (q3 : okN fk) (q4 : ∀ x ∈ fc, x.length ≤ 9223372036854775807) (q5 : okS ls) (q6 : okN RS) (v1 : ∀ z ∈ rp, inR z) (v2 : ∀ z ∈ ld, inR z) (v4 : ∀ l ∈ fc, ∀ z ∈ l, inR z)
    (m0 : n0 ≤ 9223372036854775807) (m1 : n1 ≤ 9223372036854775807) (m2 : n2 ≤ 9223372036854775807) (m3 : n3 ≤ 9223372036854775807) (m4 : n4 ≤ 9223372036854775807) (m5 : n5 ≤ 9223372036854775807) (m6 : n6 ≤ 9223372036854775807) :
    Calls Try.prog 7 #[.slice a0 n0 c0, .slice a1 n1 c1, .slice a2 n2 c2, .slice a3 n3 c3, .slice a4 n4 c4, .slice a5 n5 c5, .slice a6 n6 c6, .int .i64 b] w fun e w' => e = .returned (.bool true) ∧ Below w.heap.size w w' := by
  have H0 : Hid (Strs w (.slice a0 n0 c0) ids) := h0
  have H1 : Hid (Ints w (.slice a1 n1 c1) rp) := h1
  have H2 : Hid (Ints w (.slice a2 n2 c2) ld) := h2
  have H3 : Hid (Nest w (.slice a3 n3 c3) fk) := h3
  have H4 : Hid (Slc (Slc EInt) w (.slice a4 n4 c4) fc) := h4
  have H5 : Hid (Strs w (.slice a5 n5 c5) ls) := h5
  have H6 : Hid (Nest w (.slice a6 n6 c6) RS) := h6
  have HV : Hid ((∀ z ∈ rp, inR z) ∧ (∀ z ∈ ld, inR z) ∧ (∀ l ∈ fc, ∀ z ∈ l, inR z)) := ⟨v1, v2, v4⟩
  have HZ := zz28_any a0 a1 a2 a3 a4 a5 a6 n0 c0 n1 c1 n2 c2 n3 c3 n4 c4 n5 c5 n6 c6 b ids fk fc ls RS w h0 h3 h4 h5 h6
  have HB := heldBytes_any a0 a1 a2 a3 a4 a5 a6 n0 c0 n1 c1 n2 c2 n3 c3 n4 c4 n5 c5 n6 c6 ids fk fc ls RS w h0 h3 h4 h5 h6 q0 q3 q4 q5 q6 m0 m1 m2 m3 m4 m5 m6
  have HL : Hid (ids.length = n0 ∧ rp.length = n1 ∧ ld.length = n2 ∧ fk.length = n3 ∧ fc.length = n4 ∧ ls.length = n5 ∧ RS.length = n6) := ⟨h0.len.1, h1.len.1, h2.len.1, h3.len.1, h4.len.1, h5.len.1, h6.len.1⟩
  clear h0 h1 h2 h3 h4 h5 h6 q0 q3 q4 q5 q6 v1 v2 v4 m0 m1 m2 m3 m4 m5 m6
  go_enter Try.func7, Try.ntmps7
  go_wp2_with fail
  refine HZ.mono ?_
  rintro e w' ⟨⟨bz, rfl⟩, rfl⟩
  clear HZ
  cases bz with
  | false =>
    go_wp2
    go_ret
    exact ⟨rfl, Below.refl _ _⟩
  | true =>
    go_wp2_with fail
    refine HB.mono ?_
    rintro e w' ⟨v, rfl, rfl, hv⟩
    clear HB
    have hv0 := hv.1
    have HV3 : Hid (v ≤ 1048576 → v = (szH ids n1 n2 fk fc ls RS : Int)) := hv.2.2
    clear hv
    by_cases hbig : 1048576 < v
    · go_wp2
      go_ret
      exact ⟨rfl, Below.refl _ _⟩
    have hsz : szH ids n1 n2 fk fc ls RS ≤ 1048576 := by have := HV3.out (by omega); omega
    have HSZ : Hid (n0 ≤ 1048576 ∧ n1 ≤ 1048576 ∧ n2 ≤ 1048576 ∧ n3 ≤ 1048576 ∧ n4 ≤ 1048576 ∧ n5 ≤ 1048576 ∧ n6 ≤ 1048576 ∧ (∀ x ∈ fk, x.length ≤ 1048576) ∧ (∀ x ∈ fc, x.length ≤ 1048576) ∧ (∀ x ∈ RS, x.length ≤ 1048576) ∧ (ids ++ ls ++ fk.flatten ++ RS.flatten).length ≤ 1048576) := by
      obtain ⟨L0, L1, L2, L3, L4, L5, L6⟩ := HL.out
      unfold szH szN szC at hsz
      have s0 := szS_len ids
      have s5 := szS_len ls
      refine ⟨by omega, by omega, by omega, by omega, by omega, by omega, by omega, fun x hx => ?_, fun x hx => ?_, fun x hx => ?_, ?_⟩
      · have := szN_mem fk x hx
        have := szS_len x
        omega
      · have := szC_mem fc x hx
        omega
      · have := szN_mem RS x hx
        have := szS_len x
        omega
      · have := szN_flat fk
        have := szN_flat RS
        simp only [List.length_append]
        omega
    clear hsz HV3
    have HF := fits_any a0 a1 a2 a3 a4 a5 a6 n0 c0 n1 c1 n2 c2 n3 c3 n4 c4 n5 c5 n6 c6 ids rp ld fk fc w H0.out H1.out H2.out H3.out H4.out HSZ.out.1 HSZ.out.2.2.2.2.2.2.2.1
    go_wp2_with fail
    refine HF.mono ?_
    rintro e wf ⟨⟨bf, rfl, hfit⟩, BF⟩
    clear HF
    cases bf with
    | false =>
      go_wp2
      go_ret
      exact ⟨rfl, BF⟩
    | true =>
      have hfit' := hfit rfl
      clear hfit
      obtain ⟨e1, e2, e3, e4, e5, hfit⟩ := hfit'
      obtain rfl := e1.symm
      obtain rfl := e2.symm
      obtain rfl := e3.symm
      obtain rfl := e4.symm
      obtain rfl := e5
      have HFIT : Hid (∀ i, i < n0 → FitAt ids rp ld fk fc i) := hfit
      clear hfit e1 e2 e3 e4
      go_wp2_with fail
      refine (clone11_any a0 n0 c0 ids wf (Strs.below H0.out BF) HSZ.out.1).mono ?_
      rintro e w1 ⟨d0, k0, rfl, o0, B1⟩
      have F1 : Below w.heap.size w w1 := BF.trans (B1.mono BF.size)
      go_wp2_with fail
      refine (clone13_any a1 n0 c1 rp w1 (Ints.below H1.out F1) HSZ.out.1).mono ?_
      rintro e w2 ⟨d1, k1, rfl, o1, B2⟩
      have F2 : Below w.heap.size w w2 := F1.trans (B2.mono F1.size)
      go_wp2_with fail
      refine (clone13_any a2 n0 c2 ld w2 (Ints.below H2.out F2) HSZ.out.1).mono ?_
      rintro e w3 ⟨d2, k2, rfl, o2, B3⟩
      have F3 : Below w.heap.size w w3 := F2.trans (B3.mono F2.size)
      go_wp2_with fail
      refine (clone24_any a3 n0 c3 fk w3 (Nest.below H3.out F3) HSZ.out.1 HSZ.out.2.2.2.2.2.2.2.1).mono ?_
      rintro e w4 ⟨d3, k3, u3, rfl, o3, l3, r3, B4⟩
      have F4 : Below w.heap.size w w4 := F3.trans (B4.mono F3.size)
      go_wp2_with fail
      refine (clone31_any a4 n0 c4 fc w4 (Slc.below H4.out F4 (fun _ _ h => Ints.below h F4)) HSZ.out.1 HSZ.out.2.2.2.2.2.2.2.2.1).mono ?_
      rintro e w5 ⟨d4, k4, u4, rfl, o4, l4, r4, B5⟩
      have F5 : Below w.heap.size w w5 := F4.trans (B5.mono F4.size)
      go_wp2_with fail
      refine (clone11_any a5 n5 c5 ls w5 (Strs.below H5.out F5) HSZ.out.2.2.2.2.2.1).mono ?_
      rintro e w6 ⟨d5, k5, rfl, o5, B6⟩
      have F6 : Below w.heap.size w w6 := F5.trans (B6.mono F5.size)
      go_wp2_with fail
      refine (clone24_any a6 n5 c6 RS w6 (Nest.below H6.out F6) HSZ.out.2.2.2.2.2.1 HSZ.out.2.2.2.2.2.2.2.2.2.1).mono ?_
      rintro e w7 ⟨d6, k6, u6, rfl, o6, l6, r6, B7⟩
      have F7 : Below w.heap.size w w7 := F6.trans (B7.mono F6.size)
      have C16 : Below w1.heap.size w1 w7 := by
        have := B2
        have s2 := B2.size
        have s3 := B3.size
        have s4 := B4.size
        have s5 := B5.size
        have s6 := B6.size
        exact B2.trans ((B3.mono s2).trans ((B4.mono (by omega)).trans ((B5.mono (by omega)).trans ((B6.mono (by omega)).trans (B7.mono (by omega))))))
      have C26 : Below w2.heap.size w2 w7 := by
        have s3 := B3.size
        have s4 := B4.size
        have s5 := B5.size
        have s6 := B6.size
        exact B3.trans ((B4.mono (by omega)).trans ((B5.mono (by omega)).trans ((B6.mono (by omega)).trans (B7.mono (by omega)))))
      have C36 : Below w3.heap.size w3 w7 := by
        have s4 := B4.size
        have s5 := B5.size
        have s6 := B6.size
        exact B4.trans ((B5.mono (by omega)).trans ((B6.mono (by omega)).trans (B7.mono (by omega))))
      have C46 : Below w4.heap.size w4 w7 := by
        have s5 := B5.size
        have s6 := B6.size
        exact B5.trans ((B6.mono (by omega)).trans (B7.mono (by omega)))
      have C56 : Below w5.heap.size w5 w7 := B6.trans (B7.mono B6.size)
      have S0 : Strs w7 (.slice d0 n0 k0) ids := Strs.below (own_slc9 o0) C16
      have S1 : Ints w7 (.slice d1 n0 k1) rp := Ints.below (own_slc3 o1) C26
      have S2 : Ints w7 (.slice d2 n0 k2) ld := Ints.below (own_slc3 o2) C36
      have S3 : Nest w7 (.slice d3 n0 k3) fk := Nest.below (nest_slc22 o3 l3 HL.out.2.2.2.1 r3) C46
      have S4 : Slc (Slc EInt) w7 (.slice d4 n0 k4) fc := Slc.below (nest_slc24 o4 l4 HL.out.2.2.2.2.1 r4) C56 (fun _ _ h => Ints.below h C56)
      have S5 : Strs w7 (.slice d5 n5 k5) ls := Strs.below (own_slc9 o5) B7
      have S6 : Nest w7 (.slice d6 n5 k6) RS := nest_slc22 o6 l6 HL.out.2.2.2.2.2.2 r6
      have SR : Rd w7 d6 u6 := own_rd o6
      have SRS : RowsOf w7 u6 RS := by
        refine ⟨by rw [l6]; exact HL.out.2.2.2.2.2.2.symm, fun i u hu => ?_⟩
        obtain ⟨x, hx1, hx2⟩ := r6 i u hu
        obtain ⟨ax, cx, rfl, -, -⟩ := own_shape hx2
        exact ⟨ax, cx, x, hx1, rfl, own_slc9 hx2⟩
      have HS : Hid (Strs w7 (.slice d0 n0 k0) ids ∧ Ints w7 (.slice d1 n0 k1) rp ∧ Ints w7 (.slice d2 n0 k2) ld ∧ Nest w7 (.slice d3 n0 k3) fk ∧ Slc (Slc EInt) w7 (.slice d4 n0 k4) fc ∧ Strs w7 (.slice d5 n5 k5) ls ∧ Nest w7 (.slice d6 n5 k6) RS ∧ Rd w7 d6 u6 ∧ RowsOf w7 u6 RS ∧ u6.length = n5 ∧ Below w.heap.size w w7) := ⟨S0, S1, S2, S3, S4, S5, S6, SR, SRS, l6, F7⟩
      clear o0 o1 o2 o3 o4 o5 o6 l3 l4 l6 r3 r4 r6 B1 B2 B3 B4 B5 B6 B7 F1 F2 F3 F4 F5 F6 F7 C16 C26 C36 C46 C56 S0 S1 S2 S3 S4 S5 S6 SR SRS H0 H1 H2 H3 H4 H5 H6 BF
      have HBH := buildHeld_any d0 d1 d2 d3 d4 n0 k0 k1 k2 k3 k4 ids rp ld fk fc w7 HS.out.1 HS.out.2.1 HS.out.2.2.1 HS.out.2.2.2.1 HS.out.2.2.2.2.1 HSZ.out.1 HSZ.out.2.2.2.2.2.2.2.1 HFIT.out
      go_wp2_with fail
      refine HBH.mono ?_
      rintro e w8 ⟨rfl, hHeld, B8⟩
      clear HBH
      have HBP := build_any d5 d6 n5 k5 k6 ls u6 w8 (Strs.below HS.out.2.2.2.2.2.1 B8) (HS.out.2.2.2.2.2.2.2.1.below B8) HS.out.2.2.2.2.2.2.2.2.2.1 HSZ.out.2.2.2.2.2.1 (fun u hu => by
        obtain ⟨i, hi, rfl⟩ := List.getElem_of_mem hu
        obtain ⟨ax, cx, x, -, e, -⟩ := HS.out.2.2.2.2.2.2.2.2.1.2 i _ (List.getElem?_eq_getElem hi)
        exact ⟨ax, _, cx, e⟩)
      have HH8 : Hid ((∃ B, HeldC w8 w7.heap.size w7.heap.size (pk ids rp) (pk ids ld) (pkF ids fk fc) B none) ∧ Below w7.heap.size w7 w8) := ⟨hHeld, B8⟩
      clear hHeld B8
      go_wp2_with fail
      refine HBP.mono ?_
      rintro e w9 ⟨rfl, hblk, B9⟩
      clear HBP
      have C79 : Below w7.heap.size w7 w9 := HH8.out.2.trans (B9.mono HH8.out.2.size)
      have HSH := shim_any w9 w7.heap.size w7.heap.size w8.heap.size n5 b (pk ids rp) (pk ids ld) (pkF ids fk fc) PS.zero ls u6 RS (by
          obtain ⟨B, hB⟩ := HH8.out.1
          refine ⟨B, heldS_start (hB.later B9) (fun a => pk_range (P := inR) ⟨by omega, by omega⟩ _ _ _ HV.out.1) (fun a => pk_range (P := inR) ⟨by omega, by omega⟩ _ _ _ HV.out.2.1) (fun a k => pkF_range (P := inR) ⟨by omega, by omega⟩ _ _ _ _ _ HV.out.2.2)⟩) hblk HL.out.2.2.2.2.2.1 HS.out.2.2.2.2.2.2.2.2.2.1 (by
          refine ⟨HS.out.2.2.2.2.2.2.2.2.1.1, fun i u hu => ?_⟩
          obtain ⟨ax, cx, x, q1, q2, q3⟩ := HS.out.2.2.2.2.2.2.2.2.1.2 i u hu
          exact ⟨ax, cx, x, q1, q2, Strs.below q3 C79⟩) HSZ.out.2.2.2.2.2.1 HSZ.out.2.2.2.2.2.2.2.2.2.1 C79.size
      have HC79 : Hid (Below w7.heap.size w7 w9) := C79
      clear hblk B9 C79
      go_wp2_with fail
      refine HSH.mono ?_
      rintro e w10 ⟨rfl, hHS, hMF⟩
      clear HSH
      have C710 : Below w7.heap.size w7 w10 := HC79.out.trans hMF.1
      have HH10 : Hid ((∃ B, HeldS w10 w7.heap.size w7.heap.size b (pk ids rp) (pk ids ld) (pkF ids fk fc) (stRun PS.zero (ls.zip RS)) B none) ∧ Below w7.heap.size w7 w10) := ⟨hHS, C710⟩
      clear hHS hMF HH8 HC79
      have HTL := tally_any d0 d1 d2 d3 d4 d5 d6 n0 k0 k1 k2 k3 k4 n5 k5 k6 ids rp ld fk fc ls RS (ids ++ ls ++ fk.flatten ++ RS.flatten) w10 (Strs.below HS.out.1 C710) (Ints.below HS.out.2.1 C710) (Ints.below HS.out.2.2.1 C710) (Nest.below HS.out.2.2.2.1 C710) (Slc.below HS.out.2.2.2.2.1 C710 (fun _ _ h => Ints.below h C710)) (Strs.below HS.out.2.2.2.2.2.1 C710) (Nest.below HS.out.2.2.2.2.2.2.1 C710) HSZ.out.1 HSZ.out.2.2.2.2.2.2.2.1 HSZ.out.2.2.2.2.2.1 HSZ.out.2.2.2.2.2.2.2.2.2.1 HFIT.out HSZ.out.2.2.2.2.2.2.2.2.2.2
        (fun x hx => by simp [hx]) (fun l hl x hx => by simp only [List.mem_append, List.mem_flatten]; exact .inl (.inr ⟨l, hl, hx⟩)) (fun x hx => by simp [hx]) (fun l hl x hx => by simp only [List.mem_append, List.mem_flatten]; exact .inr ⟨l, hl, hx⟩)
      clear C710
      go_wp2_with fail
      refine HTL.mono ?_
      rintro e w11 ⟨gm, rfl, s, hT, hS⟩
      clear HTL
      have HMI : ∃ B, MI w10 w11 w11 gm (ids ++ ls ++ fk.flatten ++ RS.flatten) s w7.heap.size w7.heap.size b B := by
        obtain ⟨B, hB⟩ := HH10.out.1
        refine ⟨B, hT, ?_, Below.refl _ _⟩
        obtain ⟨z1, z2, z3, z4, z5, z6⟩ := hS
        rw [z1, z2, z3, z4, z5, z6]
        exact HeldC.later hB hT.below
      obtain ⟨B, hMI⟩ := HMI
      have HMT := matches_any w10 w11 gm _ s w7.heap.size w7.heap.size b B hMI HSZ.out.2.2.2.2.2.2.2.2.2.2
      have HBW : Hid (Below w.heap.size w w11) := by
        have c1 := HS.out.2.2.2.2.2.2.2.2.2.2
        have c2 := c1.trans (HH10.out.2.mono c1.size)
        exact c2.trans (hT.below.mono c2.size)
      clear hT hS hMI
      go_wp2_with fail
      refine HMT.mono ?_
      rintro e w12 ⟨rfl, B12⟩
      go_wp2
      go_ret
      exact ⟨rfl, HBW.out.trans (B12.mono HBW.out.size)⟩

end Go.Proofs.Qxb6603051a
