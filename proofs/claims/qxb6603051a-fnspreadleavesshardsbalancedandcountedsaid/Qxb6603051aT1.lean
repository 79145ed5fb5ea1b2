/-
  Seat b6603051a: FnSpreadTwiceIsOnce (6).
-/
import Derived.Test.Qxb6603051aH3
namespace Go.Proofs.Qxb6603051a
open Go.RowKit
set_option linter.unusedVariables false
set_option linter.unusedSimpArgs false

theorem sum_mem_le : ∀ {l : List Nat} {x : Nat}, x ∈ l → x ≤ l.sum
  | [], x, h => by cases h
  | y :: l, x, h => by
    simp only [List.sum_cons]
    cases h with
    | head => omega
    | tail _ h => have := sum_mem_le h; omega

theorem spread_bounds {live leaders : List ByteArray} {reps : List (List ByteArray)} {ml nD nC : Nat} (h : szS live + ml * 24 + nD * 8 + nC + szS leaders + szN reps ≤ 1048576) :
    live.length ≤ 65536 ∧ ml ≤ 65536 ∧ nD ≤ 131072 ∧ nC ≤ 1048576 ∧ leaders.length ≤ 65536 ∧ reps.length ≤ 65536 ∧ ∀ rs ∈ reps, rs.length ≤ 1048576 := by
  have h1 : szN reps = 24 * reps.length + (reps.map szS).sum := rfl
  have h2 : szS live = 16 * live.length + (live.map ByteArray.size).sum := rfl
  have h3 : szS leaders = 16 * leaders.length + (leaders.map ByteArray.size).sum := rfl
  refine ⟨by omega, by omega, by omega, by omega, by omega, by omega, fun rs hrs => ?_⟩
  have h4 := sum_mem_le (List.mem_map.2 ⟨rs, hrs, rfl⟩ : szS rs ∈ reps.map szS)
  have h5 : szS rs = 16 * rs.length + (rs.map ByteArray.size).sum := rfl
  omega

theorem rr_of_clone {w : World} {us : List Value} {RS : List (List ByteArray)} {n base : Nat} (hl : us.length = n) (hr : RS.length = n) (h : ∀ i : Nat, ∀ u, us[i]? = some u → ∃ x, RS[i]? = some x ∧ w.ownsRow base 9 1 u x.length (x.map Value.string)) (hb : ∀ rs ∈ RS, rs.length ≤ 1048576) : RR w us RS := by
  refine ⟨by omega, fun i u hu => ?_⟩
  obtain ⟨x, h1, h2⟩ := h i u hu
  exact ⟨x, h1, own_mono h2 (Nat.zero_le _), hb x (List.mem_of_getElem? h1)⟩

theorem RR.below {w w' : World} {us : List Value} {RS : List (List ByteArray)} (h : RR w us RS) (hb : Below w.heap.size w w') : RR w' us RS :=
  ⟨h.1, fun i u hu => by obtain ⟨x, h1, h2, h3⟩ := h.2 i u hu; exact ⟨x, h1, own_below h2 hb, h3⟩⟩

theorem RR.shapes {w : World} {us : List Value} {RS : List (List ByteArray)} (h : RR w us RS) : ∀ u ∈ us, ∃ a l c, u = .slice a l c := by
  intro u hu
  obtain ⟨i, hi, rfl⟩ := List.getElem_of_mem hu
  obtain ⟨x, _, h2, _⟩ := h.2 i _ (List.getElem?_eq_getElem hi)
  obtain ⟨a, c, hv, _⟩ := own_shape h2
  exact ⟨a, _, c, hv⟩

theorem settled_of_inv2 {live : List ByteArray} {closed : List Bool} {RS : List (List ByteArray)} {D0 : List Int} {L0 : List ByteArray} {lo hi : Int} {D : List Int} {L : List ByteArray}
    (h : Inv2 live closed RS D0 L0 lo hi D L) (hst : ∀ k, k < L.length → targetF live closed D (L.getD k ByteArray.empty) (RS.getD k []) = none) : Settled live closed RS D L := by
  intro k hk
  refine ⟨?_, hst k hk⟩
  have hc := h.2.2.1 k hk
  unfold leadF
  cases hi : idx live (L.getD k ByteArray.empty) with
  | some f => rfl
  | none =>
    obtain ⟨e1, e2, e3⟩ := hc.1 hi
    simp only
    rw [best_none_of e3]
    simp only
    rw [e1]

set_option maxRecDepth 100000 in
set_option maxHeartbeats 4000000 in
theorem twice_any (a0 aD aC aS aN : Option Addr) (n c0 nD cD nC cC nS cS nN cN : Nat) (ro : Option Nat) (ml : Nat) (zf : ByteArray → Int) (okf : ByteArray → Bool) (live leaders : List ByteArray) (leads : List Int) (closed : List Bool) (reps : List (List ByteArray)) (w : World)
    (h0 : Strs w (.slice a0 n c0) live) (hD : Ints w (.slice aD nD cD) leads) (hC : Bools w (.slice aC nC cC) closed) (hm : MapArg w ro ml zf okf) (hok : okS live) (hn : n ≤ 9223372036854775807) (hnD : nD ≤ 9223372036854775807) (hnC : nC ≤ 9223372036854775807) (hml : ml ≤ 9223372036854775807)
    (hS : Strs w (.slice aS nS cS) leaders) (hokS : okS leaders) (hnS : nS ≤ 9223372036854775807) (hN : Nest w (.slice aN nN cN) reps) (hokN : okN reps) (hnN : nN ≤ 9223372036854775807) :
    Calls Try.prog 6 #[.slice a0 n c0, .map ro, .slice aD nD cD, .slice aC nC cC, .slice aS nS cS, .slice aN nN cN] w fun e w' => e = .returned (.bool true) ∧ Below w.heap.size w w' := by
  have HL : Hid (live.length = n ∧ leads.length = nD ∧ closed.length = nC ∧ leaders.length = nS ∧ reps.length = nN) := ⟨h0.len.1, hD.len.1, hC.len.1, hS.len.1, hN.len.1⟩
  go_enter Try.func6, Try.ntmps6
  go_wp2_with fail
  refine (spreadBytes_any a0 aD aC aS aN n c0 nD cD nC cC nS cS nN cN ro ml zf okf live leaders reps _ h0 hm hok hn hnD hnC hml hS hokS hnS hN hokN hnN).mono ?_
  rintro e w' ⟨⟨v, rfl, hv⟩, rfl⟩
  by_cases hbig : 1048576 < v
  · clear hv h0 hD hC hm hok hS hokS hN hokN
    go_wp2
    go_ret
    exact ⟨rfl, Below.refl _ _⟩
  have hsum : szS live + ml * 24 + nD * 8 + nC + szS leaders + szN reps ≤ 1048576 := by
    have := hv.2.2 (by omega)
    omega
  obtain ⟨b1, b2, b3, b4, b5, b6, b7⟩ := spread_bounds hsum
  clear hv hsum
  have hn' : n ≤ 65536 := by have := HL.out.1; omega
  have hnS' : nS ≤ 65536 := by have := HL.out.2.2.2.1; omega
  have hnN' : nN ≤ 65536 := by have := HL.out.2.2.2.2; omega
  clear hn hnS hnN hml hnD hnC
  by_cases h4096 : 4096 < nS
  · clear h0 hD hC hm hok hS hokS hN hokN
    go_wp2
    go_ret
    exact ⟨rfl, Below.refl _ _⟩
  by_cases hSN : nS = nN
  case neg =>
    have hSN' : ((nS : Int) != (nN : Int)) = true := by
      have : ¬ (nS : Int) = (nN : Int) := by omega
      simpa using this
    clear h0 hD hC hm hok hS hokS hN hokN
    go_wp2
    go_ret
    exact ⟨rfl, Below.refl _ _⟩
  subst hSN
  go_wp2_with fail
  refine (loadsFit_any a0 aD aC n c0 nD cD nC cC ro ml zf okf live leads closed _ h0 hD hC hm (by omega) (by omega) (by omega) (by omega) hok).mono ?_
  rintro e w' ⟨⟨b, rfl, hfit⟩, md, rfl⟩
  cases b with
  | false =>
    clear h0 hD hC hm hok hS hokS hN hokN hfit
    go_wp2
    go_ret
    exact ⟨rfl, below_drewN (Below.refl _ _) _⟩
  | true =>
    obtain ⟨f1, f2, f3, f4⟩ := hfit rfl
    have g0 : Strs (w.drewN md) (.slice a0 n c0) live := h0
    have gD : Ints (w.drewN md) (.slice aD nD cD) leads := hD
    have gC : Bools (w.drewN md) (.slice aC nC cC) closed := hC
    have gS : Strs (w.drewN md) (.slice aS nS cS) leaders := hS
    have gN : Nest (w.drewN md) (.slice aN nS cN) reps := hN
    have B0 : Below w.heap.size w (w.drewN md) := below_drewN (Below.refl _ _) _
    clear h0 hD hC hm hok hS hokS hN hokN hfit
    generalize w.drewN md = w0 at *
    go_wp2_with fail
    refine (noEmpty_any a0 n c0 live _ g0 (by omega)).mono ?_
    rintro e w' ⟨⟨b, rfl, hne⟩, rfl⟩
    cases b with
    | false =>
      clear g0 gD gC gS gN hne f3 f4
      go_wp2
      go_ret
      exact ⟨rfl, B0⟩
    | true =>
      have hne2 := hne rfl
      clear hne
      -- the copies
      go_wp2_with fail
      refine (clone11_any a0 n c0 live _ g0 (by omega)).mono ?_
      rintro e w1 ⟨aL, cL, rfl, oL, B1⟩
      go_wp2_with fail
      refine (indexOf_any aL n cL live _ (own_slc9 oL) (by omega) f3.nodup).mono ?_
      rintro e w2 ⟨rfl, hidx, B2⟩
      have gD2 := Ints.below (Ints.below gD B1) B2
      have oL2 := own_below oL B2
      go_wp2_with fail
      refine (clone13_any aD nD cD leads _ gD2 (by omega)).mono ?_
      rintro e w3 ⟨aD', cD', rfl, oD, B3⟩
      have gC3 := Bools.below (Bools.below (Bools.below gC B1) B2) B3
      have oL3 := own_below oL2 B3
      go_wp2_with fail
      refine (clone14_any aC nC cC closed _ gC3 (by omega)).mono ?_
      rintro e w4 ⟨aC', cC', rfl, oC, B4⟩
      have oL4 := own_below oL3 B4
      have oD4 := own_below oD B4
      have B14 : Below w0.heap.size w0 w4 := B1.trans ((B2.mono B1.size).trans ((B3.mono (Nat.le_trans B1.size B2.size)).trans (B4.mono (Nat.le_trans B1.size (Nat.le_trans B2.size B3.size)))))
      have gS4 := Strs.below gS B14
      go_wp2_with fail
      refine (clone11_any aS nS cS leaders _ gS4 (by omega)).mono ?_
      rintro e w5 ⟨aS', cS', rfl, oS, B5⟩
      have B15 : Below w0.heap.size w0 w5 := B14.trans (B5.mono B14.size)
      have gN5 := Nest.below gN B15
      go_wp2_with fail
      refine (clone24_any aN nS cN reps _ gN5 (by omega) b7).mono ?_
      rintro e w6 ⟨aN', cN', us, rfl, oN, hus, hrr, B6⟩
      have B16 : Below w0.heap.size w0 w6 := B15.trans (B6.mono B15.size)
      have B26 : Below w2.heap.size w2 w6 := (B3.trans ((B4.mono B3.size).trans ((B5.mono (Nat.le_trans B3.size B4.size)).trans (B6.mono (Nat.le_trans B3.size (Nat.le_trans B4.size B5.size))))))
      have oL6 := own_below (own_below oL4 B5) B6
      have oD6 := own_below (own_below oD4 B5) B6
      have oC6 := own_below (own_below oC B5) B6
      have oS6 := own_below oS B6
      have hRR := rr_of_clone hus HL.out.2.2.2.2 hrr b7
      obtain ⟨mi, hmi, hmi2⟩ := hidx
      have hmi6 := hmi.below B26
      have ne1 : nD = n := by have := HL.out; omega
      have ne2 : nC = n := by have := HL.out; omega
      subst ne1
      subst ne2
      obtain ⟨sld, hsld⟩ : ∃ sld : Ld, sld = ⟨w6.heap.size, w1.heap.size, nC, cL, cD', cC', aL, aD', aC'⟩ := ⟨_, rfl⟩
      have HNL := newLoads_any w6 sld live leads closed (by rw [hsld]) (by rw [hsld]; exact own_mono oL6 (Nat.zero_le _)) (by rw [hsld]; exact own_mono oC6 (Nat.zero_le _)) (by rw [hsld]; exact ⟨mi, hmi6, hmi2⟩) (by rw [hsld]; exact own_mono oD6 (Nat.zero_le _)) (by rw [hsld]; show nC ≤ 1048576; omega)
      rw [hsld] at HNL
      simp only at HNL
      have HRG : Hid (∀ k, (Value.slice aD' nC cD').ownBlock = some k → w.heap.size ≤ k) := fun k hk => Nat.le_trans (Nat.le_trans B0.size (Nat.le_trans B1.size B2.size)) (oD6.lt k hk).1
      clear g0 gD gC gS gN gD2 oL2 gC3 oL3 oL4 oD4 gS4 gN5 oL oD oC hmi hmi6 hmi2 oL6 oD6 oC6 oS B1 B2 B3 B4 B5 B6 B14 B15 B26 hrr
      go_wp2_with fail
      refine HNL.mono ?_
      rintro e w7 ⟨rfl, hLI, B7⟩
      rw [← hsld] at hLI
      clear HNL
      go_wp2_with fail
      have oS7 := own_below oS6 B7
      have oN7 := own_below oN B7
      have hRR7 := RR.below hRR B7
      have HGL : Hid (sld.gl = w6.heap.size) := by show sld.gl = w6.heap.size; rw [hsld]
      have HSN : Hid (sld.n = nC) := by show sld.n = nC; rw [hsld]
      have hsn : sld.n ≤ 1048576 := by rw [HSN.out]; omega
      have HSL : Hid _ := hsld
      clear hsld oS6 oN hRR
      refine (build_any aS' aN' nS cS' cN' leaders us _ (own_slc9 oS7) (own_rd oN7) hus (by omega) hRR7.shapes).mono ?_
      rintro e w8 ⟨rfl, hP, B8⟩
      have hLI8 := hLI.below B8
      have hRR8 := RR.below hRR7 B8
      have oN8 := own_below oN7 B8
      have hLD : leaders.length = nS := HL.out.2.2.2.1
      have B08 : Below w.heap.size w w8 := B0.trans ((B16.mono B0.size).trans ((B7.mono (Nat.le_trans B0.size B16.size)).trans (B8.mono (Nat.le_trans B0.size (Nat.le_trans B16.size B7.size)))))
      have HLD : Hid _ := hLD
      have HUS : Hid _ := hus
      clear hLI hRR7 oN7 oS7 B0 B16 B7 hLD hus
      have HS1 := spread_any w8 sld live leads closed w7.heap.size nS nS leaders us reps 0 1073741824 hLI8 hP HLD.out HUS.out hRR8 (by omega) f3.nodup hne2 (fun x hx => f4 x hx) ⟨by omega, by omega⟩
      rw [HGL.out] at HS1
      have hrlt := hLI8.lt.2.2.2.2
      have hr3 := hLI8.row
      have HFX : Hid _ := And.intro hrlt (And.intro hr3 (And.intro B08 (And.intro hRR8 oN8)))
      clear hrlt hr3 B08 hRR8 oN8 hLI8 hP B8
      go_wp2_with fail
      refine HS1.mono ?_
      rintro e w9 ⟨D, L, rfl, hLI9, hP9, G9, hI9, hst9⟩
      clear HS1
      have HLL := loadsLeads_any w9 sld live D closed hLI9
      rw [HGL.out] at HLL
      have HI9 : Hid (_ ∧ _ ∧ _ ∧ _ ∧ _) := ⟨hLI9, hP9, G9, hI9, hst9⟩
      clear hLI9 hP9 G9 hI9 hst9
      go_wp2_with fail
      refine HLL.mono ?_
      rintro e w' ⟨rfl, rfl⟩
      clear HLL
      go_wp2_with fail
      obtain ⟨hLI9, hP9, G9, hI9, hst9⟩ := HI9.out
      refine (clone13_any sld.aD sld.n sld.cD D _ (own_slc3 hLI9.2.1) (by omega)).mono ?_
      rintro e w10 ⟨aT, cT, rfl, oT, B10⟩
      obtain ⟨hrlt, hr3, B08, hRR8, oN8⟩ := HFX.out
      have hLL : L.length = nS := by rw [hI9.2.1]; exact HLD.out
      have hcle := cShut_le live closed L
      have HS2 := spread_any w10 sld live D closed w8.heap.size nS nS L us reps (-4096) 1073750016 (hLI9.below B10) (by rw [B10.block _ (lt_of_block hP9)]; exact hP9) hLL HUS.out (RR.below (RR.grown hRR8 G9 hr3) B10) (by omega) f3.nodup hne2
        (fun x hx => by have := hI9.2.2.2.2.1 x hx; omega) ⟨by omega, by omega⟩
      rw [HGL.out] at HS2
      have oN10 : w10.ownsRow w5.heap.size 22 1 (.slice aN' nS cN') nS us := by
        refine own_below (oN8.kept G9 ?_) B10
        cases hr : (Value.slice sld.aD sld.n sld.cD).ownBlock with
        | none => cases hu : (Value.slice aN' nS cN').ownBlock <;> simp
        | some b =>
          obtain ⟨cs, f, hb⟩ := hr3 b hr
          exact .inr (fun e => own_ne oN8 hb (by decide) e.symm)
      clear hLI9 hP9 G9 hI9 hst9 hrlt hr3 B08 hRR8 oN8
      go_wp2_with fail
      refine HS2.mono ?_
      rintro e w11 ⟨D2, L2, rfl, hLI11, hP11, G11, hI11, hst11⟩
      clear HS2
      obtain ⟨hLI9, hP9, G9, hI9, hst9⟩ := HI9.out
      obtain ⟨hrlt, hr3, B08, hRR8, oN8⟩ := HFX.out
      obtain ⟨rfl, rfl⟩ := hI11.2.2.2.2.2 (settled_of_inv2 hI9 hst9)
      have hLI10 := hLI9.below B10
      have hr310 := hLI10.row
      have hrge : ∀ b, (Value.slice sld.aD sld.n sld.cD).ownBlock = some b → w.heap.size ≤ b := by rw [HSL.out]; exact HRG.out
      have hrow9 : ∀ b, (Value.slice sld.aD sld.n sld.cD).ownBlock = some b → b < w8.heap.size := hrlt
      have hs810 : w8.heap.size < w10.heap.size := Nat.lt_of_lt_of_le (lt_of_block hP9) B10.size
      have hP8 : w11.heap[w8.heap.size]? = some (.cells (flatP (L2.zip us)).toArray 35 (0, 0)) := by
        rw [G11.block _ hs810 (fun e => by have := hrow9 _ e.symm; omega), B10.block _ (lt_of_block hP9)]; exact hP9
      have oN11 : w11.ownsRow w5.heap.size 22 1 (.slice aN' nS cN') nS us := by
        refine oN10.kept G11 ?_
        cases hr : (Value.slice sld.aD sld.n sld.cD).ownBlock with
        | none => cases hu : (Value.slice aN' nS cN').ownBlock <;> simp
        | some b =>
          obtain ⟨cs, f, hb⟩ := hr310 b hr
          exact .inr (fun e => own_ne oN10 hb (by decide) e.symm)
      have oT11 : w11.ownsRow w9.heap.size 3 1 (.slice aT sld.n cT) sld.n (D2.map (Value.int .i64)) := by
        refine oT.kept G11 ?_
        cases hr : (Value.slice sld.aD sld.n sld.cD).ownBlock with
        | none => cases hu : (Value.slice aT sld.n cT).ownBlock <;> simp
        | some b =>
          refine .inr (fun e => ?_)
          have q1 := (oT.lt b e).1
          have q2 := hrow9 b hr
          have q3 := G9.size
          omega
      have hRR11 : RR w11 us reps := RR.grown (RR.below (RR.grown hRR8 G9 hr3) B10) G11 hr310
      have BF : Below w.heap.size w w11 := by
        have b9 : Below w.heap.size w w9 := B08.grown G9 B08.size hrge
        have b10 : Below w.heap.size w w10 := b9.trans (B10.mono b9.size)
        exact b10.grown G11 b10.size hrge
      have i11 := own_slc3 hLI11.2.1
      have iT := own_slc3 oT11
      have HLL := fun mm => loadsLeads_any (w11.drewN mm) sld live D2 closed (hLI11.drewN mm)
      rw [HGL.out] at HLL
      have HFN : Hid (Ints w11 (.slice sld.aD sld.n sld.cD) D2 ∧ Ints w11 (.slice aT sld.n cT) D2 ∧ Below w.heap.size w w11 ∧ RR w11 us reps ∧ Rd w11 aN' us ∧ w11.heap[w8.heap.size]? = some (.cells (flatP (L2.zip us)).toArray 35 (0, 0)) ∧ w11.heap[w10.heap.size]? = some (.cells (flatP (L2.zip us)).toArray 35 (0, 0))) :=
        ⟨i11, iT, BF, hRR11, own_rd oN11, hP8, hP11⟩
      have HLL2 : Hid (L2.length = nS) := by show L2.length = nS; rw [hI9.2.1]; exact HLD.out
      clear hLI9 hP9 G9 hI9 hst9 hrlt hr3 B08 hRR8 oN8 hLI10 hr310 hrge hrow9 hs810 hP8 oN11 oT11 hRR11 BF i11 iT hLI11 hP11 G11 hI11 hst11 oT B10 oN10 HI9 HFX HRG HSL hLL hcle
      go_wp2_with fail
      go_loopw [17] (fun i wr => ∃ k : Nat, k ≤ nS ∧ i = .int .i64 k ∧ ∃ m, wr = w11.drewN m) (fun i _ => nS - (intOf i).toNat)
      case atStart => exact ⟨0, Nat.zero_le _, rfl, 0, rfl⟩
      case round =>
        obtain ⟨k, hk, rfl, m, hwr⟩ := hrel
        by_cases hlt : k < nS
        · obtain ⟨q1, q2, q3, q4, q5, q6, q7⟩ := HFN.out
          have hkL : k < L2.length := by rw [HLL2.out]; exact hlt
          have hku : k < us.length := by rw [HUS.out]; exact hlt
          obtain ⟨p0, p1⟩ := place_cells q6 (zip_get hkL hku)
          obtain ⟨p2, p3⟩ := place_cells q7 (zip_get hkL hku)
          obtain ⟨aR, cR, hus, hStr, hsm⟩ := q4.at hku
          obtain ⟨bN, oN, hbN, hcN⟩ := q5.at hku
          rw [hus] at p1 p3 hcN
          have p0' : (w11.drewN m).cell? ⟨w8.heap.size, k * 2, none⟩ = some (.string L2[k]) := p0
          have p2' : (w11.drewN m).cell? ⟨w10.heap.size, k * 2, none⟩ = some (.string L2[k]) := p2
          have p3' : (w11.drewN m).cell? ⟨w10.heap.size, k * 2 + 1, none⟩ = some (.slice aR (reps.getD k []).length cR) := p3
          have hcN' : (w11.drewN m).cell? ⟨bN, oN + k, none⟩ = some (.slice aR (reps.getD k []).length cR) := hcN
          have hStr' : Strs (w11.drewN m) (.slice aR (reps.getD k []).length cR) (reps.getD k []) := hStr
          rw [← hwr] at p0' p2' p3' hcN' hStr'
          subst hbN
          have HW : Hid _ := hwr
          have HCS := fun nq => Calls.quiet_of (sameStrs_any aR (reps.getD k []).length cR (reps.getD k []) (wr.drewN nq) (show Strs (wr.drewN nq) _ _ from hStr') hsm)
          have i1 : (k : Int) < (nS : Int) := by omega
          clear q1 q2 q3 q4 q5 q6 q7 p0 p1 p2 p3 hus hStr hcN hwr hStr' HLL f3 f4 hne2
          go_wp2_with fail
          go_quiet ((go_at_call 19; exact HCS _))
          go_wp2
          go_roundw
          case rel => exact ⟨k + 1, by omega, by go_num, _, by rw [HW.out]; exact World.drewN_drewN _ _ _⟩
          case measure => simp [intOf]; omega
        · obtain ⟨q1, q2, q3, q4, q5, q6, q7⟩ := HFN.out
          subst hwr
          have HSI := sameInts_any sld.aD aT sld.n sld.cD cT D2 (w11.drewN m) q1 q2 hsn
          have HB : Hid _ := q3
          clear q1 q2 q3 q4 q5 q6 q7 f3 f4 hne2
          go_wp2_with fail
          refine (HLL _).mono ?_
          rintro e w' ⟨rfl, rfl⟩
          go_wp2_with fail
          refine HSI.mono ?_
          rintro e w' ⟨rfl, mm, rfl⟩
          go_wp2
          go_ret
          exact ⟨rfl, below_drewN HB.out _⟩

end Go.Proofs.Qxb6603051a
