/-
  Seat b6603051a: FnSpreadLeavesShardsBalancedAndCounted (5).
-/
import Derived.Test.Qxb6603051aT1
namespace Go.Proofs.Qxb6603051a
open Go.RowKit
set_option linter.unusedVariables false
set_option linter.unusedSimpArgs false

/-- What a settled shard's leader f means for each open live replica. -/
theorem stable_open {live : List ByteArray} {closed : List Bool} {D : List Int} {l : ByteArray} {rs : List ByteArray} {f : Nat} (h : targetF live closed D l rs = none) (hf : idx live l = some f) :
    ∀ id ∈ rs, ∀ a, idx live id = some a → closed.getD a false = false → closed.getD f false = false ∧ D.getD f 0 - D.getD a 0 < 2 := by
  intro id hid a ha hc
  unfold targetF at h
  rw [hf] at h
  simp only at h
  cases ht : top live D closed rs with
  | none => have := top_none ht id hid a ha; rw [hc] at this; cases this
  | some t =>
    rw [ht] at h
    simp only at h
    split at h
    · rename_i hh
      simp only [Bool.and_eq_true, Bool.not_eq_true', decide_eq_true_eq] at hh
      have := (top_some ht).2 id hid a ha hc
      exact ⟨hh.1, by omega⟩
    · cases h

/-- Is one of the first k replicas live? -/
def anyL (live : List ByteArray) (rs : List ByteArray) (k : Nat) : Bool := (rs.take k).any fun id => (idx live id).isSome

theorem anyL_succ {live rs : List ByteArray} {k : Nat} (h : k < rs.length) : anyL live rs (k + 1) = (anyL live rs k || (idx live rs[k]).isSome) := by
  unfold anyL
  rw [List.take_succ_eq_append_getElem h, List.any_append]
  simp only [List.any_cons, List.any_nil, Bool.or_false]

/-- The facts that stand while the counts are taken. -/
def LF (wx : World) (aL aS aN aC : Option Addr) (cL cS cC n N gO : Nat) (fin : Value) (live L0 L : List ByteArray) (us : List Value) (RS : List (List ByteArray)) (closed : List Bool) (D : List Int) : Prop :=
  Strs wx (.slice aL n cL) live ∧ Strs wx (.slice aS N cS) L0 ∧ Rd wx aN us ∧ RR wx us RS ∧ wx.heap[gO]? = some (.cells (flatP (L.zip us)).toArray 35 (0, 0)) ∧ Ints wx fin D ∧ Bools wx (.slice aC n cC) closed

theorem LF.below {wx wy : World} {aL aS aN aC : Option Addr} {cL cS cC n N gO : Nat} {fin : Value} {live L0 L : List ByteArray} {us : List Value} {RS : List (List ByteArray)} {closed : List Bool} {D : List Int}
    (h : LF wx aL aS aN aC cL cS cC n N gO fin live L0 L us RS closed D) (hb : Below wx.heap.size wx wy) : LF wy aL aS aN aC cL cS cC n N gO fin live L0 L us RS closed D := by
  obtain ⟨h1, h2, h3, h4, h5, h6, h7⟩ := h
  exact ⟨Strs.below h1 hb, Strs.below h2 hb, h3.below hb, h4.below hb, by rw [hb.block _ (lt_of_block h5)]; exact h5, Ints.below h6 hb, Bools.below h7 hb⟩

/-- The counts as far as shard k. -/
def WantAt (live L0 L : List ByteArray) (D0 : List Int) (k : Nat) (W : List Int) : Prop := W.length = D0.length ∧ ∀ i, i < D0.length → W.getD i 0 = D0.getD i 0 - cnt live (L0.take k) i + cnt live (L.take k) i

theorem cnt_nonneg (live L : List ByteArray) (i : Nat) : 0 ≤ cnt live L i ∧ cnt live L i ≤ L.length := by
  unfold cnt
  have := List.length_filter_le (fun l => decide (idx live l = some i)) L
  omega

theorem cnt_take_succ (live L : List ByteArray) (k i : Nat) (h : k < L.length) : cnt live (L.take (k + 1)) i = cnt live (L.take k) i + (if idx live L[k] = some i then 1 else 0) := by
  rw [List.take_succ_eq_append_getElem h, cnt_snoc]

/-- An owned row of integers: the cell at i, and the row behind a store there. -/
theorem ints_own {w : World} {base n c : Nat} {a : Option Addr} {zs : List Int} (h : w.ownsRow base 3 1 (.slice a n c) n (zs.map (Value.int .i64))) {i : Nat} (hi : i < n) :
    ∃ b, a = some ⟨b, 0, none⟩ ∧ base ≤ b ∧ w.cell? ⟨b, i, none⟩ = some (.int .i64 (zs.getD i 0)) ∧ w.frozen? ⟨b, i, none⟩ = false ∧ ∀ z, (w.setCell ⟨b, i, none⟩ (.int .i64 z)).ownsRow base 3 1 (.slice a n c) n ((zs.set i z).map (Value.int .i64)) := by
  have hl : zs.length = n := by simpa using h.1
  rcases h.2 with ⟨_, hn⟩ | ⟨g, cap, cur, hv, hb, hg, _⟩
  · omega
  · simp only [Value.slice.injEq] at hv
    obtain ⟨hv1, _, hv3⟩ := hv
    refine ⟨g, hv1, hb, ?_, by simp [World.frozen?, hg], fun z => ?_⟩
    · obtain ⟨b, off, h1, h2⟩ := (own_rd h) i (.int .i64 (zs.getD i 0)) (by simp [show i < zs.length by omega])
      rw [hv1] at h1
      simp only [Option.some.injEq, Addr.mk.injEq] at h1
      obtain ⟨rfl, rfl, _⟩ := h1
      simpa using h2
    · rw [hv1] at h ⊢
      have := (h.stored i (.int .i64 z)).1
      rw [← List.map_set] at this
      exact this

theorem want_bound {live L0 L : List ByteArray} {D0 : List Int} {k : Nat} {W : List Int} (h : WantAt live L0 L D0 k W) (h0 : L0.length ≤ 4096) (h1 : L.length ≤ 4096) (hb : ∀ x ∈ D0, 0 ≤ x ∧ x ≤ 1073741824) (i : Nat) (hi : i < D0.length) :
    -1073741824 ≤ W.getD i 0 ∧ W.getD i 0 ≤ 2147479552 := by
  rw [h.2 i hi]
  have a := cnt_nonneg live (L0.take k) i
  have b := cnt_nonneg live (L.take k) i
  have c := hb (D0.getD i 0) (getD_mem hi)
  have d := List.length_take_le k L0
  have e := List.length_take_le' k L0
  have f := List.length_take_le' k L
  omega

theorem want_none {live L0 L : List ByteArray} {D0 : List Int} {k : Nat} {W : List Int} (h : WantAt live L0 L D0 k W) (h0 : k < L0.length) (h1 : k < L.length) (e0 : idx live L0[k] = none) (e1 : idx live L[k] = none) : WantAt live L0 L D0 (k + 1) W := by
  refine ⟨h.1, fun i hi => ?_⟩
  rw [h.2 i hi, cnt_take_succ live L0 k i h0, cnt_take_succ live L k i h1, e0, e1]
  simp

theorem want_up {live L0 L : List ByteArray} {D0 : List Int} {k f : Nat} {W : List Int} (h : WantAt live L0 L D0 k W) (h0 : k < L0.length) (h1 : k < L.length) (hf : f < D0.length) (e0 : idx live L0[k] = none) (e1 : idx live L[k] = some f) :
    WantAt live L0 L D0 (k + 1) (W.set f (W.getD f 0 + 1)) := by
  refine ⟨by simpa using h.1, fun i hi => ?_⟩
  rw [getD_set _ _ _ _ (by rw [h.1]; exact hf), cnt_take_succ live L0 k i h0, cnt_take_succ live L k i h1, e0, e1]
  have a := h.2 i hi
  by_cases e : f = i
  · subst e; simp only [if_true, if_false, reduceCtorEq, ↓reduceIte]; omega
  · simp only [if_true, if_false, reduceCtorEq, ↓reduceIte, Option.some.injEq, e]; omega

theorem want_move {live L0 L : List ByteArray} {D0 : List Int} {k g f : Nat} {W : List Int} (h : WantAt live L0 L D0 k W) (h0 : k < L0.length) (h1 : k < L.length) (hg : g < D0.length) (hf : f < D0.length) (e0 : idx live L0[k] = some g) (e1 : idx live L[k] = some f) :
    WantAt live L0 L D0 (k + 1) ((W.set g (W.getD g 0 - 1)).set f ((W.set g (W.getD g 0 - 1)).getD f 0 + 1)) := by
  refine ⟨by simpa using h.1, fun i hi => ?_⟩
  rw [getD_set _ _ _ _ (by simp [h.1]; exact hf), getD_set _ _ _ _ (by rw [h.1]; exact hg), getD_set _ _ _ _ (by rw [h.1]; exact hg), cnt_take_succ live L0 k i h0, cnt_take_succ live L k i h1, e0, e1]
  have a := h.2 i hi
  have b := h.2 f hf
  by_cases ef : f = i
  · subst ef
    by_cases eg : g = f
    · subst eg; simp only [if_true, if_false, reduceCtorEq, ↓reduceIte]; omega
    · simp only [if_true, if_false, reduceCtorEq, ↓reduceIte, Option.some.injEq, eg]; omega
  · by_cases eg : g = i
    · subst eg; simp only [if_true, if_false, reduceCtorEq, ↓reduceIte, Option.some.injEq, ef]; omega
    · simp only [if_true, if_false, reduceCtorEq, ↓reduceIte, Option.some.injEq, ef, eg]; omega

theorem want_done {live L0 L : List ByteArray} {D0 D : List Int} {W : List Int} {k : Nat} (h : WantAt live L0 L D0 k W) (h0 : L0.length = k) (h1 : L.length = k) (hl : D.length = D0.length) (hD : ∀ i, i < D0.length → D.getD i 0 = D0.getD i 0 - cnt live L0 i + cnt live L i) : W = D := by
  have e0 : L0.take k = L0 := List.take_of_length_le (by omega)
  have e1 : L.take k = L := List.take_of_length_le (by omega)
  apply List.ext_getElem
  · rw [h.1, hl]
  · intro i hi1 hi2
    have a := h.2 i (by rw [← h.1]; exact hi1)
    have b := hD i (by rw [← h.1]; exact hi1)
    rw [e0, e1, ← b] at a
    simpa [hi1, hi2] using a

theorem kept_ne {w w' : World} {base e n : Nat} {v : Value} {xs : List Value} {row : Option Nat} (h : w.ownsRow base e 1 v n xs) (hg : w.grownBy w' row) (hr3 : ∀ b, row = some b → ∃ cs f, w.heap[b]? = some (.cells cs 3 f)) (hne : e ≠ 3) : w'.ownsRow base e 1 v n xs := by
  refine h.kept hg ?_
  cases hr : row with
  | none => cases hu : v.ownBlock <;> simp
  | some b =>
    obtain ⟨cs, f, hb⟩ := hr3 b hr
    exact .inr (fun q => own_ne h hb hne q.symm)

set_option maxRecDepth 100000 in
set_option maxHeartbeats 4000000 in
theorem leaves_any (a0 aD aC aS aN : Option Addr) (n c0 nD cD nC cC nS cS nN cN : Nat) (ro : Option Nat) (ml : Nat) (zf : ByteArray → Int) (okf : ByteArray → Bool) (live leaders : List ByteArray) (leads : List Int) (closed : List Bool) (reps : List (List ByteArray)) (w : World)
    (h0 : Strs w (.slice a0 n c0) live) (hD : Ints w (.slice aD nD cD) leads) (hC : Bools w (.slice aC nC cC) closed) (hm : MapArg w ro ml zf okf) (hok : okS live) (hn : n ≤ 9223372036854775807) (hnD : nD ≤ 9223372036854775807) (hnC : nC ≤ 9223372036854775807) (hml : ml ≤ 9223372036854775807)
    (hS : Strs w (.slice aS nS cS) leaders) (hokS : okS leaders) (hnS : nS ≤ 9223372036854775807) (hN : Nest w (.slice aN nN cN) reps) (hokN : okN reps) (hnN : nN ≤ 9223372036854775807) :
    Calls Try.prog 5 #[.slice a0 n c0, .map ro, .slice aD nD cD, .slice aC nC cC, .slice aS nS cS, .slice aN nN cN] w fun e w' => e = .returned (.bool true) ∧ Below w.heap.size w w' := by
  have HL : Hid (live.length = n ∧ leads.length = nD ∧ closed.length = nC ∧ leaders.length = nS ∧ reps.length = nN) := ⟨h0.len.1, hD.len.1, hC.len.1, hS.len.1, hN.len.1⟩
  go_enter Try.func5, Try.ntmps5
  go_wp2_with fail
  refine (spreadBytes_any a0 aD aC aS aN n c0 nD cD nC cC nS cS nN cN ro ml zf okf live leaders reps _ h0 hm hok hn hnD hnC hml hS hokS hnS hN hokN hnN).mono ?_
  rintro e w' ⟨⟨v, rfl, hv⟩, rfl⟩
  by_cases hbig : 1048576 < v
  · clear hv h0 hD hC hm hok hS hokS hN hokN
    go_wp2
    go_ret
    exact ⟨rfl, Below.refl _ _⟩
  have hsum : szS live + ml * 24 + nD * 8 + nC + szS leaders + szN reps ≤ 1048576 := by
    have := hv.2.2 (by omega)
    omega
  obtain ⟨b1, b2, b3, b4, b5, b6, b7⟩ := spread_bounds hsum
  clear hv hsum
  have hn' : n ≤ 65536 := by have := HL.out.1; omega
  have hnS' : nS ≤ 65536 := by have := HL.out.2.2.2.1; omega
  have hnN' : nN ≤ 65536 := by have := HL.out.2.2.2.2; omega
  clear hn hnS hnN hml hnD hnC
  by_cases h4096 : 4096 < nS
  · clear h0 hD hC hm hok hS hokS hN hokN
    go_wp2
    go_ret
    exact ⟨rfl, Below.refl _ _⟩
  by_cases hSN : nS = nN
  case neg =>
    have hSN' : ((nS : Int) != (nN : Int)) = true := by
      have : ¬ (nS : Int) = (nN : Int) := by omega
      simpa using this
    clear h0 hD hC hm hok hS hokS hN hokN
    go_wp2
    go_ret
    exact ⟨rfl, Below.refl _ _⟩
  subst hSN
  go_wp2_with fail
  refine (loadsFit_any a0 aD aC n c0 nD cD nC cC ro ml zf okf live leads closed _ h0 hD hC hm (by omega) (by omega) (by omega) (by omega) hok).mono ?_
  rintro e w' ⟨⟨b, rfl, hfit⟩, md, rfl⟩
  cases b with
  | false =>
    clear h0 hD hC hm hok hS hokS hN hokN hfit
    go_wp2
    go_ret
    exact ⟨rfl, below_drewN (Below.refl _ _) _⟩
  | true =>
    obtain ⟨f1, f2, f3, f4⟩ := hfit rfl
    have g0 : Strs (w.drewN md) (.slice a0 n c0) live := h0
    have gD : Ints (w.drewN md) (.slice aD nD cD) leads := hD
    have gC : Bools (w.drewN md) (.slice aC nC cC) closed := hC
    have gS : Strs (w.drewN md) (.slice aS nS cS) leaders := hS
    have gN : Nest (w.drewN md) (.slice aN nS cN) reps := hN
    have B0 : Below w.heap.size w (w.drewN md) := below_drewN (Below.refl _ _) _
    have HOK : Hid (okS live ∧ okS leaders ∧ okN reps) := ⟨hok, hokS, hokN⟩
    clear h0 hD hC hm hok hS hokS hN hokN hfit
    generalize w.drewN md = w0 at *
    go_wp2_with fail
    refine (noEmpty_any a0 n c0 live _ g0 (by omega)).mono ?_
    rintro e w' ⟨⟨b, rfl, hne⟩, rfl⟩
    cases b with
    | false =>
      clear g0 gD gC gS gN hne f3 f4
      go_wp2
      go_ret
      exact ⟨rfl, B0⟩
    | true =>
      have hne2 := hne rfl
      clear hne
      -- the copies
      go_wp2_with fail
      refine (clone11_any a0 n c0 live _ g0 (by omega)).mono ?_
      rintro e w1 ⟨aL, cL, rfl, oL, B1⟩
      go_wp2_with fail
      refine (indexOf_any aL n cL live _ (own_slc9 oL) (by omega) f3.nodup).mono ?_
      rintro e w2 ⟨rfl, hidx, B2⟩
      have gD2 := Ints.below (Ints.below gD B1) B2
      have oL2 := own_below oL B2
      go_wp2_with fail
      refine (clone13_any aD nD cD leads _ gD2 (by omega)).mono ?_
      rintro e w3 ⟨aD', cD', rfl, oD, B3⟩
      have gC3 := Bools.below (Bools.below (Bools.below gC B1) B2) B3
      have oL3 := own_below oL2 B3
      go_wp2_with fail
      refine (clone14_any aC nC cC closed _ gC3 (by omega)).mono ?_
      rintro e w4 ⟨aC', cC', rfl, oC, B4⟩
      have oL4 := own_below oL3 B4
      have oD4 := own_below oD B4
      have B14 : Below w0.heap.size w0 w4 := B1.trans ((B2.mono B1.size).trans ((B3.mono (Nat.le_trans B1.size B2.size)).trans (B4.mono (Nat.le_trans B1.size (Nat.le_trans B2.size B3.size)))))
      have gS4 := Strs.below gS B14
      go_wp2_with fail
      refine (clone11_any aS nS cS leaders _ gS4 (by omega)).mono ?_
      rintro e w5 ⟨aS', cS', rfl, oS, B5⟩
      have B15 : Below w0.heap.size w0 w5 := B14.trans (B5.mono B14.size)
      have gN5 := Nest.below gN B15
      go_wp2_with fail
      refine (clone24_any aN nS cN reps _ gN5 (by omega) b7).mono ?_
      rintro e w6a ⟨aN', cN', us, rfl, oNa, hus, hrra, B6a⟩
      have oD6a := own_below (own_below oD4 B5) B6a
      go_wp2_with fail
      refine (clone13_any aD' nD cD' leads _ (own_slc3 oD6a) (by omega)).mono ?_
      rintro e w6 ⟨aB, cB, rfl, oB, B6b⟩
      have B6 : Below w5.heap.size w5 w6 := B6a.trans (B6b.mono B6a.size)
      have oN := own_below oNa B6b
      have hrr : ∀ i : Nat, ∀ u, us[i]? = some u → ∃ x, reps[i]? = some x ∧ w6.ownsRow (w5.heap.size + 1) 9 1 u x.length (x.map Value.string) := fun i u hu => by obtain ⟨x, q1, q2⟩ := hrra i u hu; exact ⟨x, q1, own_below q2 B6b⟩
      have B16 : Below w0.heap.size w0 w6 := B15.trans (B6.mono B15.size)
      have B26 : Below w2.heap.size w2 w6 := (B3.trans ((B4.mono B3.size).trans ((B5.mono (Nat.le_trans B3.size B4.size)).trans (B6.mono (Nat.le_trans B3.size (Nat.le_trans B4.size B5.size))))))
      have oL6 := own_below (own_below oL4 B5) B6
      have oD6 := own_below (own_below oD4 B5) B6
      have oC6 := own_below (own_below oC B5) B6
      have oS6 := own_below oS B6
      have hRR := rr_of_clone hus HL.out.2.2.2.2 hrr b7
      obtain ⟨mi, hmi, hmi2⟩ := hidx
      have hmi6 := hmi.below B26
      have ne1 : nD = n := by have := HL.out; omega
      have ne2 : nC = n := by have := HL.out; omega
      subst ne1
      subst ne2
      obtain ⟨sld, hsld⟩ : ∃ sld : Ld, sld = ⟨w6.heap.size, w1.heap.size, nC, cL, cD', cC', aL, aD', aC'⟩ := ⟨_, rfl⟩
      have HNL := newLoads_any w6 sld live leads closed (by rw [hsld]) (by rw [hsld]; exact own_mono oL6 (Nat.zero_le _)) (by rw [hsld]; exact own_mono oC6 (Nat.zero_le _)) (by rw [hsld]; exact ⟨mi, hmi6, hmi2⟩) (by rw [hsld]; exact own_mono oD6 (Nat.zero_le _)) (by rw [hsld]; show nC ≤ 1048576; omega)
      rw [hsld] at HNL
      simp only at HNL
      have HRG : Hid (∀ k, (Value.slice aD' nC cD').ownBlock = some k → w.heap.size ≤ k) := fun k hk => Nat.le_trans (Nat.le_trans B0.size (Nat.le_trans B1.size B2.size)) (oD6.lt k hk).1
      have HRB : Hid (∀ k, (Value.slice aD' nC cD').ownBlock = some k → k < w6a.heap.size) := fun k hk => (oD6a.lt k hk).2
      clear oNa hrra B6a B6b oD6a
      clear g0 gD gC gS gN gD2 oL2 gC3 oL3 oL4 oD4 gS4 gN5 oL oD oC hmi hmi6 hmi2 oL6 oD6 oC6 oS B1 B2 B3 B4 B5 B6 B14 B15 B26 hrr
      go_wp2_with fail
      refine HNL.mono ?_
      rintro e w7 ⟨rfl, hLI, B7⟩
      rw [← hsld] at hLI
      clear HNL
      go_wp2_with fail
      have oS7 := own_below oS6 B7
      have oN7 := own_below oN B7
      have oB7 := own_below oB B7
      have hRR7 := RR.below hRR B7
      have HGL : Hid (sld.gl = w6.heap.size) := by show sld.gl = w6.heap.size; rw [hsld]
      have HSN : Hid (sld.n = nC) := by show sld.n = nC; rw [hsld]
      have hsn : sld.n ≤ 1048576 := by rw [HSN.out]; omega
      have HSL : Hid _ := hsld
      clear hsld oS6 oN hRR
      refine (build_any aS' aN' nS cS' cN' leaders us _ (own_slc9 oS7) (own_rd oN7) hus (by omega) hRR7.shapes).mono ?_
      rintro e w8 ⟨rfl, hP, B8⟩
      have hLI8 := hLI.below B8
      have hRR8 := RR.below hRR7 B8
      have oN8 := own_below oN7 B8
      have oB8 := own_below oB7 B8
      have oS8 := own_below oS7 B8
      have hLD : leaders.length = nS := HL.out.2.2.2.1
      have B08 : Below w.heap.size w w8 := B0.trans ((B16.mono B0.size).trans ((B7.mono (Nat.le_trans B0.size B16.size)).trans (B8.mono (Nat.le_trans B0.size (Nat.le_trans B16.size B7.size)))))
      have HLD : Hid _ := hLD
      have HUS : Hid _ := hus
      clear hLI hRR7 oN7 oS7 oB7 oB B0 B16 B7 hLD hus
      have HS1 := spread_any w8 sld live leads closed w7.heap.size nS nS leaders us reps 0 1073741824 hLI8 hP HLD.out HUS.out hRR8 (by omega) f3.nodup hne2 (fun x hx => f4 x hx) ⟨by omega, by omega⟩
      rw [HGL.out] at HS1
      have hrlt := hLI8.lt.2.2.2.2
      have hr3 := hLI8.row
      have HFX : Hid _ := And.intro hrlt (And.intro hr3 (And.intro B08 (And.intro hRR8 (And.intro oN8 (And.intro oB8 oS8)))))
      clear hrlt hr3 B08 hRR8 oN8 oB8 oS8 hLI8 hP B8
      go_wp2_with fail
      refine HS1.mono ?_
      rintro e w9 ⟨D, L, rfl, hLI9, hP9, G9, hI9, hst9⟩
      clear HS1
      have HLL := loadsLeads_any w9 sld live D closed hLI9
      rw [HGL.out] at HLL
      have HI9 : Hid (_ ∧ _ ∧ _ ∧ _ ∧ _) := ⟨hLI9, hP9, G9, hI9, hst9⟩
      clear hLI9 hP9 G9 hI9 hst9
      go_wp2_with fail
      refine HLL.mono ?_
      rintro e w' ⟨rfl, rfl⟩
      clear HLL
      go_wp2_with fail
      obtain ⟨hLI9, hP9, G9, hI9, hst9⟩ := HI9.out
      obtain ⟨hrlt, hr3, B08, hRR8, oN8, oB8, oS8⟩ := HFX.out
      have oB9 : w9.ownsRow w6a.heap.size 3 1 (.slice aB nC cB) nC (leads.map (Value.int .i64)) := by
        refine oB8.kept G9 ?_
        cases hr : (Value.slice sld.aD sld.n sld.cD).ownBlock with
        | none => cases hu : (Value.slice aB nC cB).ownBlock <;> simp
        | some b =>
          refine .inr (fun q => ?_)
          have q1 := (oB8.lt b q).1
          rw [HSL.out] at hr
          have q2 := HRB.out b hr
          omega
      have hLF : LF w9 aL aS' aN' aC' cL cS' cC' nC nS w8.heap.size (.slice sld.aD sld.n sld.cD) live leaders L us reps closed D := by
        refine ⟨?_, own_slc9 (kept_ne oS8 G9 hr3 (by decide)), own_rd (kept_ne oN8 G9 hr3 (by decide)), RR.grown hRR8 G9 hr3, hP9, own_slc3 hLI9.2.1, ?_⟩
        · have := hLI9.1.2.1
          rw [HSL.out] at this
          exact own_slc9 this
        · have := hLI9.1.2.2.1
          rw [HSL.out] at this
          exact own_slc4 this
      have hrge : ∀ b, (Value.slice sld.aD sld.n sld.cD).ownBlock = some b → w.heap.size ≤ b := by rw [HSL.out]; exact HRG.out
      have BF : Below w.heap.size w w9 := B08.grown G9 B08.size hrge
      have HFX2 : Hid (LF w9 aL aS' aN' aC' cL cS' cC' nC nS w8.heap.size (.slice sld.aD sld.n sld.cD) live leaders L us reps closed D ∧ Inv2 live closed reps leads leaders 0 (1073741824 + nS) D L ∧ (∀ k, k < L.length → targetF live closed D (L.getD k ByteArray.empty) (reps.getD k []) = none) ∧ Below w.heap.size w w9 ∧ L.length = nS ∧ leads.length = nC ∧ Asc live ∧ (∀ x ∈ leads, 0 ≤ x ∧ x ≤ 1073741824)) :=
        ⟨hLF, hI9, hst9, BF, by rw [hI9.2.1]; exact HLD.out, HL.out.2.1, f3, f4⟩
      refine (clone13_any aB nC cB leads _ (own_slc3 oB9) (by omega)).mono ?_
      rintro e w10 ⟨aW, cW, rfl, oW, B10⟩
      clear hLI9 hP9 G9 hI9 hst9 hrlt hr3 B08 hRR8 oN8 oB8 oS8 oB9 hLF hrge BF f3 f4 HI9 HFX HRG HRB HSL
      have HW0 : Hid (w10.ownsRow w9.heap.size 3 1 (.slice aW nC cW) nC (leads.map (Value.int .i64)) ∧ Below w9.heap.size w9 w10) := ⟨oW, B10⟩
      clear oW B10
      go_wp2_with fail
      go_loopw [18] (fun i wr => ∃ k : Nat, k ≤ nS ∧ i = .int .i64 k ∧ ∃ Wt, WantAt live leaders L leads k Wt ∧ wr.ownsRow w9.heap.size 3 1 (.slice aW nC cW) nC (Wt.map (Value.int .i64)) ∧ Below w9.heap.size w9 wr) (fun i _ => nS - (intOf i).toNat)
      case atStart => exact ⟨0, Nat.zero_le _, rfl, leads, ⟨rfl, fun i hi => by simp [cnt]⟩, HW0.out.1, HW0.out.2⟩
      case round =>
        obtain ⟨k, hk, rfl, Wt, hWt, hoW, hBe⟩ := hrel
        have HWt : Hid (WantAt live leaders L leads k Wt) := hWt
        have HoW : Hid (wr.ownsRow w9.heap.size 3 1 (.slice aW nC cW) nC (Wt.map (Value.int .i64)) ∧ Below w9.heap.size w9 wr) := ⟨hoW, hBe⟩
        clear hWt hoW hBe HW0
        by_cases hlt : k < nS
        · obtain ⟨hLF9, hI9, hst9, BF, hLl, hDl, f3, f4⟩ := HFX2.out
          obtain ⟨hoW, hBe⟩ := HoW.out
          have hkL : k < L.length := by rw [hLl]; exact hlt
          have hk0 : k < leaders.length := by rw [HLD.out]; exact hlt
          have hku : k < us.length := by rw [HUS.out]; exact hlt
          obtain ⟨q1, q2, q3, q4, q5, q6, q7⟩ := hLF9
          obtain ⟨p0, p1⟩ := place_cells q5 (zip_get hkL hku)
          obtain ⟨aR, cR, hus, hStr, hsm⟩ := q4.at hku
          obtain ⟨bN, oN, hbN, hcN⟩ := q3.at hku
          obtain ⟨bS, oSo, uS, hbS, hcS, huS⟩ := q2.at hk0
          unfold EStr at huS
          subst huS
          rw [hus] at p1 hcN
          have hszS : (leaders[k]).size ≤ 9223372036854775807 := HOK.out.2.1 _ (List.getElem_mem hk0)
          have hkr : k < reps.length := by rw [HL.out.2.2.2.2]; exact hlt
          have hRk : reps.getD k [] = reps[k] := by simp [hkr]
          have hszR : okS (reps.getD k []) := by rw [hRk]; exact (HOK.out.2.2 _ (List.getElem_mem hkr)).1
          have hLk : L.getD k ByteArray.empty = L[k] := by simp [hkL]
          have hL0k : leaders.getD k ByteArray.empty = leaders[k] := by simp [hk0]
          have hcl := hI9.2.2.1 k hkL
          have hstk := hst9 k hkL
          rw [hLk] at hcl hstk
          rw [hL0k] at hcl
          have HLn : Hid (live.length = nC) := HL.out.1
          have HDn : Hid (D.length = nC) := by show D.length = nC; rw [hI9.1]; exact HLn.out
          have hcle := cShut_le live closed L
          have HDb : Hid (∀ x ∈ D, -2147483648 ≤ x ∧ x ≤ 2147483648) := fun x hx => by have := hI9.2.2.2.2.1 x hx; omega
          have HLl : Hid (L.length = nS) := hLl
          have HDl : Hid (leads.length = nC) := hDl
          generalize hrs : reps.getD k [] = rs at p1 hcN hszR hcl hstk hStr hsm
          have HRS : Hid _ := hrs
          have hszL : (L[k]).size ≤ 9223372036854775807 := by
            by_cases hh : idx live L[k] = none
            · rw [(hcl.1 hh).1]; decide
            · rcases hcl.2 hh with h' | h'
              · rw [h']; exact hszS
              · exact hszR _ h'
          subst hbN hbS
          have C9 : Hid (w9.cell? ⟨w8.heap.size, k * 2, none⟩ = some (.string L[k]) ∧ w9.cell? ⟨bN, oN + k, none⟩ = some (.slice aR rs.length cR) ∧ w9.cell? ⟨bS, oSo + k, none⟩ = some (.string leaders[k]) ∧ Strs w9 (.slice aR rs.length cR) rs) := ⟨p0, hcN, hcS, hStr⟩
          have HPOS : Hid (∀ x wx, x.size ≤ 9223372036854775807 → Below w9.heap.size w9 wx → Calls Try.prog 17 #[.slice aL nC cL, .string x] wx fun e w' => e = .returned (.int .i64 (oi (idx live x))) ∧ ∃ m, w' = wx.drewN m) :=
            fun x wx hx hb => posIn_any aL nC cL live x wx (Strs.below q1 hb) (by omega) f3 HOK.out.1 hx
          have HCL : Hid (Cl live leaders[k] rs L[k]) := hcl
          have HST : Hid (targetF live closed D L[k] rs = none) := hstk
          have HW89 : w8.heap.size < w9.heap.size := lt_of_block q5
          have p1w := cell_later hBe p1
          have hcNw := cell_later hBe hcN
          have hcSw := cell_later hBe hcS
          have HCS := fun nq => Calls.quiet_of (sameStrs_any aR rs.length cR rs (wr.drewN nq) (Strs.below hStr (below_drewN hBe nq)) hsm)
          have i1 : (k : Int) < (nS : Int) := by omega
          clear q1 q2 q3 q4 q5 q6 q7 hI9 hst9 BF f3 f4 hoW hBe hus hStr hkr hRk hLk hL0k hcl hstk hcle hLl hDl hrs p0 p1 hcN hcS
          go_wp2_with fail
          go_quiet ((go_at_call 19; exact HCS _))
          clear HCS p1w
          have hcN' : (wr.drewN nq).cell? ⟨bN, oN + k, none⟩ = some (.slice aR rs.length cR) := hcNw
          have hcS' : (wr.drewN nq).cell? ⟨bS, oSo + k, none⟩ = some (.string leaders[k]) := hcSw
          have HoW' : Hid ((wr.drewN nq).ownsRow w9.heap.size 3 1 (.slice aW nC cW) nC (Wt.map (Value.int .i64)) ∧ Below w9.heap.size w9 (wr.drewN nq)) := ⟨HoW.out.1, below_drewN HoW.out.2 _⟩
          clear hcNw hcSw HoW
          generalize wr.drewN nq = wa at hcN' hcS' HoW' ⊢
          -- from
          have HP1 := HPOS.out leaders[k] wa hszS HoW'.out.2
          go_wp2_with fail
          refine HP1.mono ?_
          rintro e w' ⟨rfl, mm, rfl⟩
          clear HP1 hcS'
          have hcN : (wa.drewN mm).cell? ⟨bN, oN + k, none⟩ = some (.slice aR rs.length cR) := hcN'
          have HoW : Hid ((wa.drewN mm).ownsRow w9.heap.size 3 1 (.slice aW nC cW) nC (Wt.map (Value.int .i64)) ∧ Below w9.heap.size w9 (wa.drewN mm)) := ⟨HoW'.out.1, below_drewN HoW'.out.2 _⟩
          clear hcN' HoW'
          generalize wa.drewN mm = wb at hcN HoW ⊢
          go_wp2_with fail
          go_loopw [20, 117] (fun t i wx => ∃ j : Nat, j ≤ rs.length ∧ i = .int .i64 j ∧ t = .bool (anyL live rs j) ∧ ∃ m, wx = wb.drewN m) (fun _ i _ => rs.length - (intOf i).toNat)
          case atStart => exact ⟨0, Nat.zero_le _, rfl, by simp [anyL], 0, rfl⟩
          case round =>
            clear hcN
            obtain ⟨j, hj, rfl, rfl, m3, rfl⟩ := hrel
            by_cases hjl : j < rs.length
            · obtain ⟨bR, oR, uR, hbR, hcR, huR⟩ := (Strs.below C9.out.2.2.2 (below_drewN HoW.out.2 m3)).at hjl
              unfold EStr at huR
              subst huR
              have HP3 := HPOS.out rs[j] (wb.drewN m3) (hszR _ (List.getElem_mem hjl)) (below_drewN HoW.out.2 m3)
              have hst := anyL_succ (live := live) hjl
              have HBR : Hid _ := hbR
              rw [HBR.out]
              clear hbR
              cases hia : idx live rs[j] with
              | none =>
                rw [hia] at HP3 hst
                simp only [oi] at HP3
                simp only [Option.isSome_none, Bool.or_false] at hst
                have HS : Hid _ := hst
                clear hia hst
                go_wp2_with fail
                refine HP3.mono ?_
                rintro e w' ⟨rfl, m5, rfl⟩
                clear HP3
                go_wp2
                go_roundw
                case rel => exact ⟨j + 1, by omega, by go_num, by rw [HS.out], _, by first | rfl | exact World.drewN_drewN _ _ _⟩
                case measure => simp [intOf]; omega
              | some a =>
                rw [hia] at HP3 hst
                simp only [oi] at HP3
                simp only [Option.isSome_some, Bool.or_true] at hst
                have HS : Hid _ := hst
                clear hia hst
                go_wp2_with fail
                refine HP3.mono ?_
                rintro e w' ⟨rfl, m5, rfl⟩
                clear HP3
                go_wp2
                go_roundw
                case rel => exact ⟨j + 1, by omega, by go_num, by rw [HS.out], _, by first | rfl | exact World.drewN_drewN _ _ _⟩
                case measure => simp [intOf]; omega
            obtain rfl : j = rs.length := by omega
            clear hj hjl
            have HoWc : Hid ((wb.drewN m3).ownsRow w9.heap.size 3 1 (.slice aW nC cW) nC (Wt.map (Value.int .i64)) ∧ Below w9.heap.size w9 (wb.drewN m3)) := ⟨HoW.out.1, below_drewN HoW.out.2 _⟩
            clear HoW
            generalize wb.drewN m3 = wc at HoWc ⊢
            cases hf : idx live L[k] with
            | none =>
              obtain ⟨e1, e2, e3⟩ := HCL.out.1 hf
              have hfrom : oi (idx live leaders[k]) = -1 := by rw [e2]; rfl
              have hal : anyL live rs rs.length = false := by
                unfold anyL
                rw [List.any_eq_false]
                intro x hx
                rw [e3 x (List.mem_of_mem_take hx)]
                simp
              have hLe : L[k].toList.isEmpty = true := by rw [e1, ByteArray.toList_eq]; rfl
              have HWn : Hid (WantAt live leaders L leads (k + 1) Wt) := want_none HWt.out hk0 hkL e2 hf
              have p0 : wc.cell? ⟨w8.heap.size, k * 2, none⟩ = some (.string L[k]) := cell_later HoWc.out.2 C9.out.1
              clear e1 e2 e3 hf
              go_wp2
              go_roundw
              case rel => exact ⟨k + 1, by omega, by go_num, _, HWn.out, HoWc.out.1, HoWc.out.2⟩
              case measure => simp [intOf]; omega
            | some f =>
              have hfn : f < nC := by rw [← HLn.out]; exact idx_lt hf
              have hLe : L[k].toList.isEmpty = false := ne_isEmpty (fun e => hne2 (by have := List.mem_of_getElem? (idx_get hf); rw [e] at this; exact this))
              have HSO : Hid (∀ id ∈ rs, ∀ a, idx live id = some a → closed.getD a false = false → closed.getD f false = false ∧ D.getD f 0 - D.getD a 0 < 2) := stable_open HST.out hf
              have HF : Hid (idx live L[k] = some f) := hf
              clear hf
              cases he0 : idx live leaders[k] with
              | none =>
                have hmem : L[k] ∈ rs := by
                  rcases HCL.out.2 (by rw [HF.out]; simp) with h' | h'
                  · have hf := HF.out; rw [h', he0] at hf; cases hf
                  · exact h'
                generalize hz : oi none = z
                have hz' : z = -1 := hz.symm
                subst hz'
                have HE0 : Hid (idx live leaders[k] = none) := he0
                have HMEM : Hid (L[k] ∈ rs) := hmem
                clear hz he0 hmem
                have HP2 := HPOS.out L[k] wc hszL HoWc.out.2
                rw [HF.out] at HP2
                simp only [oi] at HP2
                have p0 : wc.cell? ⟨w8.heap.size, k * 2, none⟩ = some (.string L[k]) := cell_later HoWc.out.2 C9.out.1
                go_wp2_with fail
                refine HP2.mono ?_
                rintro e w' ⟨rfl, m2, rfl⟩
                clear HP2 p0
                have HoWd : Hid ((wc.drewN m2).ownsRow w9.heap.size 3 1 (.slice aW nC cW) nC (Wt.map (Value.int .i64)) ∧ Below w9.heap.size w9 (wc.drewN m2)) := ⟨HoWc.out.1, below_drewN HoWc.out.2 _⟩
                have p0 : (wc.drewN m2).cell? ⟨w8.heap.size, k * 2, none⟩ = some (.string L[k]) := cell_later HoWd.out.2 C9.out.1
                generalize wc.drewN m2 = wd at HoWd p0 ⊢
                obtain ⟨bW, haW, hbW, hcW, hfW, hsW⟩ := ints_own HoWd.out.1 (i := f) hfn
                subst haW
                have hbd := want_bound HWt.out (by rw [HLD.out]; omega) (by rw [HLl.out]; omega) HFX2.out.2.2.2.2.2.2.2 f (by rw [HDl.out]; exact hfn)
                have HWn : Hid (WantAt live leaders L leads (k + 1) (Wt.set f (Wt.getD f 0 + 1))) := want_up HWt.out hk0 hkL (by rw [HDl.out]; exact hfn) HE0.out HF.out
                generalize hWf : Wt.getD f 0 = zf0 at hcW hbd HWn
                have hWn2 := hsW (zf0 + 1)
                have HoWe : Hid ((wd.setCell ⟨bW, f, none⟩ (.int .i64 (zf0 + 1))).ownsRow w9.heap.size 3 1 (.slice (some ⟨bW, 0, none⟩) nC cW) nC ((Wt.set f (zf0 + 1)).map (Value.int .i64)) ∧ Below w9.heap.size w9 (wd.setCell ⟨bW, f, none⟩ (.int .i64 (zf0 + 1)))) := ⟨hWn2, HoWd.out.2.setCell hbW _⟩
                have HWF : Hid _ := hWf
                clear hsW hWn2 hWf
                have i2 : (f : Int) < (nC : Int) := by omega
                go_wp2_with fail
                clear hcW hfW p0 HoWd
                have p0 : (wd.setCell ⟨bW, f, none⟩ (.int .i64 (zf0 + 1))).cell? ⟨w8.heap.size, k * 2, none⟩ = some (.string L[k]) := cell_later HoWe.out.2 C9.out.1
                have hcN : (wd.setCell ⟨bW, f, none⟩ (.int .i64 (zf0 + 1))).cell? ⟨bN, oN + k, none⟩ = some (.slice aR rs.length cR) := cell_later HoWe.out.2 C9.out.2.1
                have hcS : (wd.setCell ⟨bW, f, none⟩ (.int .i64 (zf0 + 1))).cell? ⟨bS, oSo + k, none⟩ = some (.string leaders[k]) := cell_later HoWe.out.2 C9.out.2.2.1
                generalize wd.setCell ⟨bW, f, none⟩ (.int .i64 (zf0 + 1)) = we at HoWe p0 hcN hcS ⊢
                have HCT := fun nq => Calls.quiet_of_same ((contains_any aR rs.length cR rs L[k] (we.drewN nq) (Strs.below C9.out.2.2.2 (below_drewN HoWe.out.2 _)) hsm HMEM.out).mono (fun _ _ q => ⟨q.1, q.2.symm⟩))
                go_quiet ((go_at_call 27; exact HCT _))
                clear HCT
                clear p0 hcS
                go_wp2_with fail
                go_loopw [193] (fun i wx => ∃ j : Nat, j ≤ rs.length ∧ i = .int .i64 j ∧ ∃ m, wx = we.drewN m) (fun i _ => rs.length - (intOf i).toNat)
                case atStart => exact ⟨0, Nat.zero_le _, rfl, _, rfl⟩
                case round =>
                  obtain ⟨j, hj, rfl, m4, rfl⟩ := hrel
                  clear hcN
                  by_cases hjl : j < rs.length
                  · obtain ⟨bR, oR, uR, hbR, hcR, huR⟩ := (Strs.below C9.out.2.2.2 (below_drewN HoWe.out.2 m4)).at hjl
                    unfold EStr at huR
                    subst huR
                    have HP3 := HPOS.out rs[j] (we.drewN m4) (hszR _ (List.getElem_mem hjl)) (below_drewN HoWe.out.2 m4)
                    have hidm : rs[j] ∈ rs := List.getElem_mem hjl
                    have HBR : Hid _ := hbR
                    rw [HBR.out]
                    have HLFe : Hid (LF we aL (some ⟨bS, oSo, none⟩) (some ⟨bN, oN, none⟩) aC' cL cS' cC' nC nS w8.heap.size (.slice sld.aD sld.n sld.cD) live leaders L us reps closed D) := HFX2.out.1.below HoWe.out.2
                    clear hbR
                    cases hia : idx live rs[j] with
                    | none =>
                      rw [hia] at HP3
                      simp only [oi] at HP3
                      clear hia
                      go_wp2_with fail
                      refine HP3.mono ?_
                      rintro e w' ⟨rfl, m5, rfl⟩
                      clear HP3
                      go_wp2
                      go_roundw
                      case rel => exact ⟨j + 1, by omega, by go_num, _, by first | rfl | exact World.drewN_drewN _ _ _⟩
                      case measure => simp [intOf]; omega
                    | some a =>
                      rw [hia] at HP3
                      simp only [oi] at HP3
                      have han : a < nC := by rw [← HLn.out]; exact idx_lt hia
                      have hac : a < closed.length := by rw [HL.out.2.2.1]; exact han
                      have hfc : f < closed.length := by rw [HL.out.2.2.1]; exact hfn
                      obtain ⟨bC, oCo, uC, hbC, hcC, huC⟩ := HLFe.out.2.2.2.2.2.2.at hac
                      obtain ⟨bC', oCo', uC', hbC', hcC', huC'⟩ := HLFe.out.2.2.2.2.2.2.at hfc
                      rw [hbC] at hbC'
                      cases hbC'
                      unfold EBool at huC huC'
                      subst huC huC'
                      have i3 : (a : Int) < (nC : Int) := by omega
                      subst hbC
                      cases hca : closed[a] with
                      | true =>
                        rw [hca] at hcC
                        clear hia hca
                        go_wp2_with fail
                        refine HP3.mono ?_
                        rintro e w' ⟨rfl, m5, rfl⟩
                        clear HP3
                        go_wp2
                        go_roundw
                        case rel => exact ⟨j + 1, by omega, by go_num, _, by first | rfl | exact World.drewN_drewN _ _ _⟩
                        case measure => simp [intOf]; omega
                      | false =>
                        rw [hca] at hcC
                        have hso := HSO.out rs[j] hidm a hia (by simp [hac, hca])
                        have hcf : closed[f] = false := by have := hso.1; simpa [hfc] using this
                        rw [hcf] at hcC'
                        have hDf : f < D.length := by rw [HDn.out]; exact hfn
                        have hDa : a < D.length := by rw [HDn.out]; exact han
                        obtain ⟨bD, oD, uD, hbD, hcD, huD⟩ := HLFe.out.2.2.2.2.2.1.at hDf
                        obtain ⟨bD', oD', uD', hbD', hcD', huD'⟩ := HLFe.out.2.2.2.2.2.1.at hDa
                        rw [hbD] at hbD'
                        cases hbD'
                        unfold EInt at huD huD'
                        subst huD huD'
                        have hd2 : D[f] - D[a] < 2 := by have := hso.2; simpa [hDf, hDa] using this
                        have b1' := HDb.out D[f] (List.getElem_mem hDf)
                        have b2' := HDb.out D[a] (List.getElem_mem hDa)
                        have i4 : (f : Int) < (sld.n : Int) := by rw [HSN.out]; omega
                        have i5 : (a : Int) < (sld.n : Int) := by rw [HSN.out]; omega
                        rw [hbD]
                        clear hia hca hcf hso hbD
                        generalize D[f] = df at *
                        generalize D[a] = da at *
                        go_wp2_with fail
                        refine HP3.mono ?_
                        rintro e w' ⟨rfl, m5, rfl⟩
                        clear HP3
                        go_wp2_with fail
                        go_quiet (fail)
                        go_wp2
                        go_roundw
                        case rel => exact ⟨j + 1, by omega, by go_num, _, by first | rfl | exact World.drewN_drewN _ _ _ | (rw [World.drewN_drewN, World.drewN_drewN])⟩
                        case measure => simp [intOf]; omega
                  · go_wp2
                    go_roundw
                    case rel => exact ⟨k + 1, by omega, by go_num, _, HWn.out, HoWe.out.1, below_drewN HoWe.out.2 _⟩
                    case measure => simp [intOf]; omega
              | some i0 =>
                have hi0n : i0 < nC := by rw [← HLn.out]; exact idx_lt he0
                generalize hz : oi (some i0) = z
                have hz' : z = (i0 : Int) := hz.symm
                subst hz'
                have HE0 : Hid (idx live leaders[k] = some i0) := he0
                clear hz he0
                have i6 : (i0 : Int) < (nC : Int) := by omega
                by_cases heq : L[k] = leaders[k]
                · have heqb : (L[k].toList == leaders[k].toList) = true := by rw [heq]; simp
                  have HEQ : Hid _ := heq
                  clear heq
                  obtain ⟨bW, haW, hbW, hcW, hfW, hsW⟩ := ints_own HoWc.out.1 (i := i0) hi0n
                  subst haW
                  have hne8 : ¬ w8.heap.size = bW := by omega
                  have hbd0 := want_bound HWt.out (by rw [HLD.out]; omega) (by rw [HLl.out]; omega) HFX2.out.2.2.2.2.2.2.2 i0 (by rw [HDl.out]; exact hi0n)
                  have HWn : Hid (WantAt live leaders L leads (k + 1) ((Wt.set i0 (Wt.getD i0 0 - 1)).set f ((Wt.set i0 (Wt.getD i0 0 - 1)).getD f 0 + 1))) := want_move HWt.out hk0 hkL (by rw [HDl.out]; exact hi0n) (by rw [HDl.out]; exact hfn) HE0.out HF.out
                  have hbdf : -2147483648 ≤ (Wt.set i0 (Wt.getD i0 0 - 1)).getD f 0 ∧ (Wt.set i0 (Wt.getD i0 0 - 1)).getD f 0 ≤ 2147483648 := by
                    have hq := want_bound HWt.out (by rw [HLD.out]; omega) (by rw [HLl.out]; omega) HFX2.out.2.2.2.2.2.2.2 f (by rw [HDl.out]; exact hfn)
                    rw [getD_set _ _ _ _ (by rw [HWt.out.1, HDl.out]; exact hi0n)]
                    split <;> omega
                  generalize hWi : Wt.getD i0 0 = zi at hcW hbd0 HWn hbdf
                  have hW1 := hsW (zi - 1)
                  have HoW1 : Hid ((wc.setCell ⟨bW, i0, none⟩ (.int .i64 (zi - 1))).ownsRow w9.heap.size 3 1 (.slice (some ⟨bW, 0, none⟩) nC cW) nC ((Wt.set i0 (zi - 1)).map (Value.int .i64)) ∧ Below w9.heap.size w9 (wc.setCell ⟨bW, i0, none⟩ (.int .i64 (zi - 1)))) := ⟨hW1, HoWc.out.2.setCell hbW _⟩
                  have HP2 := HPOS.out L[k] (wc.setCell ⟨bW, i0, none⟩ (.int .i64 (zi - 1))) hszL HoW1.out.2
                  rw [HF.out] at HP2
                  simp only [oi] at HP2
                  have p0 : wc.cell? ⟨w8.heap.size, k * 2, none⟩ = some (.string L[k]) := cell_later HoWc.out.2 C9.out.1
                  have HWI : Hid _ := hWi
                  clear hsW hW1 hWi
                  go_wp2_with fail
                  refine HP2.mono ?_
                  rintro e w' ⟨rfl, m2, rfl⟩
                  clear HP2 p0 hcW hfW
                  have HoWd : Hid (((wc.setCell ⟨bW, i0, none⟩ (.int .i64 (zi - 1))).drewN m2).ownsRow w9.heap.size 3 1 (.slice (some ⟨bW, 0, none⟩) nC cW) nC ((Wt.set i0 (zi - 1)).map (Value.int .i64)) ∧ Below w9.heap.size w9 ((wc.setCell ⟨bW, i0, none⟩ (.int .i64 (zi - 1))).drewN m2)) := ⟨HoW1.out.1, below_drewN HoW1.out.2 _⟩
                  have p0 : ((wc.setCell ⟨bW, i0, none⟩ (.int .i64 (zi - 1))).drewN m2).cell? ⟨w8.heap.size, k * 2, none⟩ = some (.string L[k]) := cell_later HoWd.out.2 C9.out.1
                  clear HoW1
                  generalize (wc.setCell ⟨bW, i0, none⟩ (.int .i64 (zi - 1))).drewN m2 = wd at HoWd p0 ⊢
                  obtain ⟨bW', haW', hbW', hcW, hfW, hsW⟩ := ints_own HoWd.out.1 (i := f) hfn
                  simp only [Option.some.injEq, Addr.mk.injEq, and_true] at haW'
                  subst haW'
                  generalize hWf : (Wt.set i0 (zi - 1)).getD f 0 = zf0 at hcW hbdf HWn
                  have hWn2 := hsW (zf0 + 1)
                  have HoWe : Hid ((wd.setCell ⟨bW, f, none⟩ (.int .i64 (zf0 + 1))).ownsRow w9.heap.size 3 1 (.slice (some ⟨bW, 0, none⟩) nC cW) nC (((Wt.set i0 (zi - 1)).set f (zf0 + 1)).map (Value.int .i64)) ∧ Below w9.heap.size w9 (wd.setCell ⟨bW, f, none⟩ (.int .i64 (zf0 + 1)))) := ⟨hWn2, HoWd.out.2.setCell hbW _⟩
                  have HWF : Hid _ := hWf
                  clear hsW hWn2 hWf
                  have i2 : (f : Int) < (nC : Int) := by omega
                  go_wp2_with fail
                  clear hcW hfW p0 HoWd
                  have p0 : (wd.setCell ⟨bW, f, none⟩ (.int .i64 (zf0 + 1))).cell? ⟨w8.heap.size, k * 2, none⟩ = some (.string L[k]) := cell_later HoWe.out.2 C9.out.1
                  have hcN : (wd.setCell ⟨bW, f, none⟩ (.int .i64 (zf0 + 1))).cell? ⟨bN, oN + k, none⟩ = some (.slice aR rs.length cR) := cell_later HoWe.out.2 C9.out.2.1
                  have hcS : (wd.setCell ⟨bW, f, none⟩ (.int .i64 (zf0 + 1))).cell? ⟨bS, oSo + k, none⟩ = some (.string leaders[k]) := cell_later HoWe.out.2 C9.out.2.2.1
                  generalize wd.setCell ⟨bW, f, none⟩ (.int .i64 (zf0 + 1)) = we at HoWe p0 hcN hcS ⊢
                  go_quiet (fail)
                  clear p0 hcS
                  go_wp2_with fail
                  go_loopw [193] (fun i wx => ∃ j : Nat, j ≤ rs.length ∧ i = .int .i64 j ∧ ∃ m, wx = we.drewN m) (fun i _ => rs.length - (intOf i).toNat)
                  case atStart => exact ⟨0, Nat.zero_le _, rfl, _, rfl⟩
                  case round =>
                    obtain ⟨j, hj, rfl, m4, rfl⟩ := hrel
                    clear hcN
                    by_cases hjl : j < rs.length
                    · obtain ⟨bR, oR, uR, hbR, hcR, huR⟩ := (Strs.below C9.out.2.2.2 (below_drewN HoWe.out.2 m4)).at hjl
                      unfold EStr at huR
                      subst huR
                      have HP3 := HPOS.out rs[j] (we.drewN m4) (hszR _ (List.getElem_mem hjl)) (below_drewN HoWe.out.2 m4)
                      have hidm : rs[j] ∈ rs := List.getElem_mem hjl
                      have HBR : Hid _ := hbR
                      rw [HBR.out]
                      have HLFe : Hid (LF we aL (some ⟨bS, oSo, none⟩) (some ⟨bN, oN, none⟩) aC' cL cS' cC' nC nS w8.heap.size (.slice sld.aD sld.n sld.cD) live leaders L us reps closed D) := HFX2.out.1.below HoWe.out.2
                      clear hbR
                      cases hia : idx live rs[j] with
                      | none =>
                        rw [hia] at HP3
                        simp only [oi] at HP3
                        clear hia
                        go_wp2_with fail
                        refine HP3.mono ?_
                        rintro e w' ⟨rfl, m5, rfl⟩
                        clear HP3
                        go_wp2
                        go_roundw
                        case rel => exact ⟨j + 1, by omega, by go_num, _, by first | rfl | exact World.drewN_drewN _ _ _⟩
                        case measure => simp [intOf]; omega
                      | some a =>
                        rw [hia] at HP3
                        simp only [oi] at HP3
                        have han : a < nC := by rw [← HLn.out]; exact idx_lt hia
                        have hac : a < closed.length := by rw [HL.out.2.2.1]; exact han
                        have hfc : f < closed.length := by rw [HL.out.2.2.1]; exact hfn
                        obtain ⟨bC, oCo, uC, hbC, hcC, huC⟩ := HLFe.out.2.2.2.2.2.2.at hac
                        obtain ⟨bC', oCo', uC', hbC', hcC', huC'⟩ := HLFe.out.2.2.2.2.2.2.at hfc
                        rw [hbC] at hbC'
                        cases hbC'
                        unfold EBool at huC huC'
                        subst huC huC'
                        have i3 : (a : Int) < (nC : Int) := by omega
                        subst hbC
                        cases hca : closed[a] with
                        | true =>
                          rw [hca] at hcC
                          clear hia hca
                          go_wp2_with fail
                          refine HP3.mono ?_
                          rintro e w' ⟨rfl, m5, rfl⟩
                          clear HP3
                          go_wp2
                          go_roundw
                          case rel => exact ⟨j + 1, by omega, by go_num, _, by first | rfl | exact World.drewN_drewN _ _ _⟩
                          case measure => simp [intOf]; omega
                        | false =>
                          rw [hca] at hcC
                          have hso := HSO.out rs[j] hidm a hia (by simp [hac, hca])
                          have hcf : closed[f] = false := by have := hso.1; simpa [hfc] using this
                          rw [hcf] at hcC'
                          have hDf : f < D.length := by rw [HDn.out]; exact hfn
                          have hDa : a < D.length := by rw [HDn.out]; exact han
                          obtain ⟨bD, oD, uD, hbD, hcD, huD⟩ := HLFe.out.2.2.2.2.2.1.at hDf
                          obtain ⟨bD', oD', uD', hbD', hcD', huD'⟩ := HLFe.out.2.2.2.2.2.1.at hDa
                          rw [hbD] at hbD'
                          cases hbD'
                          unfold EInt at huD huD'
                          subst huD huD'
                          have hd2 : D[f] - D[a] < 2 := by have := hso.2; simpa [hDf, hDa] using this
                          have b1' := HDb.out D[f] (List.getElem_mem hDf)
                          have b2' := HDb.out D[a] (List.getElem_mem hDa)
                          have i4 : (f : Int) < (sld.n : Int) := by rw [HSN.out]; omega
                          have i5 : (a : Int) < (sld.n : Int) := by rw [HSN.out]; omega
                          rw [hbD]
                          clear hia hca hcf hso hbD
                          generalize D[f] = df at *
                          generalize D[a] = da at *
                          go_wp2_with fail
                          refine HP3.mono ?_
                          rintro e w' ⟨rfl, m5, rfl⟩
                          clear HP3
                          go_wp2_with fail
                          go_quiet (fail)
                          go_wp2
                          go_roundw
                          case rel => exact ⟨j + 1, by omega, by go_num, _, by first | rfl | exact World.drewN_drewN _ _ _ | (rw [World.drewN_drewN, World.drewN_drewN])⟩
                          case measure => simp [intOf]; omega
                    · go_wp2
                      go_roundw
                      case rel => exact ⟨k + 1, by omega, by go_num, _, HWn.out, HoWe.out.1, below_drewN HoWe.out.2 _⟩
                      case measure => simp [intOf]; omega
                · have hmem : L[k] ∈ rs := by
                    rcases HCL.out.2 (by rw [HF.out]; simp) with h' | h'
                    · exact absurd h' heq
                    · exact h'
                  have heqb : (L[k].toList == leaders[k].toList) = false := by
                    cases hh : (L[k].toList == leaders[k].toList) with
                    | false => rfl
                    | true => exact absurd (toList_inj (by simpa using hh)) heq
                  have HEQ : Hid _ := heq
                  have HMEM : Hid (L[k] ∈ rs) := hmem
                  clear heq hmem
                  obtain ⟨bW, haW, hbW, hcW, hfW, hsW⟩ := ints_own HoWc.out.1 (i := i0) hi0n
                  subst haW
                  have hne8 : ¬ w8.heap.size = bW := by omega
                  have hbd0 := want_bound HWt.out (by rw [HLD.out]; omega) (by rw [HLl.out]; omega) HFX2.out.2.2.2.2.2.2.2 i0 (by rw [HDl.out]; exact hi0n)
                  have HWn : Hid (WantAt live leaders L leads (k + 1) ((Wt.set i0 (Wt.getD i0 0 - 1)).set f ((Wt.set i0 (Wt.getD i0 0 - 1)).getD f 0 + 1))) := want_move HWt.out hk0 hkL (by rw [HDl.out]; exact hi0n) (by rw [HDl.out]; exact hfn) HE0.out HF.out
                  have hbdf : -2147483648 ≤ (Wt.set i0 (Wt.getD i0 0 - 1)).getD f 0 ∧ (Wt.set i0 (Wt.getD i0 0 - 1)).getD f 0 ≤ 2147483648 := by
                    have hq := want_bound HWt.out (by rw [HLD.out]; omega) (by rw [HLl.out]; omega) HFX2.out.2.2.2.2.2.2.2 f (by rw [HDl.out]; exact hfn)
                    rw [getD_set _ _ _ _ (by rw [HWt.out.1, HDl.out]; exact hi0n)]
                    split <;> omega
                  generalize hWi : Wt.getD i0 0 = zi at hcW hbd0 HWn hbdf
                  have hW1 := hsW (zi - 1)
                  have HoW1 : Hid ((wc.setCell ⟨bW, i0, none⟩ (.int .i64 (zi - 1))).ownsRow w9.heap.size 3 1 (.slice (some ⟨bW, 0, none⟩) nC cW) nC ((Wt.set i0 (zi - 1)).map (Value.int .i64)) ∧ Below w9.heap.size w9 (wc.setCell ⟨bW, i0, none⟩ (.int .i64 (zi - 1)))) := ⟨hW1, HoWc.out.2.setCell hbW _⟩
                  have HP2 := HPOS.out L[k] (wc.setCell ⟨bW, i0, none⟩ (.int .i64 (zi - 1))) hszL HoW1.out.2
                  rw [HF.out] at HP2
                  simp only [oi] at HP2
                  have p0 : wc.cell? ⟨w8.heap.size, k * 2, none⟩ = some (.string L[k]) := cell_later HoWc.out.2 C9.out.1
                  have HWI : Hid _ := hWi
                  clear hsW hW1 hWi
                  go_wp2_with fail
                  refine HP2.mono ?_
                  rintro e w' ⟨rfl, m2, rfl⟩
                  clear HP2 p0 hcW hfW
                  have HoWd : Hid (((wc.setCell ⟨bW, i0, none⟩ (.int .i64 (zi - 1))).drewN m2).ownsRow w9.heap.size 3 1 (.slice (some ⟨bW, 0, none⟩) nC cW) nC ((Wt.set i0 (zi - 1)).map (Value.int .i64)) ∧ Below w9.heap.size w9 ((wc.setCell ⟨bW, i0, none⟩ (.int .i64 (zi - 1))).drewN m2)) := ⟨HoW1.out.1, below_drewN HoW1.out.2 _⟩
                  have p0 : ((wc.setCell ⟨bW, i0, none⟩ (.int .i64 (zi - 1))).drewN m2).cell? ⟨w8.heap.size, k * 2, none⟩ = some (.string L[k]) := cell_later HoWd.out.2 C9.out.1
                  clear HoW1
                  generalize (wc.setCell ⟨bW, i0, none⟩ (.int .i64 (zi - 1))).drewN m2 = wd at HoWd p0 ⊢
                  obtain ⟨bW', haW', hbW', hcW, hfW, hsW⟩ := ints_own HoWd.out.1 (i := f) hfn
                  simp only [Option.some.injEq, Addr.mk.injEq, and_true] at haW'
                  subst haW'
                  generalize hWf : (Wt.set i0 (zi - 1)).getD f 0 = zf0 at hcW hbdf HWn
                  have hWn2 := hsW (zf0 + 1)
                  have HoWe : Hid ((wd.setCell ⟨bW, f, none⟩ (.int .i64 (zf0 + 1))).ownsRow w9.heap.size 3 1 (.slice (some ⟨bW, 0, none⟩) nC cW) nC (((Wt.set i0 (zi - 1)).set f (zf0 + 1)).map (Value.int .i64)) ∧ Below w9.heap.size w9 (wd.setCell ⟨bW, f, none⟩ (.int .i64 (zf0 + 1)))) := ⟨hWn2, HoWd.out.2.setCell hbW _⟩
                  have HWF : Hid _ := hWf
                  clear hsW hWn2 hWf
                  have i2 : (f : Int) < (nC : Int) := by omega
                  go_wp2_with fail
                  clear hcW hfW p0 HoWd
                  have p0 : (wd.setCell ⟨bW, f, none⟩ (.int .i64 (zf0 + 1))).cell? ⟨w8.heap.size, k * 2, none⟩ = some (.string L[k]) := cell_later HoWe.out.2 C9.out.1
                  have hcN : (wd.setCell ⟨bW, f, none⟩ (.int .i64 (zf0 + 1))).cell? ⟨bN, oN + k, none⟩ = some (.slice aR rs.length cR) := cell_later HoWe.out.2 C9.out.2.1
                  have hcS : (wd.setCell ⟨bW, f, none⟩ (.int .i64 (zf0 + 1))).cell? ⟨bS, oSo + k, none⟩ = some (.string leaders[k]) := cell_later HoWe.out.2 C9.out.2.2.1
                  generalize wd.setCell ⟨bW, f, none⟩ (.int .i64 (zf0 + 1)) = we at HoWe p0 hcN hcS ⊢
                  have HCT := fun nq => Calls.quiet_of_same ((contains_any aR rs.length cR rs L[k] (we.drewN nq) (Strs.below C9.out.2.2.2 (below_drewN HoWe.out.2 _)) hsm HMEM.out).mono (fun _ _ q => ⟨q.1, q.2.symm⟩))
                  go_quiet ((go_at_call 27; exact HCT _))
                  clear HCT
                  clear p0 hcS
                  go_wp2_with fail
                  go_loopw [193] (fun i wx => ∃ j : Nat, j ≤ rs.length ∧ i = .int .i64 j ∧ ∃ m, wx = we.drewN m) (fun i _ => rs.length - (intOf i).toNat)
                  case atStart => exact ⟨0, Nat.zero_le _, rfl, _, rfl⟩
                  case round =>
                    obtain ⟨j, hj, rfl, m4, rfl⟩ := hrel
                    clear hcN
                    by_cases hjl : j < rs.length
                    · obtain ⟨bR, oR, uR, hbR, hcR, huR⟩ := (Strs.below C9.out.2.2.2 (below_drewN HoWe.out.2 m4)).at hjl
                      unfold EStr at huR
                      subst huR
                      have HP3 := HPOS.out rs[j] (we.drewN m4) (hszR _ (List.getElem_mem hjl)) (below_drewN HoWe.out.2 m4)
                      have hidm : rs[j] ∈ rs := List.getElem_mem hjl
                      have HBR : Hid _ := hbR
                      rw [HBR.out]
                      have HLFe : Hid (LF we aL (some ⟨bS, oSo, none⟩) (some ⟨bN, oN, none⟩) aC' cL cS' cC' nC nS w8.heap.size (.slice sld.aD sld.n sld.cD) live leaders L us reps closed D) := HFX2.out.1.below HoWe.out.2
                      clear hbR
                      cases hia : idx live rs[j] with
                      | none =>
                        rw [hia] at HP3
                        simp only [oi] at HP3
                        clear hia
                        go_wp2_with fail
                        refine HP3.mono ?_
                        rintro e w' ⟨rfl, m5, rfl⟩
                        clear HP3
                        go_wp2
                        go_roundw
                        case rel => exact ⟨j + 1, by omega, by go_num, _, by first | rfl | exact World.drewN_drewN _ _ _⟩
                        case measure => simp [intOf]; omega
                      | some a =>
                        rw [hia] at HP3
                        simp only [oi] at HP3
                        have han : a < nC := by rw [← HLn.out]; exact idx_lt hia
                        have hac : a < closed.length := by rw [HL.out.2.2.1]; exact han
                        have hfc : f < closed.length := by rw [HL.out.2.2.1]; exact hfn
                        obtain ⟨bC, oCo, uC, hbC, hcC, huC⟩ := HLFe.out.2.2.2.2.2.2.at hac
                        obtain ⟨bC', oCo', uC', hbC', hcC', huC'⟩ := HLFe.out.2.2.2.2.2.2.at hfc
                        rw [hbC] at hbC'
                        cases hbC'
                        unfold EBool at huC huC'
                        subst huC huC'
                        have i3 : (a : Int) < (nC : Int) := by omega
                        subst hbC
                        cases hca : closed[a] with
                        | true =>
                          rw [hca] at hcC
                          clear hia hca
                          go_wp2_with fail
                          refine HP3.mono ?_
                          rintro e w' ⟨rfl, m5, rfl⟩
                          clear HP3
                          go_wp2
                          go_roundw
                          case rel => exact ⟨j + 1, by omega, by go_num, _, by first | rfl | exact World.drewN_drewN _ _ _⟩
                          case measure => simp [intOf]; omega
                        | false =>
                          rw [hca] at hcC
                          have hso := HSO.out rs[j] hidm a hia (by simp [hac, hca])
                          have hcf : closed[f] = false := by have := hso.1; simpa [hfc] using this
                          rw [hcf] at hcC'
                          have hDf : f < D.length := by rw [HDn.out]; exact hfn
                          have hDa : a < D.length := by rw [HDn.out]; exact han
                          obtain ⟨bD, oD, uD, hbD, hcD, huD⟩ := HLFe.out.2.2.2.2.2.1.at hDf
                          obtain ⟨bD', oD', uD', hbD', hcD', huD'⟩ := HLFe.out.2.2.2.2.2.1.at hDa
                          rw [hbD] at hbD'
                          cases hbD'
                          unfold EInt at huD huD'
                          subst huD huD'
                          have hd2 : D[f] - D[a] < 2 := by have := hso.2; simpa [hDf, hDa] using this
                          have b1' := HDb.out D[f] (List.getElem_mem hDf)
                          have b2' := HDb.out D[a] (List.getElem_mem hDa)
                          have i4 : (f : Int) < (sld.n : Int) := by rw [HSN.out]; omega
                          have i5 : (a : Int) < (sld.n : Int) := by rw [HSN.out]; omega
                          rw [hbD]
                          clear hia hca hcf hso hbD
                          generalize D[f] = df at *
                          generalize D[a] = da at *
                          go_wp2_with fail
                          refine HP3.mono ?_
                          rintro e w' ⟨rfl, m5, rfl⟩
                          clear HP3
                          go_wp2_with fail
                          go_quiet (fail)
                          go_wp2
                          go_roundw
                          case rel => exact ⟨j + 1, by omega, by go_num, _, by first | rfl | exact World.drewN_drewN _ _ _ | (rw [World.drewN_drewN, World.drewN_drewN])⟩
                          case measure => simp [intOf]; omega
                    · go_wp2
                      go_roundw
                      case rel => exact ⟨k + 1, by omega, by go_num, _, HWn.out, HoWe.out.1, below_drewN HoWe.out.2 _⟩
                      case measure => simp [intOf]; omega
        · obtain rfl : k = nS := by omega
          obtain ⟨hLF9, hI9, hst9, BF, hLl, hDl, f3, f4⟩ := HFX2.out
          obtain ⟨hoW, hBe⟩ := HoW.out
          have hWD : Wt = D := want_done HWt.out HLD.out hLl (by rw [hI9.1, hDl]; exact HL.out.1) (fun i hi => hI9.2.2.2.1 i (by rw [HL.out.1, ← hDl]; exact hi))
          rw [hWD] at hoW
          have iW := own_slc3 hoW
          have iD := (hLF9.below hBe).2.2.2.2.2.1
          have HSI : Calls Try.prog 20 #[.slice sld.aD sld.n sld.cD, .slice aW sld.n cW] wr fun e w' => e = .returned (.bool true) ∧ ∃ m, w' = wr.drewN m :=
            sameInts_any sld.aD aW sld.n sld.cD cW D wr iD (by rw [HSN.out]; exact iW) hsn
          rw [HSN.out] at HSI
          have HBF : Hid (Below w.heap.size w wr) := BF.trans (hBe.mono BF.size)
          clear hLF9 hI9 hst9 BF hLl hDl f3 f4 hoW hBe hWD iW iD
          go_wp2_with fail
          rw [HSN.out]
          refine HSI.mono ?_
          rintro e w' ⟨rfl, mm, rfl⟩
          go_wp2
          go_ret
          exact ⟨rfl, below_drewN HBF.out _⟩

end Go.Proofs.Qxb6603051a
