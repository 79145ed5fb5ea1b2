/-
  Seat b6603051a: cb1HeldMatches (34).
-/
import Derived.Test.Qxb6603051aZ0
import Derived.BigQuiet
import Derived.Deep.CutRange
namespace Go.Proofs.Qxb6603051a
open Go.RowKit
set_option linter.unusedVariables false
set_option linter.unusedSimpArgs false

set_option maxRecDepth 100000 in
set_option maxHeartbeats 8000000 in
theorem matches_any (w0 w : World) (gm : Nat) (U : List ByteArray) (s : TS) (bh base : Nat) (b : Int) (B : ByteArray → Option Nat) (h : MI w0 w w gm U s bh base b B) (hUl : U.length ≤ 1048576) :
    Calls Try.prog 34 #[.map (some bh), .pointer (some ⟨gm, 0, none⟩), .int .i64 b] w fun e w' => e = .returned (.bool true) ∧ Below w.heap.size w w' := by
  have HM0 : Hid (MI w0 w w gm U s bh base b B) := h
  have hNl : s.N.length ≤ 1048576 := Nat.le_trans (len_le_of_sub h.1.1.1 h.1.1.2.2.2.2.1) hUl
  have HFl : Hid (∀ a, (s.FK a).length ≤ 1048576) := fun a => Nat.le_trans (len_le_of_sub (h.1.1.2.1 a) (fun k hk => h.1.1.2.2.2.2.2 a k hk)) hUl
  have HP : Hid (TP U s) := h.1.1
  obtain ⟨nN, hnN⟩ : ∃ nN, nN = s.N.length := ⟨_, rfl⟩
  have HN : Hid (s.N.length = nN) := hnN.symm
  rw [← hnN] at hNl
  clear h hnN
  have hen := eq_nil
  have hes := eq_some
  have hnn := ne_nil
  have hns := ne_some
  go_enter Try.func34, Try.ntmps34
  go_wp2_with fail
  go_loopw [7, 8] (fun t i wr => ∃ e : Nat, e ≤ nN ∧ i = .int .i64 e ∧ t = .int .i64 (nzN (fun id => val b (s.r0 id) (s.nr id)) (fun id => val b (s.l0 id) (s.nl id)) B (s.N.take e) : Int) ∧ MI w0 w wr gm U s bh base b B) (fun _ i _ => nN - (intOf i).toNat)
  case atStart => exact ⟨0, Nat.zero_le _, rfl, rfl, HM0.out⟩
  case round =>
    clear HM0
    obtain ⟨e, he, rfl, rfl, hM⟩ := hrel
    have HI : Hid (MI w0 w wr gm U s bh base b B) := hM
    clear hM
    by_cases hlt : e < nN
    · have hel : e < s.N.length := by rw [HN.out]; exact hlt
      have hNe : s.N[e]? = some s.N[e] := List.getElem?_eq_getElem hel
      have HSN := nzN_snoc (fun id => val b (s.r0 id) (s.nr id)) (fun id => val b (s.l0 id) (s.nl id)) B hel
      have HBN : nzN (fun id => val b (s.r0 id) (s.nr id)) (fun id => val b (s.l0 id) (s.nl id)) B (s.N.take e) ≤ 1048576 := Nat.le_trans (nzN_le _ _ _ _) (by rw [List.length_take]; omega)
      generalize s.N[e] = id at hNe HSN
      generalize hpr : nzN (fun id => val b (s.r0 id) (s.nr id)) (fun id => val b (s.l0 id) (s.nl id)) B (s.N.take e) = pr at HSN HBN ⊢
      clear hpr
      have HE : Hid (s.N[e]? = some id) := hNe
      have HSN' : Hid (nzN (fun id => val b (s.r0 id) (s.nr id)) (fun id => val b (s.l0 id) (s.nl id)) B (s.N.take (e + 1)) = pr + (if val b (s.r0 id) (s.nr id) = 0 ∧ val b (s.l0 id) (s.nl id) = 0 ∧ B id = none then 0 else 1)) := HSN
      clear hNe HSN
      obtain ⟨r, hr⟩ : ∃ r, r = val b (s.r0 id) (s.nr id) := ⟨_, rfl⟩
      obtain ⟨l, hl⟩ : ∃ l, l = val b (s.l0 id) (s.nl id) := ⟨_, rfl⟩
      rw [← hr, ← hl] at HSN'
      have HRL : Hid (r = val b (s.r0 id) (s.nr id) ∧ l = val b (s.l0 id) (s.nl id)) := ⟨hr, hl⟩
      -- the reads of the two numbers
      obtain ⟨gn, cn, k1, k2⟩ := HI.out.1.name HE.out
      obtain ⟨g1, c1, p1, p2, -, -⟩ := HI.out.1.rowR HE.out
      obtain ⟨g2, c2, q1, q2, -, -⟩ := HI.out.1.rowL HE.out
      obtain ⟨g3, c3, r1, r2, -, -⟩ := HI.out.1.rowNR HE.out
      obtain ⟨g4, c4, t1, t2, -, -⟩ := HI.out.1.rowNL HE.out
      rw [HN.out] at k1 p1 q1 r1 t1
      have hrv : wrap64 (s.r0 id + wrap64 (wrap64 (s.nr id : Int) * b)) = r := by rw [hr]; exact val_three _ _ _
      have hlv : wrap64 (s.l0 id + wrap64 (wrap64 (s.nl id : Int) * b)) = l := by rw [hl]; exact val_three _ _ _
      generalize s.r0 id = vr0 at p2 hrv
      generalize s.l0 id = vl0 at q2 hlv
      generalize wrap64 (s.nr id : Int) = vnr at r2 hrv
      generalize wrap64 (s.nl id : Int) = vnl at t2 hlv
      clear hr hl
      have i1 : (e : Int) < (nN : Int) := by omega
      go_wp2_with fail
      go_quiet (fail)
      go_wp2_with fail
      go_quiet (fail)
      go_wp2_with fail
      rw [hrv, hlv]
      clear hrv hlv k1 k2 p1 p2 q1 q2 r1 r2 t1 t2
      -- the followers
      obtain ⟨Fv, hFv⟩ : ∃ Fv : ByteArray → Int, Fv = fun k => val b (s.f0 id k) (s.nf id k) := ⟨_, rfl⟩
      have HFV : Hid (Fv = fun k => val b (s.f0 id k) (s.nf id k)) := hFv
      clear hFv
      have hKl := HFl.out id
      obtain ⟨nK, hnK⟩ : ∃ nK, nK = (s.FK id).length := ⟨_, rfl⟩
      have HK : Hid ((s.FK id).length = nK) := hnK.symm
      rw [← hnK] at hKl
      clear hnK
      go_loopw [11, 12] (fun t i wx => ∃ j : Nat, j ≤ nK ∧ i = .int .i64 j ∧ t = .int .i64 (nzF Fv ((s.FK id).take j) : Int) ∧ MI w0 w wx gm U s bh base b B) (fun _ i _ => nK - (intOf i).toNat)
      case atStart => exact ⟨0, Nat.zero_le _, rfl, rfl, (HI.out.drewN _).drewN _⟩
      case round =>
        clear HI
        obtain ⟨j, hj, rfl, rfl, hM⟩ := hrel
        have HI : Hid (MI w0 w wr gm U s bh base b B) := hM
        clear hM
        obtain ⟨g5, c5, ao5, ck5, k1, k2, k3⟩ := HI.out.1.keys HE.out
        rw [HN.out] at k1
        rw [HK.out] at k2
        have HBF : nzF Fv ((s.FK id).take j) ≤ 1048576 := Nat.le_trans (nzF_le _ _) (by rw [List.length_take]; omega)
        by_cases hjl : j < nK
        · have hjx : j < (s.FK id).length := by rw [HK.out]; exact hjl
          have hjk : (s.FK id)[j]? = some (s.FK id)[j] := List.getElem?_eq_getElem hjx
          have HSF := nzF_snoc Fv hjx
          generalize (s.FK id)[j] = key at hjk HSF
          generalize hpf : nzF Fv ((s.FK id).take j) = pf at HSF HBF ⊢
          obtain ⟨g6, c6, b6, cb6, p1, p2, p3, -, -⟩ := HI.out.1.rowF HE.out hjk
          obtain ⟨g7, c7, b7, cb7, q1, q2, q3, -, -⟩ := HI.out.1.rowNF HE.out hjk
          rw [HN.out] at p1 q1
          rw [HK.out] at p2 q2
          have hfv : wrap64 (s.f0 id key + wrap64 (wrap64 (s.nf id key : Int) * b)) = Fv key := by rw [HFV.out]; exact val_three _ _ _
          generalize s.f0 id key = vf0 at p3 hfv
          generalize wrap64 (s.nf id key : Int) = vnf at q3 hfv
          generalize Fv key = fv at hfv HSF
          have HSF' : Hid (nzF Fv ((s.FK id).take (j + 1)) = pf + (if fv = 0 then 0 else 1)) := HSF
          clear hjk HSF k3 hpf
          have i2 : (j : Int) < (nK : Int) := by omega
          by_cases hz : fv = 0
          · have hzb : (wrap64 (vf0 + wrap64 (vnf * b)) != 0) = false := by rw [hfv]; simp [hz]
            have hzc : wrap64 (vf0 + wrap64 (vnf * b)) = 0 := by rw [hfv]; exact hz
            have HS2 : Hid (nzF Fv ((s.FK id).take (j + 1)) = pf) := by
              have := HSF'.out
              rw [if_pos hz] at this
              exact this
            clear HSF' hz hfv
            go_wp2_with fail
            go_quiet (fail)
            go_wp2
            go_roundw
            case rel => exact ⟨j + 1, by omega, by go_num, by rw [HS2.out], HI.out.drewN _⟩
            case measure => simp [intOf]; omega
          · have hzb : (wrap64 (vf0 + wrap64 (vnf * b)) != 0) = true := by rw [hfv]; simp [hz]
            have hzc : ¬ wrap64 (vf0 + wrap64 (vnf * b)) = 0 := by rw [hfv]; exact hz
            have HS2 : Hid (nzF Fv ((s.FK id).take (j + 1)) = pf + 1) := by
              have := HSF'.out
              rw [if_neg hz] at this
              exact this
            clear HSF' hz hfv
            go_wp2_with fail
            go_quiet (fail)
            go_wp2
            go_roundw
            case rel => exact ⟨j + 1, by omega, by go_num, by rw [HS2.out]; go_num, HI.out.drewN _⟩
            case measure => simp [intOf]; omega
        · obtain rfl : nK = j := by omega
          clear hjl hj
          have hfull : (s.FK id).take nK = s.FK id := List.take_of_length_le (by rw [HK.out]; exact Nat.le_refl _)
          rw [hfull]
          rw [hfull] at HBF
          clear hfull
          have HNO : Hid (B id = none ↔ nzF Fv (s.FK id) = 0) := by
            rw [HFV.out]
            exact fol_none (HI.out.2.1.2.1 id) (fun k hk => HI.out.inF id k hk)
          generalize hnf : nzF Fv (s.FK id) = nf at HBF HNO ⊢
          have HNF : Hid (nzF Fv (s.FK id) = nf) := hnf
          clear hnf k3
          have lk := HeldC.look2 HI.out.2.1 id
          rw [← HRL.out.1, ← HRL.out.2] at lk
          obtain ⟨ro, hro⟩ : ∃ ro, ro = B id := ⟨_, rfl⟩
          have HRO : Hid (ro = B id) := hro
          have HNO' : Hid (ro = none ↔ nf = 0) := by rw [hro]; exact HNO.out
          have HSN2 : Hid (nzN (fun id => val b (s.r0 id) (s.nr id)) (fun id => val b (s.l0 id) (s.nl id)) B (s.N.take (e + 1)) = pr + (if r = 0 ∧ l = 0 ∧ ro = none then 0 else 1)) := by rw [hro]; exact HSN'.out
          rw [← hro] at lk
          clear hro HNO HSN'
          obtain ⟨okb, hokb⟩ : ∃ okb, okb = decide (¬ (r = 0 ∧ l = 0 ∧ ro = none)) := ⟨_, rfl⟩
          rw [← hokb] at lk
          have HOK : Hid (okb = decide (¬ (r = 0 ∧ l = 0 ∧ ro = none))) := hokb
          clear hokb
          obtain ⟨gn, cn, m1, m2⟩ := HI.out.1.name HE.out
          rw [HN.out] at m1
          have B0 : Below wr.heap.size wr (wr.alloc (.cells #[.int .i64 r, .int .i64 l, .map ro] 80)) := (Below.refl _ _).alloc (Nat.le_refl _) _
          have HI3 : Hid (MI w0 w (wr.alloc (.cells #[.int .i64 r, .int .i64 l, .map ro] 80)) gm U s bh base b B ∧ (wr.alloc (.cells #[.int .i64 r, .int .i64 l, .map ro] 80)).heap[wr.heap.size]? = some (.cells #[.int .i64 r, .int .i64 l, .map ro] 80 (0, 0))) := ⟨HI.out.later B0, heap_alloc_new _ _⟩
          clear B0
          go_upto_region 14 with fail
          clear lk m1 m2 k1 k2 HI
          generalize wr.alloc (.cells #[.int .i64 r, .int .i64 l, .map ro] 80) = wv at HI3 ⊢
          generalize wr.heap.size = gg at HI3 ⊢
          go_cut [121] from 112 to 120 (fun s121 wx => s121 = .bool (decide (r = 0 ∧ l = 0 ∧ nf = 0)) ∧ wx = wv)
          case first =>
            by_cases h1 : r = 0
            · by_cases h2 : l = 0
              · by_cases h3 : nf = 0
                · subst h1 h2 h3
                  go_wp2
                  go_meet
                  exact ⟨by simp, rfl⟩
                · have hb : ((nf : Int) == 0) = false := by simp; omega
                  have hd : decide (r = 0 ∧ l = 0 ∧ nf = 0) = false := by simp [h3]
                  subst h1 h2
                  go_wp2
                  go_meet
                  exact ⟨by rw [hd], rfl⟩
              · have hb : (l == 0) = false := by simp [h2]
                have hd : decide (r = 0 ∧ l = 0 ∧ nf = 0) = false := by simp [h2]
                subst h1
                go_wp2
                go_meet
                exact ⟨by rw [hd], rfl⟩
            · have hb : (r == 0) = false := by simp [h1]
              have hd : decide (r = 0 ∧ l = 0 ∧ nf = 0) = false := by simp [h1]
              go_wp2
              go_meet
              exact ⟨by rw [hd], rfl⟩
          case rest =>
          obtain ⟨rfl, hwc⟩ := hcut
          subst hwc
          by_cases hz : r = 0 ∧ l = 0 ∧ nf = 0
          · have hd : decide (r = 0 ∧ l = 0 ∧ nf = 0) = true := decide_eq_true hz
            rw [hd]
            have hoe : okb = false := by
              rw [HOK.out]
              exact decide_eq_false (fun hn => hn ⟨hz.1, hz.2.1, HNO'.out.2 hz.2.2⟩)
            subst hoe
            have HS3 : Hid (nzN (fun id => val b (s.r0 id) (s.nr id)) (fun id => val b (s.l0 id) (s.nl id)) B (s.N.take (e + 1)) = pr) := by
              have := HSN2.out
              rw [if_pos ⟨hz.1, hz.2.1, HNO'.out.2 hz.2.2⟩] at this
              exact this
            clear HSN2 hd hz
            go_wp2
            go_roundw
            case rel => exact ⟨e + 1, by omega, by go_num, by rw [HS3.out], HI3.out.1⟩
            case measure => simp [intOf]; omega
          · have hd : decide (r = 0 ∧ l = 0 ∧ nf = 0) = false := decide_eq_false hz
            rw [hd]
            have hok : ¬ (r = 0 ∧ l = 0 ∧ ro = none) := fun hh => hz ⟨hh.1, hh.2.1, HNO'.out.1 hh.2.2⟩
            have hoe : okb = true := by
              rw [HOK.out]
              exact decide_eq_true hok
            subst hoe
            have HS3 : Hid (nzN (fun id => val b (s.r0 id) (s.nr id)) (fun id => val b (s.l0 id) (s.nl id)) B (s.N.take (e + 1)) = pr + 1) := by
              have := HSN2.out
              rw [if_neg hok] at this
              exact this
            have hgc := HI3.out.2
            have g0 : wc.cell? ⟨gg, 0, none⟩ = some (.int .i64 r) := by rw [cell_of_block (xs := [.int .i64 r, .int .i64 l, .map ro]) (e := 80) (by simpa using hgc)]; rfl
            have g1 : wc.cell? ⟨gg, 1, none⟩ = some (.int .i64 l) := by rw [cell_of_block (xs := [.int .i64 r, .int .i64 l, .map ro]) (e := 80) (by simpa using hgc)]; rfl
            have hgb : wc.cell? ⟨gg, 2, none⟩ = some (.map ro) := by rw [cell_of_block (xs := [.int .i64 r, .int .i64 l, .map ro]) (e := 80) (by simpa using hgc)]; rfl
            clear HSN2 hok hz hd hgc
            by_cases hnf0 : nf = 0
            · subst hnf0
              obtain rfl := HNO'.out.2 rfl
              go_wp2
              go_roundw
              case rel => exact ⟨e + 1, by omega, by go_num, by rw [HS3.out]; go_num, HI3.out.1⟩
              case measure => simp [intOf]; omega
            · obtain ⟨bf, rfl⟩ : ∃ bf, ro = some bf := by
                cases ro with
                | none => exact absurd (HNO'.out.1 rfl) hnf0
                | some bf => exact ⟨bf, rfl⟩
              have HFO : Hid (∀ wy, MI w0 w wy gm U s bh base b B → FolRaw wy bf Fv) := fun wy hy => by
                have := hy.2.1.2.1 id
                rw [← HRO.out] at this
                rw [HFV.out]
                exact this.1
              obtain ⟨nl, ln1, -, ln3⟩ := (HFO.out _ HI3.out.1).len
              have hnl : nl = nf := by
                rw [ln3 (s.FK id) (HP.out.2.1 id) (fun k hk => HI3.out.1.inF id k (by rw [HFV.out] at hk; exact hk))]
                exact HNF.out
              subst hnl
              have hnfb : ((nl : Int) == 0) = false := by simp; omega
              clear ln3
              go_wp2_with fail
              have HI4 : Hid (MI w0 w wc gm U s bh base b B ∧ wc.cell? ⟨gg, 2, none⟩ = some (.map (some bf))) := ⟨HI3.out.1, hgb⟩
              clear ln1 hgb HI3 g0 g1
              go_loopw [15] (fun i wx => ∃ j : Nat, j ≤ nK ∧ i = .int .i64 j ∧ MI w0 w wx gm U s bh base b B ∧ wx.cell? ⟨gg, 2, none⟩ = some (.map (some bf))) (fun i _ => nK - (intOf i).toNat)
              case atStart => exact ⟨0, Nat.zero_le _, rfl, HI4.out.1, HI4.out.2⟩
              case round =>
                clear HI4
                obtain ⟨j, hj, rfl, hM, hgb⟩ := hrel
                have HI : Hid (MI w0 w wr gm U s bh base b B) := hM
                have HGB : Hid (wr.cell? ⟨gg, 2, none⟩ = some (.map (some bf))) := hgb
                clear hM
                obtain ⟨g5, c5, ao5, ck5, k1, k2, k3⟩ := HI.out.1.keys HE.out
                rw [HN.out] at k1
                rw [HK.out] at k2
                by_cases hjl : j < nK
                · have hjx : j < (s.FK id).length := by rw [HK.out]; exact hjl
                  have hjk : (s.FK id)[j]? = some (s.FK id)[j] := List.getElem?_eq_getElem hjx
                  generalize (s.FK id)[j] = key at hjk
                  obtain ⟨bk, hak, k4⟩ := k3 j key hjk
                  obtain ⟨g6, c6, b6, cb6, p1, p2, p3, -, -⟩ := HI.out.1.rowF HE.out hjk
                  obtain ⟨g7, c7, b7, cb7, q1, q2, q3, -, -⟩ := HI.out.1.rowNF HE.out hjk
                  rw [HN.out] at p1 q1
                  rw [HK.out] at p2 q2
                  have hfv : wrap64 (s.f0 id key + wrap64 (wrap64 (s.nf id key : Int) * b)) = Fv key := by rw [HFV.out]; exact val_three _ _ _
                  have lk2 := fun m => (HFO.out _ (HI.out.drewN m)).look2 key
                  generalize s.f0 id key = vf0 at p3 hfv
                  generalize wrap64 (s.nf id key : Int) = vnf at q3 hfv
                  generalize Fv key = fv at hfv lk2
                  subst hak
                  clear hjk k3
                  have i2 : (j : Int) < (nK : Int) := by omega
                  by_cases hz : fv = 0
                  · subst hz
                    have lk3 : ∀ m, (Instr.lookup 23 (.map (some bf)) (.string key) true).run Try.prog (wr.drewN m) = .ok (.tuple #[.int .i64 0, .bool false]) (wr.drewN m) := fun m => by
                      rw [lk2 m]; simp
                    clear lk2
                    go_wp2_with fail
                    go_quiet (fail)
                    rw [hfv]
                    go_wp2_with fail
                    go_quiet (fail)
                    go_wp2
                    go_roundw
                    case rel => exact ⟨j + 1, by omega, by go_num, HI.out.drewN _, HGB.out⟩
                    case measure => simp [intOf]; omega
                  · have lk3 : ∀ m, (Instr.lookup 23 (.map (some bf)) (.string key) true).run Try.prog (wr.drewN m) = .ok (.tuple #[.int .i64 fv, .bool true]) (wr.drewN m) := fun m => by
                      rw [lk2 m]; simp [hz]
                    have hzb : (fv == 0) = false := by simp [hz]
                    clear lk2
                    go_wp2_with fail
                    go_quiet (fail)
                    rw [hfv]
                    go_wp2_with fail
                    go_quiet (fail)
                    go_wp2
                    go_roundw
                    case rel => exact ⟨j + 1, by omega, by go_num, HI.out.drewN _, HGB.out⟩
                    case measure => simp [intOf]; omega
                · obtain rfl : nK = j := by omega
                  clear k3
                  go_wp2
                  go_roundw
                  case rel => exact ⟨e + 1, by omega, by go_num, by rw [HS3.out]; go_num, HI.out⟩
                  case measure => simp [intOf]; omega
    · obtain rfl : nN = e := by omega
      obtain ⟨ao, c, k1⟩ := HI.out.1.namesLen
      rw [HN.out] at k1
      have hfull : s.N.take nN = s.N := List.take_of_length_le (by rw [HN.out]; exact Nat.le_refl _)
      rw [hfull]
      obtain ⟨nh, ln1, ln2⟩ := HI.out.2.1.len
      have hnh := ln2 s.N HP.out.1 (fun id hid => HI.out.inN id hid)
      have hnz : nzN (fun id => val b (s.r0 id) (s.nr id)) (fun id => val b (s.l0 id) (s.nl id)) B s.N = nh := hnh.symm
      rw [hnz]
      clear ln2 hnh hnz hfull
      go_wp2
      go_ret
      exact ⟨by simp, HI.out.2.2⟩

end Go.Proofs.Qxb6603051a
