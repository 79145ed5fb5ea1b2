/-
  Seat b6603244a: (*Model).uses (38), the first loop.
-/
import Derived.Test.Qxb6603244aU2
import Derived.Deep.RegionLaw
import Derived.Deep.AppendLies
namespace Go.Proofs.Qxb6603244a
open Go.RowKit
set_option linter.unusedVariables false

theorem Try.info99 : (Try.prog.info? 99).map (fun i => (i.zero, i.size, i.bytes)) = some (some (Value.slice none 0 0), 1, 24) := by kernel_rfl
theorem Try.info101 : (Try.prog.info? 101).map (fun i => (i.zero, i.size, i.bytes)) = some (some (.agg #[.int .i64 0, .int .i64 0]), 2, 16) := by kernel_rfl

set_option maxRecDepth 100000 in
set_option maxHeartbeats 4000000 in
theorem uses38_any (gm gc n : Nat) (F R : List ByteArray) (Ln C : List Int) (us : List Value) (steps : List (List ByteArray)) (w : World)
    (hm : w.cell? ⟨gm, 0, none⟩ = some (.slice (some ⟨gc, 0, none⟩) n n)) (hcb : CB w gc n F Ln C R us)
    (l0 : R.length = n) (l1 : us.length = n) (l2 : F.length = n) (l3 : Ln.length = n) (l4 : C.length = n) (l5 : steps.length = n) (hn : n ≤ 4096) (hus : ∀ u ∈ us, ∃ a m c, u = .slice a m c) (hst : ∀ (i : Nat) u, us[i]? = some u → ∃ a c x, steps[i]? = some x ∧ u = .slice a x.length c ∧ Strs w u x) (hct : cntS steps steps.length ≤ 1048576) :
    Calls Try.prog 38 #[.pointer (some ⟨gm, 0, none⟩)] w fun e w' => ∃ ga rv, e = .returned (.pointer (some ⟨w.heap.size, 0, none⟩)) ∧ U2I w w' ga rv R steps (dd R) n 0 := by
  have L0 : Hid (R.length = n) := l0
  have L1 : Hid (us.length = n) := l1
  have L2 : Hid (F.length = n) := l2
  have L3 : Hid (Ln.length = n) := l3
  have L4 : Hid (C.length = n) := l4
  have HCB : Hid (CB w gc n F Ln C R us) := hcb
  have HM : Hid (w.cell? ⟨gm, 0, none⟩ = some (.slice (some ⟨gc, 0, none⟩) n n)) := hm
  have HUS : Hid (∀ u ∈ us, ∃ a m c, u = .slice a m c) := hus
  have L5 : Hid (steps.length = n) := l5
  have HST : Hid (∀ (i : Nat) u, us[i]? = some u → ∃ a c x, steps[i]? = some x ∧ u = .slice a x.length c ∧ Strs w u x) := hst
  have HCT : Hid (cntS steps steps.length ≤ 1048576) := hct
  clear l0 l1 l2 l3 l4 hcb hus hm l5 hst hct
  have hmk : ∀ w, (Instr.makeMap 92 none).run Try.prog w = .ok (.map (some w.heap.size)) (w.alloc (.map #[] 0)) := fun w => by simp [Instr.makeMap, Result.andThen]
  have hm1 : ((w.alloc (.cells #[.slice none 0 0, .slice none 0 0] 98)).alloc (.map #[] 0)).cell? ⟨gm, 0, none⟩ = some (.slice (some ⟨gc, 0, none⟩) n n) := cell_later (((Below.refl w.heap.size w).alloc (Nat.le_refl _) _).alloc (by simp) _) HM.out
  go_enter Try.func38, Try.ntmps38
  go_wp2_with fail
  go_loopw [24] (fun i wr => ∃ k : Nat, k ≤ n ∧ i = .int .i64 k ∧ U1I w wr R k) (fun i _ => n - (intOf i).toNat)
  case atStart =>
    refine ⟨0, Nat.zero_le _, rfl, ((Below.refl w.heap.size w).alloc (Nat.le_refl _) _).alloc (by simp) _, .slice none 0 0, [], ?_, ?_, Numb.nil, World.ownsRow_nil _ _ _ _⟩
    · rw [Below.heap_alloc _ _ _ (by simp)]; exact heap_alloc_new w _
    · have := MapIs.made (w.alloc (.cells #[.slice none 0 0, .slice none 0 0] 98))
      simpa using this
  case round =>
    clear hm1 hmk
    obtain ⟨k, hk, rfl, hinv⟩ := hrel
    have HI : Hid (U1I w wr R k) := hinv
    clear hinv
    by_cases hlt : k < n
    · have k0 : k < R.length := by rw [L0.out]; exact hlt
      have k1 : k < us.length := by rw [L1.out]; exact hlt
      have k2 : k < F.length := by rw [L2.out]; exact hlt
      have k3 : k < Ln.length := by rw [L3.out]; exact hlt
      have k4 : k < C.length := by rw [L4.out]; exact hlt
      obtain ⟨q0, q1, q2, q3, q4⟩ := HCB.out k hlt
      rw [List.getElem?_eq_getElem k2, Option.map_some] at q0
      rw [List.getElem?_eq_getElem k3, Option.map_some] at q1
      rw [List.getElem?_eq_getElem k4, Option.map_some] at q2
      rw [List.getElem?_eq_getElem k0, Option.map_some] at q3
      rw [List.getElem?_eq_getElem k1] at q4
      have HD : Hid (dd (R.take (k + 1)) = ddStep (dd (R.take k)) R[k]) := dd_succ k0
      obtain ⟨aU, mU, cU, hU⟩ := HUS.out us[k] (List.getElem_mem k1)
      rw [hU] at q4
      generalize R[k] = vR at q3 HD
      generalize F[k] = vF at q0
      generalize Ln[k] = vL at q1
      generalize C[k] = vC at q2
      clear hU k0 k1 k2 k3 k4
      replace q0 := cell_later HI.out.1 q0
      replace q1 := cell_later HI.out.1 q1
      replace q2 := cell_later HI.out.1 q2
      replace q3 := cell_later HI.out.1 q3
      replace q4 := cell_later HI.out.1 q4
      have i1 : (k : Int) < (n : Int) := by omega
      obtain ⟨D, hDD⟩ : ∃ D, D = dd (R.take k) := ⟨_, rfl⟩
      have HDD : Hid (dd (R.take k) = D) := hDD.symm
      rw [HDD.out] at HD
      clear hDD
      have B1 : Below wr.heap.size wr (wr.alloc (.cells #[.string vF, .int .i64 vL, .int .i64 vC, .string vR, .slice aU mU cU] 105)) := (Below.refl _ _).alloc (Nat.le_refl _) _
      have HI1 : Hid (U1I w (wr.alloc (.cells #[.string vF, .int .i64 vL, .int .i64 vC, .string vR, .slice aU mU cU] 105)) R k) := HI.out.later B1
      obtain ⟨-, rv, mp, g1, g2, g3, g4⟩ := HI1.out
      rw [HDD.out] at g3 g4
      have hlk := fun ok => run_lookup_my (P := Try.prog) (T := 92) (K := 9) (E := 3) Try.underlying92 Try.underlying9 (.int .i64 0) (Try.zeroValue3 _) g2 vR ok
      rw [g3 vR] at hlk
      have HSZ : Hid (w.heap.size + 2 ≤ wr.heap.size) := HI.out.size
      clear B1 HI
      cases hix : idx D vR with
      | some j =>
        rw [hix] at hlk
        have HD2 : Hid (dd (R.take (k + 1)) = D) := by
          show _ = _
          rw [HD.out]; unfold ddStep; rw [hix]; rfl
        have hlk1 := hlk true
        simp only [Option.map_some, Option.getD_some, Option.isSome_some, if_true] at hlk1
        clear hlk g1 g2 g3 g4 hix
        go_wp2
        go_roundw
        case rel =>
          refine ⟨k + 1, by omega, by go_num, ?_⟩
          obtain ⟨e1, e2⟩ := HI1.out
          rw [HDD.out] at e2
          exact ⟨e1, by rw [HD2.out]; exact e2⟩
        case measure => simp [intOf]; omega
      | none =>
        rw [hix] at hlk
        have hlk1 := hlk true
        simp only [Option.map_none, Option.getD_none, Option.isSome_none, if_true] at hlk1
        clear hlk
        go_wp2_with fail
        clear hlk1 q0 q1 q2 q3 q4
        have p3 : (wr.alloc (.cells #[.string vF, .int .i64 vL, .int .i64 vC, .string vR, .slice aU mU cU] 105)).cell? ⟨wr.heap.size, 3, none⟩ = some (.string vR) := by rw [World.cell?_alloc_at _ _ _ _ rfl]; rfl
        have HWS : Hid (wr.heap.size < (wr.alloc (.cells #[.string vF, .int .i64 vL, .int .i64 vC, .string vR, .slice aU mU cU] 105)).heap.size ∧ (wr.alloc (.cells #[.string vF, .int .i64 vL, .int .i64 vC, .string vR, .slice aU mU cU] 105)).heap[wr.heap.size]? = some (.cells #[.string vF, .int .i64 vL, .int .i64 vC, .string vR, .slice aU mU cU] 105 (0, 0))) := ⟨by simp, heap_alloc_new _ _⟩
        have HWW : Hid (w.heap.size + 2 ≤ wr.heap.size) := HSZ.out
        generalize wr.alloc (.cells #[.string vF, .int .i64 vL, .int .i64 vC, .string vR, .slice aU mU cU] 105) = wy at g1 g2 g4 p3 HI1 HWS ⊢
        obtain ⟨ra, rc, rfl, -, -⟩ := own_shape g4
        have r0 : wy.cell? ⟨w.heap.size, 0, none⟩ = some (.slice ra D.length rc) := by rw [cell_of_block (xs := [.slice ra D.length rc, .slice none 0 0]) (e := 98) (by simpa using g1)]; rfl
        obtain ⟨w2, hup, hmi, hgr, hsz⟩ := run_update_my (P := Try.prog) (w := wy.drew) (T := 92) (K := 9) (E := 3) Try.underlying92 Try.underlying9 g2 vR (.int .i64 (D.length : Int))
        have G1 : Hid _ := g1
        have G2 : Hid _ := g2
        have G4 : Hid _ := g4
        clear g1 g2 g4
        have hs2 : w2.heap.size = wy.heap.size := hsz
        have K1 : w2.heap[w.heap.size]? = some (.cells #[.slice ra D.length rc, .slice none 0 0] 98 (0, 0)) := by rw [hgr.block _ (lt_of_block G1.out) (by simp)]; exact G1.out
        have K3 : w2.heap[wr.heap.size]? = some (.cells #[.string vF, .int .i64 vL, .int .i64 vC, .string vR, .slice aU mU cU] 105 (0, 0)) := by
          rw [hgr.block _ HWS.out.1 (by have := HWW.out; simp only [ne_eq, Option.some.injEq]; omega)]; exact HWS.out.2
        have K4 : w2.ownsRow (w.heap.size + 2) 9 1 (.slice ra D.length rc) D.length (D.map Value.string) := own_keep G4.out (fun g hg1 hg2 _ => hgr.block g hg2 (by simp only [ne_eq, Option.some.injEq]; omega))
        have KB : Below w.heap.size w w2 := (HI1.out.1.drew).grown hgr (Nat.le_of_lt (by exact lt_of_block G1.out)) (fun k hk => by simp only [Option.some.injEq] at hk; omega)
        have H2 : Hid (MapIs w2 (w.heap.size + 1) (aset mp vR (.int .i64 (D.length : Int))) ∧ Numb (aset mp vR (.int .i64 (D.length : Int))) (D ++ [vR]) ∧ Below w.heap.size w w2 ∧ w2.heap.size = wy.heap.size) := ⟨hmi, g3.snoc hix, KB, hs2⟩
        have r02 : w2.cell? ⟨w.heap.size, 0, none⟩ = some (.slice ra D.length rc) := by rw [cell_of_block (xs := [.slice ra D.length rc, .slice none 0 0]) (e := 98) (by simpa using K1)]; rfl
        have p32 : w2.cell? ⟨wr.heap.size, 3, none⟩ = some (.string vR) := by rw [cell_of_block (xs := [.string vF, .int .i64 vL, .int .i64 vC, .string vR, .slice aU mU cU]) (e := 105) (by simpa using K3)]; rfl
        have HD2 : Hid (dd (R.take (k + 1)) = D ++ [vR]) := by
          show _ = _
          rw [HD.out]; unfold ddStep; rw [hix]; rfl
        have HK1 : Hid (w2.heap[w.heap.size]? = some (.cells #[.slice ra D.length rc, .slice none 0 0] 98 (0, 0))) := K1
        have HK3 : Hid _ := K3
        have HK4 : Hid (w2.ownsRow (w.heap.size + 2) 9 1 (.slice ra D.length rc) D.length (D.map Value.string)) := K4
        clear hmi hgr hsz hs2 K1 K3 K4 KB g3 hix
        go_still_tail 8, mixed
        go_wp2_with fail
        clear hup r0 p3 G1 G2 G4 HWS
        obtain ⟨i0, hi0, hz0, hz1, hz2⟩ := info_parts Try.info9
        have lg : w.heap.size < w2.heap.size := World.block_lt_of_cell? w2 _ r02
        have lk : wr.heap.size < w2.heap.size := World.block_lt_of_cell? w2 _ p32
        have lw := HWW.out
        have fz2 : w2.frozen? ⟨w.heap.size, 0, none⟩ = false := by simp [World.frozen?, HK1.out]
        have ag : (Value.slice ra D.length rc).ownBlock ≠ some w.heap.size := fun e => by have := (HK4.out.lt _ e).1; omega
        have ak : (Value.slice ra D.length rc).ownBlock ≠ some wr.heap.size := (own_ne HK4.out HK3.out (by decide)).symm
        have hDl : D.length ≤ 4096 := by have := dd_take_len R k; rw [HDD.out] at this; omega
        have BA : Below w2.heap.size w2 (w2.alloc (.cells #[.string vR] 9)).drew := ((Below.refl _ _).alloc (Nat.le_refl _) _).drew
        have hal1 : (w2.alloc (.cells #[.string vR] 9)).drew.cell? ⟨w.heap.size, 0, none⟩ = some (.slice ra D.length rc) := cell_later BA r02
        have hal2 : (w2.alloc (.cells #[.string vR] 9)).drew.cell? ⟨wr.heap.size, 3, none⟩ = some (.string vR) := cell_later BA p32
        have hal3 : (w2.alloc (.cells #[.string vR] 9)).drew.frozen? ⟨w.heap.size, 0, none⟩ = false := by rw [BA.frozen lg]; exact fz2
        clear BA
        go_region_law
          (refine step_append_lies _ (by rfl) _ _ _ (by rfl) (w.heap.size + 2) 9 i0 _ 1 16 Try.underlying23 hi0 hz0 hz1 hz2 rfl (by omega) (.slice ra D.length rc) D.length (D.map Value.string) (by rfl) ((HK4.out.alloc _).drew) ⟨w2.heap.size, 0, none⟩ 1 1 [.string vR] (by rfl) (by rfl) (World.news_of_block (cs := #[.string vR]) (t := 9) (fr := (0, 0)) (heap_alloc_new w2 _)) (by simp [Value.oneCell']) (by omega) (by unfold maxLen; omega) (by omega) (by simp; omega) (w2.heap.size + 1) (by simp) ?_
           intro gg cap w3 hown1 hgrow hat hlt
           have c3 : w3.cell? ⟨w.heap.size, 0, none⟩ = some (.slice ra D.length rc) := by rw [hgrow.cell_far _ (by simp; omega) (Ne.symm ag)]; exact hal1
           have f3 : w3.frozen? ⟨w.heap.size, 0, none⟩ = false := by rw [hgrow.frozen_far _ (by simp; omega) (Ne.symm ag)]; exact hal3)
        all_goals
          have HU : Hid _ := U1I.grow HD2.out H2.out.2.2.1 H2.out.1 H2.out.2.1 HK1.out HK4.out hown1 hgrow
          clear hown1 hgrow hat hlt hal1 hal2 hal3
          go_wp2
          go_roundw
          case rel => exact ⟨k + 1, by omega, by go_num, HU.out⟩
          case measure => simp [intOf]; omega
    · obtain rfl : k = n := by omega
      clear hlt hk
      obtain ⟨rv, r0, ⟨ra, rc, hrv⟩, r1, f1, hu2⟩ := U2I.start (steps := steps) HI.out L0.out hn
      have hDl : (dd R).length ≤ 4096 := by
        have h1 := dd_take_len R k
        rw [List.take_of_length_le (by rw [L0.out]; exact Nat.le_refl _)] at h1
        omega
      obtain ⟨D, hDD⟩ : ∃ D, D = dd R := ⟨_, rfl⟩
      have HDD : Hid (dd R = D) := hDD.symm
      have hbw : Below w.heap.size w wr := HI.out.1
      rw [HDD.out] at r1 f1 hu2 hDl hrv
      obtain ⟨M, hM⟩ : ∃ M : Array Value, M = (List.replicate D.length (Value.slice none 0 0)).toArray := ⟨_, rfl⟩
      rw [← hM] at r1 f1 hu2
      have hmk : ∀ w, (Instr.makeSlice 96 (.int .i64 (D.length : Int)) (.int .i64 (D.length : Int))).run Try.prog w = .ok (.slice (some ⟨w.heap.size, 0, none⟩) D.length D.length) (w.alloc (.cells M 99)) := fun w => by rw [hM]; exact make_row 96 99 (.slice none 0 0) 24 Try.underlying96 Try.info99 rfl (by omega) w D.length (by omega)
      have HU2 : Hid (U2I w ((wr.alloc (.cells M 99)).setCell ⟨w.heap.size, 1, none⟩ (.slice (some ⟨wr.heap.size, 0, none⟩) D.length D.length)) wr.heap.size rv R steps D 0 0) := hu2
      have hm2 : ((wr.alloc (.cells M 99)).setCell ⟨w.heap.size, 1, none⟩ (.slice (some ⟨wr.heap.size, 0, none⟩) D.length D.length)).cell? ⟨gm, 0, none⟩ = some (.slice (some ⟨gc, 0, none⟩) k k) := cell_later hu2.1 HM.out
      subst hrv
      clear hM hDD HI hu2 hbw
      go_wp2_with fail
      clear hm2 r0 r1 f1 hmk
      generalize (wr.alloc (.cells M 99)).setCell ⟨w.heap.size, 1, none⟩ (.slice (some ⟨wr.heap.size, 0, none⟩) D.length D.length) = wv at HU2 ⊢
      generalize wr.heap.size = ga at HU2 ⊢
      go_loopw [71] (fun i wx => ∃ q : Nat, q ≤ k ∧ i = .int .i64 q ∧ U2I w wx ga (.slice ra D.length rc) R steps D q 0) (fun i _ => k - (intOf i).toNat)
      case atStart => exact ⟨0, Nat.zero_le _, rfl, HU2.out⟩
      case round =>
        clear HU2
        obtain ⟨q, hq, rfl, hinv⟩ := hrel
        have HI : Hid (U2I w wr ga (.slice ra D.length rc) R steps D q 0) := hinv
        clear hinv
        by_cases hlt : q < k
        · have k0 : q < R.length := by rw [L0.out]; exact hlt
          have k1 : q < us.length := by rw [L1.out]; exact hlt
          have k2 : q < F.length := by rw [L2.out]; exact hlt
          have k3 : q < Ln.length := by rw [L3.out]; exact hlt
          have k4 : q < C.length := by rw [L4.out]; exact hlt
          have k5 : q < steps.length := by rw [L5.out]; exact hlt
          obtain ⟨q0, q1, q2, q3, q4⟩ := HCB.out q hlt
          rw [List.getElem?_eq_getElem k2, Option.map_some] at q0
          rw [List.getElem?_eq_getElem k3, Option.map_some] at q1
          rw [List.getElem?_eq_getElem k4, Option.map_some] at q2
          rw [List.getElem?_eq_getElem k0, Option.map_some] at q3
          rw [List.getElem?_eq_getElem k1] at q4
          obtain ⟨aU, cU, x, hx, hU, hsx⟩ := HST.out q us[q] (List.getElem?_eq_getElem k1)
          rw [hU] at q4 hsx
          have hgd : steps.getD q [] = x := by simp [hx]
          have HGD : Hid (steps.getD q [] = x) := hgd
          obtain ⟨f, hf⟩ := idx_dd k0
          rw [HDD.out] at hf
          have HF : Hid (idx D R[q] = some f) := hf
          have HFR : Hid (∀ h : q < R.length, idx D (R[q]'h) = some f) := fun _ => hf
          have HSX : Hid (Strs w (.slice aU x.length cU) x) := hsx
          have K0 : Hid (q < R.length) := k0
          have K5 : Hid (q < steps.length) := k5
          have B1 : Below wr.heap.size wr (wr.alloc (.cells #[.string F[q], .int .i64 Ln[q], .int .i64 C[q], .string R[q], .slice aU x.length cU] 105)) := (Below.refl _ _).alloc (Nat.le_refl _) _
          have HI1 : Hid (U2I w (wr.alloc (.cells #[.string F[q], .int .i64 Ln[q], .int .i64 C[q], .string R[q], .slice aU x.length cU] 105)) ga (.slice ra D.length rc) R steps D q 0) := HI.out.later B1
          have hlk : (Instr.lookup 92 (.map (some (w.heap.size + 1))) (.string R[q]) false).run Try.prog (wr.alloc (.cells #[.string F[q], .int .i64 Ln[q], .int .i64 C[q], .string R[q], .slice aU x.length cU] 105)) = .ok (.int .i64 (f : Int)) (wr.alloc (.cells #[.string F[q], .int .i64 Ln[q], .int .i64 C[q], .string R[q], .slice aU x.length cU] 105)) := by
            exact (HI1.out.look _).1 f HF.out
          have hxl : x.length ≤ 1048576 := Nat.le_trans (len_le_cntS hx) HCT.out
          clear hgd hf hsx hU hx
          generalize R[q] = vR at q3 hlk HI1 HF B1
          generalize F[q] = vF at q0 hlk HI1 B1
          generalize Ln[q] = vL at q1 hlk HI1 B1
          generalize C[q] = vC at q2 hlk HI1 B1
          clear k0 k1 k2 k3 k4 k5 B1
          replace q0 := cell_later HI.out.1 q0
          replace q1 := cell_later HI.out.1 q1
          replace q2 := cell_later HI.out.1 q2
          replace q3 := cell_later HI.out.1 q3
          replace q4 := cell_later HI.out.1 q4
          clear HI
          have i1 : (q : Int) < (k : Int) := by omega
          go_wp2_with fail
          clear hlk q0 q1 q2 q3 q4
          generalize wr.alloc (.cells #[.string vF, .int .i64 vL, .int .i64 vC, .string vR, .slice aU x.length cU] 105) = wy at HI1 ⊢
          go_loopw [83] (fun i wx => ∃ j : Nat, j ≤ x.length ∧ i = .int .i64 j ∧ U2I w wx ga (.slice ra D.length rc) R steps D q j) (fun i _ => x.length - (intOf i).toNat)
          case atStart => exact ⟨0, Nat.zero_le _, rfl, HI1.out⟩
          case round =>
            clear HI1
            obtain ⟨j, hj, rfl, hinv⟩ := hrel
            have HI : Hid (U2I w wr ga (.slice ra D.length rc) R steps D q j) := hinv
            clear hinv
            by_cases hjl : j < x.length
            · obtain ⟨bS, oS, uS, hbS, hcS, huS⟩ := HSX.out.at hjl
              unfold EStr at huS
              subst huS hbS
              replace hcS := cell_later HI.out.1 hcS
              have JL : Hid (j < (steps.getD q []).length) := by show _ < _; rw [HGD.out]; exact hjl
              have hyy : (steps.getD q [])[j]'JL.out = x[j] := by simp only [HGD.out]
              have HYY : Hid ((steps.getD q [])[j]'JL.out = x[j]) := hyy
              clear hyy
              have hlook := HI.out.look x[j]
              cases hix : idx D x[j] with
              | none =>
                have HI2 : Hid (U2I w wr ga (.slice ra D.length rc) R steps D q (j + 1)) := HI.out.skip JL.out (by rw [HYY.out]; exact hix)
                have hlk := hlook.2.2 hix
                clear hix hlook HYY
                generalize x[j] = y at hcS hlk
                have i2 : (j : Int) < (x.length : Int) := by omega
                go_wp2
                go_roundw
                case rel => exact ⟨j + 1, by omega, by go_num, HI2.out⟩
                case measure => simp [intOf]; omega
              | some t =>
                have hlk := hlook.2.1 t hix
                obtain ⟨va, vc, a, p1, p2, p3, p4, p5, p6, p7, p8, p9, p10⟩ := HI.out.arc K0.out K5.out JL.out (HFR.out K0.out) (by rw [HYY.out]; exact hix)
                clear hix hlook HYY
                generalize x[j] = y at hcS hlk
                have i2 : (j : Int) < (x.length : Int) := by omega
                go_wp2_with fail
                obtain ⟨i0, hi0, hz0, hz1, hz2⟩ := info_parts Try.info101
                have hal : a.length ≤ 1048576 := Nat.le_trans p7 HCT.out
                have HP4 : Hid (wr.ownsRow (ga + 1) 101 2 (.slice va a.length vc) a.length (flatU a)) := p4
                have HP10 : Hid _ := p10
                have hfD : (f : Int) < (D.length : Int) := by
                  have := idx_lt (HFR.out K0.out)
                  omega
                have hf0 : 0 ≤ (f : Int) := by omega
                obtain ⟨X, hX⟩ : ∃ X, X = flatU a := ⟨_, rfl⟩
                obtain ⟨N, hN⟩ : ∃ N, N = a.length := ⟨_, rfl⟩
                have BA : Below wr.heap.size wr (wr.alloc (.cells #[.int .i64 (t : Int), .int .i64 (q : Int)] 101)).drew := ((Below.refl _ _).alloc (Nat.le_refl _) _).drew
                have hal1 : (wr.alloc (.cells #[.int .i64 (t : Int), .int .i64 (q : Int)] 101)).drew.cell? ⟨w.heap.size, 1, none⟩ = some (.slice (some ⟨ga, 0, none⟩) D.length D.length) := cell_later BA p1
                have hal2 : (wr.alloc (.cells #[.int .i64 (t : Int), .int .i64 (q : Int)] 101)).drew.cell? ⟨ga, f, none⟩ = some (.slice va a.length vc) := cell_later BA p2
                have hal3 : (wr.alloc (.cells #[.int .i64 (t : Int), .int .i64 (q : Int)] 101)).drew.frozen? ⟨ga, f, none⟩ = false := by rw [BA.frozen p8]; exact p3
                rw [← hN] at p2 hal hal2 p5 p6 HP4 HP10
                rw [← hX] at HP4 HP10
                clear BA p4 p7 p10 hX hN hcS hlk
                go_region_law
                  (refine step_append_lies _ (by rfl) _ _ _ (by rfl) (ga + 1) 101 i0 _ 2 16 Try.underlying99 hi0 hz0 hz1 hz2 rfl (by omega) (.slice va N vc) N X (by rfl) ((HP4.out.alloc _).drew) ⟨wr.heap.size, 0, none⟩ 1 1 [.int .i64 (t : Int), .int .i64 (q : Int)] (by rfl) (by rfl) (World.news_of_block (cs := #[.int .i64 (t : Int), .int .i64 (q : Int)]) (t := 101) (fr := (0, 0)) (heap_alloc_new wr _)) (by simp [Value.oneCell']) (by omega) (by unfold maxLen; omega) (by omega) (by simp; omega) (wr.heap.size + 1) (by simp) ?_
                   intro gg cap w3 hown1 hgrow hat hlt3
                   have c4 : w3.cell? ⟨w.heap.size, 1, none⟩ = some (.slice (some ⟨ga, 0, none⟩) D.length D.length) := by rw [hgrow.cell_far _ (by simp; omega) (Ne.symm p6)]; exact hal1
                   have c3 : w3.cell? ⟨ga, f, none⟩ = some (.slice va N vc) := by rw [hgrow.cell_far _ (by simp; omega) (Ne.symm p5)]; exact hal2
                   have f3 : w3.frozen? ⟨ga, f, none⟩ = false := by rw [hgrow.frozen_far _ (by simp; omega) (Ne.symm p5)]; exact hal3)
                all_goals
                  have HU : Hid _ := HP10.out gg cap w3 hown1 hgrow hat
                  clear hown1 hgrow hat hlt3 hal1 hal2 hal3
                  go_wp2
                  go_roundw
                  case rel => exact ⟨j + 1, by omega, by go_num, HU.out⟩
                  case measure => simp [intOf]; omega
            · obtain rfl : j = x.length := by omega
              have HI2 : Hid (U2I w wr ga (.slice ra D.length rc) R steps D (q + 1) 0) := by
                have := HI.out
                rw [← HGD.out] at this
                exact this.next K5.out
              go_wp2
              go_roundw
              case rel => exact ⟨q + 1, by omega, by go_num, HI2.out⟩
              case measure => simp [intOf]; omega
        · obtain rfl : q = k := by omega
          have HI2 : Hid (U2I w wr ga (.slice ra D.length rc) R steps (dd R) q 0) := by show U2I _ _ _ _ _ _ _ _ _; rw [HDD.out]; exact HI.out
          go_wp2
          go_ret
          exact ⟨ga, _, rfl, HI2.out⟩

end Go.Proofs.Qxb6603244a
