/-
  Seat b6603051a: the walk of cb1ModelFollower (48).
-/
import Derived.Test.Qxb6603051aY4
import Derived.Deep.CutRange
namespace Go.Proofs.Qxb6603051a
open Go.RowKit
set_option linter.unusedVariables false
set_option linter.unusedSimpArgs false

theorem range_get (n : Nat) (f : Nat → Value) {e : Nat} (h : e < n) : ((List.range n).map f)[e]? = some (f e) := by
  rw [List.getElem?_map, List.getElem?_range h]; rfl

set_option maxRecDepth 100000 in
set_option maxHeartbeats 4000000 in
theorem fol_any (w0 w : World) (gm : Nat) (U : List ByteArray) (s : TS) (a key : ByteArray) (e : Nat) (h : TM w0 w gm U s) (he : s.N[e]? = some a) (hU : key ∈ U) (hUl : U.length ≤ 1048576) :
    Calls Try.prog 48 #[.pointer (some ⟨gm, 0, none⟩), .int .i64 e, .string key] w fun ex w' => ∃ j : Nat, ex = .returned (.int .i64 j) ∧ ((s.fol a key).FK a)[j]? = some key ∧ TM w0 w' gm U (s.fol a key) := by
  obtain ⟨hp, ma, V, X, mp, FM, hR, hx, hm⟩ := h
  have hel : e < s.N.length := (List.getElem?_eq_some_iff.1 he).1
  have hNl : s.N.length ≤ 1048576 := Nat.le_trans (len_le_of_sub hp.1 hp.2.2.2.2.1) hUl
  have hFl : (s.FK a).length ≤ 1048576 := Nat.le_trans (len_le_of_sub (hp.2.1 a) (fun k hk => hp.2.2.2.2.2 a k hk)) hUl
  obtain ⟨l0, l1, l2, l3, l4, l5, l6, l7, l8⟩ := hx.lens
  have hlF : e < FM.length := by rw [hx.2.2.2.2.2.2.2.2.2.1]; exact hel
  obtain ⟨b, fm, hbf⟩ : ∃ b fm, FM[e]? = some (b, fm) := ⟨FM[e].1, FM[e].2, List.getElem?_eq_getElem hlF⟩
  have hMe := (hR.2.2.2.1 b fm (.tail _ (List.mem_of_getElem? hbf))).1
  have hMb := (hR.2.2.2.1 b fm (.tail _ (List.mem_of_getElem? hbf))).2
  obtain ⟨b8, c8, hv8, -, -, h83, -⟩ := hR.2.2.1.shape (x := 8) (k := e) (by rw [l8]; exact hel)
  rw [l8] at hv8
  have h8g : w.cell? ⟨gm, 9, none⟩ = some (.slice (some ⟨b8, 0, none⟩) s.N.length c8) := by have := (hR.head (x := 8) (by omega)).1; rw [hv8] at this; exact this
  have h8e : w.cell? ⟨b8, e, none⟩ = some (.map (some b)) := by rw [h83, hx.2.2.2.2.2.2.2.2.1, List.getElem?_map, hbf]; rfl
  have lk := run_lookup_my (P := Try.prog) (T := 23) (K := 9) (E := 3) Try.underlying23 Try.underlying9 _ (Try.zero3 w) hMe key true
  rw [hm.2.1 e (b, fm) a hbf he key] at lk
  have i1 : (e : Int) < (s.N.length : Int) := by omega
  cases hid : idx (s.FK a) key with
  | some j =>
    rw [hid] at lk
    have HF : Hid (((s.fol a key).FK a)[j]? = some key ∧ TM w0 w gm U (s.fol a key)) := by
      rw [TS.fol_in hid]
      exact ⟨idx_get hid, hp, ma, V, X, mp, FM, hR, hx, hm⟩
    simp only [Option.map_some, Option.getD_some, Option.isSome_some, if_true] at lk
    clear hp hR hx hm hMe hMb hid hbf hv8 h83 he l0 l1 l2 l3 l4 l5 l6 l7 l8
    go_enter Try.func48, Try.ntmps48
    go_wp2
    go_ret
    exact ⟨j, rfl, HF.out⟩
  | none =>
    rw [hid] at lk
    simp only [Option.map_none, Option.getD_none, Option.isSome_none, if_true] at lk
    have hnot : key ∉ s.FK a := idx_none.1 hid
    obtain ⟨x9, x10, x11⟩ := hx.2.2.2.2.2.2.2.2.2.2.1 e a he
    have hl9 : (X (9 + 3 * e)).length = (s.FK a).length := by rw [x9, List.length_map]
    have hl10 : (X (10 + 3 * e)).length = (s.FK a).length := by rw [x10, List.length_map]
    have hl11 : (X (11 + 3 * e)).length = (s.FK a).length := by rw [x11, List.length_map]
    have h5e : (X 5)[e]? = some (V (9 + 3 * e)) := by rw [hx.2.2.2.2.2.1]; exact range_get _ _ hel
    have h6e : (X 6)[e]? = some (V (10 + 3 * e)) := by rw [hx.2.2.2.2.2.2.1]; exact range_get _ _ hel
    have h7e : (X 7)[e]? = some (V (11 + 3 * e)) := by rw [hx.2.2.2.2.2.2.2.1]; exact range_get _ _ hel
    have hr9 : rty (9 + 3 * e) = 9 := by unfold rty; rw [if_neg (by omega), if_neg (by omega), if_neg (by omega), if_neg (by omega), if_neg (by omega), if_pos (by omega)]
    have hr10 : rty (10 + 3 * e) = 3 := by unfold rty; rw [if_neg (by omega), if_neg (by omega), if_neg (by omega), if_neg (by omega), if_neg (by omega), if_neg (by omega)]
    have hr11 : rty (11 + 3 * e) = 3 := by unfold rty; rw [if_neg (by omega), if_neg (by omega), if_neg (by omega), if_neg (by omega), if_neg (by omega), if_neg (by omega)]
    obtain ⟨nK, hnK⟩ : ∃ nK, nK = (s.FK a).length := ⟨_, rfl⟩
    rw [← hnK] at hl9 hl10 hl11 hFl
    -- the read of len(m.fKeys[e])
    obtain ⟨b5', c5', n5', ao5', n5y', c5y', -, en5, -, en5y, -, q5g, q5e, -⟩ := hR.nest 5 (9 + 3 * e) e (by omega) (by omega) 6 rfl 9 hr9 h5e (.string key)
    rw [hl9] at en5y
    obtain rfl := en5y.symm
    obtain ⟨wU, hup, hmU, hgU, hsU⟩ := run_update_my (P := Try.prog) (T := 23) (K := 9) (E := 3) Try.underlying23 Try.underlying9 hMe key (.int .i64 (nK : Int))
    have hne2 : ∀ p, p ∈ (ma, mp) :: FM → p ≠ (b, fm) → p.1 ≠ b := by
      intro p hpm hpe hpb
      obtain ⟨i, hi, rfl⟩ := List.getElem_of_mem hpm
      have hb1 : ((ma, mp) :: FM)[e + 1]? = some (b, fm) := by simpa using hbf
      have hne1 : i ≠ e + 1 := fun h => hpe (by
        subst h
        have := List.getElem?_eq_getElem hi
        rw [hb1] at this
        simpa using this.symm)
      have hb2 : e + 1 < ((ma, mp) :: FM).length := by simp; omega
      have hb3 : ((ma, mp) :: FM)[e + 1] = (b, fm) := by
        rw [List.getElem?_eq_getElem hb2] at hb1; simpa using hb1
      have hpw := List.pairwise_iff_getElem.1 hm.2.2
      rcases Nat.lt_or_gt_of_ne hne1 with h | h
      · exact hpw i (e + 1) hi hb2 h (by rw [hb3]; exact hpb)
      · exact hpw (e + 1) i hb2 hi h (by rw [hb3]; exact hpb.symm)
    have hR0 : RM w0 wU gm ma V X ((ma, mp) :: FM.set e (b, aset fm key (.int .i64 (nK : Int)))) := hR.mapped hMe hMb hgU hmU (fun b' q hq => by
      rcases List.mem_cons.1 hq with h | h
      · cases h
        exact .inr ⟨hne2 (ma, mp) (.head _) (fun h => by
          have := (List.pairwise_cons.1 hm.2.2).1 (b, fm) (List.mem_of_getElem? hbf)
          rw [← h] at this
          exact this rfl), .head _⟩
      · obtain ⟨i, hi, hie⟩ := List.getElem_of_mem h
        rw [List.getElem_set] at hie
        by_cases ei : e = i
        · rw [if_pos ei] at hie
          cases hie
          exact .inl ⟨rfl, rfl⟩
        · rw [if_neg ei] at hie
          rw [List.length_set] at hi
          have hmem : (b', q) ∈ FM := hie ▸ List.getElem_mem hi
          refine .inr ⟨hne2 (b', q) (.tail _ hmem) (fun h => ?_), .tail _ hmem⟩
          have hpw := List.pairwise_iff_getElem.1 (List.pairwise_cons.1 hm.2.2).2
          have hbe : FM[e] = (b, fm) := by rw [List.getElem?_eq_getElem hlF] at hbf; simpa using hbf
          rcases Nat.lt_or_gt_of_ne ei with h' | h'
          · exact hpw e i hlF hi h' (by rw [hbe, hie, h])
          · exact hpw i e hi hlF h' (by rw [hbe, hie, h]))
    have HP : Hid (TP U s ∧ s.N[e]? = some a ∧ key ∉ s.FK a ∧ key ∈ U ∧ TX s V X FM ∧ TMaps s ma mp FM ∧ FM[e]? = some (b, fm)) := ⟨hp, he, hnot, hU, hx, hm, hbf⟩
    have HR0 : Hid (RM w0 wU gm ma V X ((ma, mp) :: FM.set e (b, aset fm key (.int .i64 (nK : Int))))) := hR0
    have HNK : Hid (nK = (s.FK a).length) := hnK
    have HL : Hid ((X (9 + 3 * e)).length = nK ∧ (X (10 + 3 * e)).length = nK ∧ (X (11 + 3 * e)).length = nK) := ⟨hl9, hl10, hl11⟩
    have HX : Hid ((X 5)[e]? = some (V (9 + 3 * e)) ∧ (X 6)[e]? = some (V (10 + 3 * e)) ∧ (X 7)[e]? = some (V (11 + 3 * e)) ∧ (X 5).length = s.N.length ∧ (X 6).length = s.N.length ∧ (X 7).length = s.N.length) := ⟨h5e, h6e, h7e, l5, l6, l7⟩
    have HRT : Hid (rty (9 + 3 * e) = 9 ∧ rty (10 + 3 * e) = 3 ∧ rty (11 + 3 * e) = 3) := ⟨hr9, hr10, hr11⟩
    have HID : Hid (idx (s.FK a) key = none) := hid
    rw [l5] at en5
    obtain rfl := en5.symm
    clear hp hR hx hm hMe hMb hid hbf hv8 h83 he l0 l1 l2 l3 l4 l5 l6 l7 l8 hnot hl9 hl10 hl11 h5e h6e h7e hr9 hr10 hr11 hnK hmU hgU hsU hne2 hR0 x9 x10 x11 hlF
    have h8gU : wU.cell? ⟨gm, 9, none⟩ = some (.slice (some ⟨b8, 0, none⟩) s.N.length c8) ∨ True := .inr trivial
    clear h8gU
    generalize hnn : s.N.length = nN at *
    have HNN : Hid (s.N.length = nN) := hnn
    clear hnn
    obtain ⟨i9, hi9, hz9, ho9, hb9⟩ := info_parts Try.info9
    obtain ⟨i3, hi3, hz3, ho3, hb3⟩ := info_parts Try.info3
    go_enter Try.func48, Try.ntmps48
    go_upto_region 6 with fail
    clear lk hup h8g h8e q5g q5e
    go_cut [] from 41 to 56 (fun wx => ∃ V' X' vv, (V' = updN V (9 + 3 * e) vv ∧ X' = updN (updN X (9 + 3 * e) (X (9 + 3 * e) ++ [.string key])) 5 ((X 5).set e vv)) ∧ RM w0 wx gm ma V' X' ((ma, mp) :: FM.set e (b, aset fm key (.int .i64 (nK : Int)))))
    case first =>
      obtain ⟨bx0, cx0, nx0, ao0, n0, c0, Y0, enx0, hen0, en0, -, cg0, ce0, fe0, lg0, lb0, lw0, own0, ng0, nb0, hK0⟩ := RM.nest HR0.out 5 (9 + 3 * e) e (by omega) (by omega) 6 rfl 9 HRT.out.1 HX.out.1 (.string key)
      have hly0 : (X (9 + 3 * e)).length = nK := HL.out.1
      have hlx0 : (X 5).length = nN := HX.out.2.2.2.1
      rw [hly0] at en0
      rw [hlx0] at enx0
      obtain rfl := en0.symm
      obtain rfl := enx0.symm
      have HK0 : Hid _ := hK0
      have HOWN0 : Hid (wU.ownsRow w0.heap.size 9 1 (.slice ao0 nK c0) nK Y0) := own0
      have BA0 : Below wU.heap.size wU (wU.alloc (.cells #[.string key] 9)).drew := ((Below.refl _ _).alloc (Nat.le_refl _) _).drew
      have ag0 : (wU.alloc (.cells #[.string key] 9)).drew.cell? ⟨gm, 6, none⟩ = some (.slice (some ⟨bx0, 0, none⟩) nN cx0) := cell_later BA0 cg0
      have ae0 : (wU.alloc (.cells #[.string key] 9)).drew.cell? ⟨bx0, e, none⟩ = some (.slice ao0 nK c0) := cell_later BA0 ce0
      have af0 : (wU.alloc (.cells #[.string key] 9)).drew.frozen? ⟨bx0, e, none⟩ = false := by rw [BA0.frozen lb0]; exact fe0
      clear hK0 own0 hly0 hlx0 BA0 en0 enx0
      go_region_law
        (refine step_append_lies _ (by rfl) _ _ _ (by rfl) w0.heap.size 9 i9 _ 1 16 Try.underlying22 hi9 hz9 ho9 hb9 rfl (by omega) (.slice ao0 nK c0) nK Y0 (by rfl) ((HOWN0.out.alloc _).drew) ⟨wU.heap.size, 0, none⟩ 1 1 [.string key] (by rfl) (by rfl) (World.news_of_block (cs := #[.string key]) (t := 9) (fr := (0, 0)) (heap_alloc_new wU _)) (by simp [Value.oneCell']) (by omega) (by unfold maxLen; omega) (by omega) (by simp; omega) (wU.heap.size + 1) (by simp) ?_
         intro g0 cap0 z0 q1 q2 q3 q4
         have zg0 : z0.cell? ⟨gm, 6, none⟩ = some (.slice (some ⟨bx0, 0, none⟩) nN cx0) := by rw [q2.cell_far _ (by simp; omega) (Ne.symm ng0)]; exact ag0
         have ze0 : z0.cell? ⟨bx0, e, none⟩ = some (.slice ao0 nK c0) := by rw [q2.cell_far _ (by simp; omega) (Ne.symm nb0)]; exact ae0
         have zf0 : z0.frozen? ⟨bx0, e, none⟩ = false := by rw [q2.frozen_far _ (by simp; omega) (Ne.symm nb0)]; exact af0)
      all_goals
        obtain ⟨V0', X0', eX0, hRM0⟩ := HK0.out g0 cap0 z0 q1 q2 q3
        have HRM : Hid (∃ V' X' vv, (V' = updN V (9 + 3 * e) vv ∧ X' = updN (updN X (9 + 3 * e) (X (9 + 3 * e) ++ [.string key])) 5 ((X 5).set e vv)) ∧ RM w0 (z0.setCell ⟨bx0, e, none⟩ (.slice (some ⟨g0, 0, none⟩) (nK + 1) cap0)) gm ma V' X' ((ma, mp) :: FM.set e (b, aset fm key (.int .i64 (nK : Int))))) := ⟨V0', X0', _, eX0, hRM0⟩
        clear q1 q2 q3 q4 eX0 hRM0 HK0 HOWN0
        go_wp2_with fail
        go_meet
        exact HRM.out
    case rest =>
    obtain ⟨V0', X0', v0', eX0, hRM0⟩ := hcut
    have HE0 : Hid (V0' = updN V (9 + 3 * e) v0' ∧ X0' = updN (updN X (9 + 3 * e) (X (9 + 3 * e) ++ [.string key])) 5 ((X 5).set e v0')) := eX0
    have HR1 : Hid (RM w0 wc gm ma V0' X0' ((ma, mp) :: FM.set e (b, aset fm key (.int .i64 (nK : Int))))) := hRM0
    clear eX0 hRM0
    generalize wc = y0 at HR1 ⊢
    go_upto_region 7 with fail
    go_cut [] from 57 to 71 (fun wx => ∃ V' X' vv, (V' = updN V0' (10 + 3 * e) vv ∧ X' = updN (updN X0' (10 + 3 * e) (X0' (10 + 3 * e) ++ [.int .i64 0])) 6 ((X0' 6).set e vv)) ∧ RM w0 wx gm ma V' X' ((ma, mp) :: FM.set e (b, aset fm key (.int .i64 (nK : Int)))))
    case first =>
      obtain ⟨bx1, cx1, nx1, ao1, n1, c1, Y1, enx1, hen1, en1, -, cg1, ce1, fe1, lg1, lb1, lw1, own1, ng1, nb1, hK1⟩ := RM.nest HR1.out 6 (10 + 3 * e) e (by omega) (by omega) 7 rfl 3 HRT.out.2.1 (by rw [HE0.out.1, HE0.out.2, updN_ne _ _ (by omega), updN_ne _ _ (by omega), updN_ne _ _ (by omega)]; exact HX.out.2.1) (.int .i64 0)
      have hly1 : (X0' (10 + 3 * e)).length = nK := (by rw [HE0.out.2, updN_ne _ _ (by omega), updN_ne _ _ (by omega)]; exact HL.out.2.1)
      have hlx1 : (X0' 6).length = nN := (by rw [HE0.out.2, updN_ne _ _ (by omega), updN_ne _ _ (by omega)]; exact HX.out.2.2.2.2.1)
      rw [hly1] at en1
      rw [hlx1] at enx1
      obtain rfl := en1.symm
      obtain rfl := enx1.symm
      have HK1 : Hid _ := hK1
      have HOWN1 : Hid (y0.ownsRow w0.heap.size 3 1 (.slice ao1 nK c1) nK Y1) := own1
      have BA1 : Below y0.heap.size y0 (y0.alloc (.cells #[.int .i64 0] 3)).drew := ((Below.refl _ _).alloc (Nat.le_refl _) _).drew
      have ag1 : (y0.alloc (.cells #[.int .i64 0] 3)).drew.cell? ⟨gm, 7, none⟩ = some (.slice (some ⟨bx1, 0, none⟩) nN cx1) := cell_later BA1 cg1
      have ae1 : (y0.alloc (.cells #[.int .i64 0] 3)).drew.cell? ⟨bx1, e, none⟩ = some (.slice ao1 nK c1) := cell_later BA1 ce1
      have af1 : (y0.alloc (.cells #[.int .i64 0] 3)).drew.frozen? ⟨bx1, e, none⟩ = false := by rw [BA1.frozen lb1]; exact fe1
      clear hK1 own1 hly1 hlx1 BA1 en1 enx1
      go_region_law
        (refine step_append_lies _ (by rfl) _ _ _ (by rfl) w0.heap.size 3 i3 _ 1 8 Try.underlying24 hi3 hz3 ho3 hb3 rfl (by omega) (.slice ao1 nK c1) nK Y1 (by rfl) ((HOWN1.out.alloc _).drew) ⟨y0.heap.size, 0, none⟩ 1 1 [.int .i64 0] (by rfl) (by rfl) (World.news_of_block (cs := #[.int .i64 0]) (t := 3) (fr := (0, 0)) (heap_alloc_new y0 _)) (by simp [Value.oneCell']) (by omega) (by unfold maxLen; omega) (by omega) (by simp; omega) (y0.heap.size + 1) (by simp) ?_
         intro g1 cap1 z1 q1 q2 q3 q4
         have zg1 : z1.cell? ⟨gm, 7, none⟩ = some (.slice (some ⟨bx1, 0, none⟩) nN cx1) := by rw [q2.cell_far _ (by simp; omega) (Ne.symm ng1)]; exact ag1
         have ze1 : z1.cell? ⟨bx1, e, none⟩ = some (.slice ao1 nK c1) := by rw [q2.cell_far _ (by simp; omega) (Ne.symm nb1)]; exact ae1
         have zf1 : z1.frozen? ⟨bx1, e, none⟩ = false := by rw [q2.frozen_far _ (by simp; omega) (Ne.symm nb1)]; exact af1)
      all_goals
        obtain ⟨V1', X1', eX1, hRM1⟩ := HK1.out g1 cap1 z1 q1 q2 q3
        have HRM : Hid (∃ V' X' vv, (V' = updN V0' (10 + 3 * e) vv ∧ X' = updN (updN X0' (10 + 3 * e) (X0' (10 + 3 * e) ++ [.int .i64 0])) 6 ((X0' 6).set e vv)) ∧ RM w0 (z1.setCell ⟨bx1, e, none⟩ (.slice (some ⟨g1, 0, none⟩) (nK + 1) cap1)) gm ma V' X' ((ma, mp) :: FM.set e (b, aset fm key (.int .i64 (nK : Int))))) := ⟨V1', X1', _, eX1, hRM1⟩
        clear q1 q2 q3 q4 eX1 hRM1 HK1 HOWN1
        go_wp2_with fail
        go_meet
        exact HRM.out
    case rest =>
    obtain ⟨V1', X1', v1', eX1, hRM1⟩ := hcut
    have HE1 : Hid (V1' = updN V0' (10 + 3 * e) v1' ∧ X1' = updN (updN X0' (10 + 3 * e) (X0' (10 + 3 * e) ++ [.int .i64 0])) 6 ((X0' 6).set e v1')) := eX1
    have HR2 : Hid (RM w0 wc gm ma V1' X1' ((ma, mp) :: FM.set e (b, aset fm key (.int .i64 (nK : Int))))) := hRM1
    clear eX1 hRM1
    generalize wc = y1 at HR2 ⊢
    go_upto_region 8 with fail
    go_cut [] from 72 to 86 (fun wx => ∃ V' X' vv, (V' = updN V1' (11 + 3 * e) vv ∧ X' = updN (updN X1' (11 + 3 * e) (X1' (11 + 3 * e) ++ [.int .i64 0])) 7 ((X1' 7).set e vv)) ∧ RM w0 wx gm ma V' X' ((ma, mp) :: FM.set e (b, aset fm key (.int .i64 (nK : Int)))))
    case first =>
      obtain ⟨bx2, cx2, nx2, ao2, n2, c2, Y2, enx2, hen2, en2, -, cg2, ce2, fe2, lg2, lb2, lw2, own2, ng2, nb2, hK2⟩ := RM.nest HR2.out 7 (11 + 3 * e) e (by omega) (by omega) 8 rfl 3 HRT.out.2.2 (by rw [HE1.out.1, HE1.out.2, HE0.out.1, HE0.out.2, updN_ne _ _ (by omega), updN_ne _ _ (by omega), updN_ne _ _ (by omega), updN_ne _ _ (by omega), updN_ne _ _ (by omega), updN_ne _ _ (by omega)]; exact HX.out.2.2.1) (.int .i64 0)
      have hly2 : (X1' (11 + 3 * e)).length = nK := (by rw [HE1.out.2, updN_ne _ _ (by omega), updN_ne _ _ (by omega), HE0.out.2, updN_ne _ _ (by omega), updN_ne _ _ (by omega)]; exact HL.out.2.2)
      have hlx2 : (X1' 7).length = nN := (by rw [HE1.out.2, updN_ne _ _ (by omega), updN_ne _ _ (by omega), HE0.out.2, updN_ne _ _ (by omega), updN_ne _ _ (by omega)]; exact HX.out.2.2.2.2.2)
      rw [hly2] at en2
      rw [hlx2] at enx2
      obtain rfl := en2.symm
      obtain rfl := enx2.symm
      have HK2 : Hid _ := hK2
      have HOWN2 : Hid (y1.ownsRow w0.heap.size 3 1 (.slice ao2 nK c2) nK Y2) := own2
      have BA2 : Below y1.heap.size y1 (y1.alloc (.cells #[.int .i64 0] 3)).drew := ((Below.refl _ _).alloc (Nat.le_refl _) _).drew
      have ag2 : (y1.alloc (.cells #[.int .i64 0] 3)).drew.cell? ⟨gm, 8, none⟩ = some (.slice (some ⟨bx2, 0, none⟩) nN cx2) := cell_later BA2 cg2
      have ae2 : (y1.alloc (.cells #[.int .i64 0] 3)).drew.cell? ⟨bx2, e, none⟩ = some (.slice ao2 nK c2) := cell_later BA2 ce2
      have af2 : (y1.alloc (.cells #[.int .i64 0] 3)).drew.frozen? ⟨bx2, e, none⟩ = false := by rw [BA2.frozen lb2]; exact fe2
      clear hK2 own2 hly2 hlx2 BA2 en2 enx2
      go_region_law
        (refine step_append_lies _ (by rfl) _ _ _ (by rfl) w0.heap.size 3 i3 _ 1 8 Try.underlying24 hi3 hz3 ho3 hb3 rfl (by omega) (.slice ao2 nK c2) nK Y2 (by rfl) ((HOWN2.out.alloc _).drew) ⟨y1.heap.size, 0, none⟩ 1 1 [.int .i64 0] (by rfl) (by rfl) (World.news_of_block (cs := #[.int .i64 0]) (t := 3) (fr := (0, 0)) (heap_alloc_new y1 _)) (by simp [Value.oneCell']) (by omega) (by unfold maxLen; omega) (by omega) (by simp; omega) (y1.heap.size + 1) (by simp) ?_
         intro g2 cap2 z2 q1 q2 q3 q4
         have zg2 : z2.cell? ⟨gm, 8, none⟩ = some (.slice (some ⟨bx2, 0, none⟩) nN cx2) := by rw [q2.cell_far _ (by simp; omega) (Ne.symm ng2)]; exact ag2
         have ze2 : z2.cell? ⟨bx2, e, none⟩ = some (.slice ao2 nK c2) := by rw [q2.cell_far _ (by simp; omega) (Ne.symm nb2)]; exact ae2
         have zf2 : z2.frozen? ⟨bx2, e, none⟩ = false := by rw [q2.frozen_far _ (by simp; omega) (Ne.symm nb2)]; exact af2)
      all_goals
        obtain ⟨V2', X2', eX2, hRM2⟩ := HK2.out g2 cap2 z2 q1 q2 q3
        have HRM : Hid (∃ V' X' vv, (V' = updN V1' (11 + 3 * e) vv ∧ X' = updN (updN X1' (11 + 3 * e) (X1' (11 + 3 * e) ++ [.int .i64 0])) 7 ((X1' 7).set e vv)) ∧ RM w0 (z2.setCell ⟨bx2, e, none⟩ (.slice (some ⟨g2, 0, none⟩) (nK + 1) cap2)) gm ma V' X' ((ma, mp) :: FM.set e (b, aset fm key (.int .i64 (nK : Int))))) := ⟨V2', X2', _, eX2, hRM2⟩
        clear q1 q2 q3 q4 eX2 hRM2 HK2 HOWN2
        go_wp2_with fail
        go_meet
        exact HRM.out
    case rest =>
    obtain ⟨V2', X2', v2', eX2, hRM2⟩ := hcut
    have HE2 : Hid (V2' = updN V1' (11 + 3 * e) v2' ∧ X2' = updN (updN X1' (11 + 3 * e) (X1' (11 + 3 * e) ++ [.int .i64 0])) 7 ((X1' 7).set e v2')) := eX2
    have HR3 : Hid (RM w0 wc gm ma V2' X2' ((ma, mp) :: FM.set e (b, aset fm key (.int .i64 (nK : Int))))) := hRM2
    clear eX2 hRM2
    generalize wc = y2 at HR3 ⊢
    go_wp2
    go_ret
    refine ⟨nK, rfl, ?_, ?_⟩
    · rw [TS.fol_out HID.out, HNK.out]
      simp [upd]
    · rw [TS.fol_out HID.out]
      have hfin := HR3.out
      rw [HE2.out.1, HE1.out.1, HE0.out.1, HNK.out] at hfin
      exact TM.follow HP.out.1 HP.out.2.1 HP.out.2.2.1 HP.out.2.2.2.1 HP.out.2.2.2.2.1 HP.out.2.2.2.2.2.1 HP.out.2.2.2.2.2.2 HE0.out.2 HE1.out.2 HE2.out.2 hfin

end Go.Proofs.Qxb6603051a
