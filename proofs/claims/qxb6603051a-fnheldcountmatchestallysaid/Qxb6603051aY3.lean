/-
  Seat b6603051a: the walk of cb1ModelEntry (47).
-/
import Derived.Test.Qxb6603051aY2
namespace Go.Proofs.Qxb6603051a
open Go.RowKit
set_option linter.unusedVariables false
set_option linter.unusedSimpArgs false

theorem TX.lens {s : TS} {V X : _} {FM : List (Nat × AMap)} (h : TX s V X FM) : (X 0).length = s.N.length ∧ (X 1).length = s.N.length ∧ (X 2).length = s.N.length ∧ (X 3).length = s.N.length ∧ (X 4).length = s.N.length ∧ (X 5).length = s.N.length ∧ (X 6).length = s.N.length ∧ (X 7).length = s.N.length ∧ (X 8).length = s.N.length := by
  obtain ⟨x0, x1, x2, x3, x4, x5, x6, x7, x8, xl, -⟩ := h
  rw [x0, x1, x2, x3, x4, x5, x6, x7, x8]
  simp [xl]

theorem run_makeMap_none (w : World) : (Instr.makeMap 23 none).run Try.prog w = .ok (.map (some w.heap.size)) (w.alloc (.map #[] 0)) := by
  simp [Instr.makeMap, run_underlying Try.underlying23, Result.andThen]

set_option maxRecDepth 100000 in
set_option maxHeartbeats 4000000 in
theorem entry_any (w0 w : World) (gm : Nat) (U : List ByteArray) (s : TS) (id : ByteArray) (h : TM w0 w gm U s) (hU : id ∈ U) (hUl : U.length ≤ 1048576) :
    Calls Try.prog 47 #[.pointer (some ⟨gm, 0, none⟩), .string id] w fun e w' => ∃ k : Nat, e = .returned (.int .i64 k) ∧ (s.ent id).N[k]? = some id ∧ TM w0 w' gm U (s.ent id) := by
  obtain ⟨hp, ma, V, X, mp, FM, hR, hx, hm⟩ := h
  have hNl : s.N.length ≤ 1048576 := Nat.le_trans (len_le_of_sub hp.1 hp.2.2.2.2.1) hUl
  have cm := hR.at
  have hMa := (hR.2.2.2.1 ma mp (.head _)).1
  have hMb := (hR.2.2.2.1 ma mp (.head _)).2
  have lk := run_lookup_my (P := Try.prog) (T := 23) (K := 9) (E := 3) Try.underlying23 Try.underlying9 _ (Try.zero3 w) hMa id true
  rw [hm.1 id] at lk
  cases hid : idx s.N id with
  | some k =>
    rw [hid] at lk
    have HF : Hid ((s.ent id).N[k]? = some id ∧ TM w0 w gm U (s.ent id)) := by
      rw [TS.ent_in hid]
      exact ⟨idx_get hid, hp, ma, V, X, mp, FM, hR, hx, hm⟩
    simp only [Option.map_some, Option.getD_some, Option.isSome_some, if_true] at lk
    clear hp hR hx hm hMa hMb hid
    go_enter Try.func47, Try.ntmps47
    go_wp2
    go_ret
    exact ⟨k, rfl, HF.out⟩
  | none =>
    rw [hid] at lk
    simp only [Option.map_none, Option.getD_none, Option.isSome_none, if_true] at lk
    have hnot : id ∉ s.N := idx_none.1 hid
    obtain ⟨l0, l1, l2, l3, l4, l5, l6, l7, l8⟩ := hx.lens
    have c0 := (hR.head (x := 0) (by omega)).1
    obtain ⟨ao0, cc0, ev0, -, -⟩ := own_shape (hR.2.2.1.1 0)
    rw [ev0, l0] at c0
    have cz : w.cell? ⟨gm, 0, none⟩ = some (.slice ao0 s.N.length cc0) := c0
    obtain ⟨wU, hup, hmU, hgU, hsU⟩ := run_update_my (P := Try.prog) (T := 23) (K := 9) (E := 3) Try.underlying23 Try.underlying9 hMa id (.int .i64 (s.N.length : Int))
    have hR0 : RM w0 wU gm ma V X ((ma, aset mp id (.int .i64 (s.N.length : Int))) :: FM) := hR.mapped hMa hMb hgU hmU (fun b q hq => by
      rcases List.mem_cons.1 hq with h | h
      · cases h; exact .inl ⟨rfl, rfl⟩
      · exact .inr ⟨fun e => (List.pairwise_cons.1 hm.2.2).1 (b, q) h e.symm, .tail _ h⟩)
    have HP : Hid (TP U s ∧ id ∉ s.N ∧ id ∈ U ∧ TX s V X FM ∧ TMaps s ma mp FM) := ⟨hp, hnot, hU, hx, hm⟩
    have HR0 : Hid (RM w0 wU gm ma V X ((ma, aset mp id (.int .i64 (s.N.length : Int))) :: FM)) := hR0
    have HL : Hid ((X 0).length = s.N.length ∧ (X 1).length = s.N.length ∧ (X 2).length = s.N.length ∧ (X 3).length = s.N.length ∧ (X 4).length = s.N.length ∧ (X 5).length = s.N.length ∧ (X 6).length = s.N.length ∧ (X 7).length = s.N.length ∧ (X 8).length = s.N.length) := ⟨l0, l1, l2, l3, l4, l5, l6, l7, l8⟩
    have HNL : Hid (s.N.length ≤ 1048576) := hNl
    have HID : Hid (idx s.N id = none) := hid
    clear hp hR hx hm hMa hMb hid hnot l0 l1 l2 l3 l4 l5 l6 l7 l8 c0 ev0 hmU hgU hsU hR0 hNl
    generalize hnn : s.N.length = nN at *
    have HNN : Hid (s.N.length = nN) := hnn
    clear hnn
    go_enter Try.func47, Try.ntmps47
    go_upto_region 6 with fail
    clear lk cm cz hup
    obtain ⟨i9, hi9, hz9, ho9, hb9⟩ := info_parts Try.info9
    obtain ⟨i3, hi3, hz3, ho3, hb3⟩ := info_parts Try.info3
    obtain ⟨i22, hi22, hz22, ho22, hb22⟩ := info_parts Try.info22
    obtain ⟨i24, hi24, hz24, ho24, hb24⟩ := info_parts Try.info24
    obtain ⟨i23, hi23, hz23, ho23, hb23⟩ := info_parts Try.info23
    have hl0 : (X 0).length = nN := by exact HL.out.1
    obtain ⟨ao0, n0, cc0, Y0, en0, eY0, hc0, hown0, hsz0, hK0⟩ := RM.appL HR0.out 0 (by omega) 0 rfl 9 rfl (.string id)
    rw [hl0] at en0
    obtain rfl := en0.symm
    have HK0 : Hid _ := hK0
    have hnl := HNL.out
    clear hK0 eY0 hl0
    go_upto_region 7 with (at_builtin; refine wpList_append_lies _ (by rfl) _ _ _ (by rfl) w0.heap.size 9 i9 _ 1 16 Try.underlying22 hi9 hz9 ho9 hb9 rfl (by omega) (.slice ao0 nN cc0) nN Y0 (by rfl) hown0 ⟨wU.heap.size, 0, none⟩ 1 1 [.string id] (by rfl) (by rfl) (World.news_of_block (cs := #[.string id]) (t := 9) (fr := (0, 0)) (heap_alloc_new wU _)) (by simp [Value.oneCell']) (by omega) (by unfold maxLen; omega) (by omega) hsz0 (wU.heap.size + 1) (by simp) ?_; intro g0 cap0 w0' q1 q2 q3 q4; obtain ⟨hcc0, hf0, V0', X0', eX0, hRM0⟩ := HK0.out g0 cap0 w0' q1 q2 q3; clear q1 q2 q3 q4)
    have HX0 : Hid (V0' = updN V 0 (.slice (some ⟨g0, 0, none⟩) (nN + 1) cap0) ∧ X0' = updN X 0 (X 0 ++ [.string id])) := eX0
    have HR1 : Hid (RM w0 (w0'.setCell ⟨gm, 0, none⟩ (.slice (some ⟨g0, 0, none⟩) (nN + 1) cap0)) gm ma V0' X0' ((ma, aset mp id (.int .i64 (nN : Int))) :: FM)) := hRM0
    clear eX0 hRM0 hc0 hown0 hsz0 HK0 hcc0 hf0
    generalize w0'.setCell ⟨gm, 0, none⟩ (.slice (some ⟨g0, 0, none⟩) (nN + 1) cap0) = y0 at HR1 ⊢
    have hl1 : (X0' 1).length = nN := by rw [HX0.out.2, updN_ne _ _ (by omega)]; exact HL.out.2.1
    obtain ⟨ao1, n1, cc1, Y1, en1, eY1, hc1, hown1, hsz1, hK1⟩ := RM.appL HR1.out 1 (by omega) 2 rfl 3 rfl (.int .i64 0)
    rw [hl1] at en1
    obtain rfl := en1.symm
    have HK1 : Hid _ := hK1
    have hnl := HNL.out
    clear hK1 eY1 hl1
    go_upto_region 8 with (at_builtin; refine wpList_append_lies _ (by rfl) _ _ _ (by rfl) w0.heap.size 3 i3 _ 1 8 Try.underlying24 hi3 hz3 ho3 hb3 rfl (by omega) (.slice ao1 nN cc1) nN Y1 (by rfl) hown1 ⟨y0.heap.size, 0, none⟩ 1 1 [.int .i64 0] (by rfl) (by rfl) (World.news_of_block (cs := #[.int .i64 0]) (t := 3) (fr := (0, 0)) (heap_alloc_new y0 _)) (by simp [Value.oneCell']) (by omega) (by unfold maxLen; omega) (by omega) hsz1 (y0.heap.size + 1) (by simp) ?_; intro g1 cap1 w1' q1 q2 q3 q4; obtain ⟨hcc1, hf1, V1', X1', eX1, hRM1⟩ := HK1.out g1 cap1 w1' q1 q2 q3; clear q1 q2 q3 q4)
    have HX1 : Hid (V1' = updN V0' 1 (.slice (some ⟨g1, 0, none⟩) (nN + 1) cap1) ∧ X1' = updN X0' 1 (X0' 1 ++ [.int .i64 0])) := eX1
    have HR2 : Hid (RM w0 (w1'.setCell ⟨gm, 2, none⟩ (.slice (some ⟨g1, 0, none⟩) (nN + 1) cap1)) gm ma V1' X1' ((ma, aset mp id (.int .i64 (nN : Int))) :: FM)) := hRM1
    clear eX1 hRM1 hc1 hown1 hsz1 HK1 hcc1 hf1
    generalize w1'.setCell ⟨gm, 2, none⟩ (.slice (some ⟨g1, 0, none⟩) (nN + 1) cap1) = y1 at HR2 ⊢
    have hl2 : (X1' 2).length = nN := by rw [HX1.out.2, updN_ne _ _ (by omega), HX0.out.2, updN_ne _ _ (by omega)]; exact HL.out.2.2.1
    obtain ⟨ao2, n2, cc2, Y2, en2, eY2, hc2, hown2, hsz2, hK2⟩ := RM.appL HR2.out 2 (by omega) 3 rfl 3 rfl (.int .i64 0)
    rw [hl2] at en2
    obtain rfl := en2.symm
    have HK2 : Hid _ := hK2
    have hnl := HNL.out
    clear hK2 eY2 hl2
    go_upto_region 9 with (at_builtin; refine wpList_append_lies _ (by rfl) _ _ _ (by rfl) w0.heap.size 3 i3 _ 1 8 Try.underlying24 hi3 hz3 ho3 hb3 rfl (by omega) (.slice ao2 nN cc2) nN Y2 (by rfl) hown2 ⟨y1.heap.size, 0, none⟩ 1 1 [.int .i64 0] (by rfl) (by rfl) (World.news_of_block (cs := #[.int .i64 0]) (t := 3) (fr := (0, 0)) (heap_alloc_new y1 _)) (by simp [Value.oneCell']) (by omega) (by unfold maxLen; omega) (by omega) hsz2 (y1.heap.size + 1) (by simp) ?_; intro g2 cap2 w2' q1 q2 q3 q4; obtain ⟨hcc2, hf2, V2', X2', eX2, hRM2⟩ := HK2.out g2 cap2 w2' q1 q2 q3; clear q1 q2 q3 q4)
    have HX2 : Hid (V2' = updN V1' 2 (.slice (some ⟨g2, 0, none⟩) (nN + 1) cap2) ∧ X2' = updN X1' 2 (X1' 2 ++ [.int .i64 0])) := eX2
    have HR3 : Hid (RM w0 (w2'.setCell ⟨gm, 3, none⟩ (.slice (some ⟨g2, 0, none⟩) (nN + 1) cap2)) gm ma V2' X2' ((ma, aset mp id (.int .i64 (nN : Int))) :: FM)) := hRM2
    clear eX2 hRM2 hc2 hown2 hsz2 HK2 hcc2 hf2
    generalize w2'.setCell ⟨gm, 3, none⟩ (.slice (some ⟨g2, 0, none⟩) (nN + 1) cap2) = y2 at HR3 ⊢
    have hl3 : (X2' 3).length = nN := by rw [HX2.out.2, updN_ne _ _ (by omega), HX1.out.2, updN_ne _ _ (by omega), HX0.out.2, updN_ne _ _ (by omega)]; exact HL.out.2.2.2.1
    obtain ⟨ao3, n3, cc3, Y3, en3, eY3, hc3, hown3, hsz3, hK3⟩ := RM.appL HR3.out 3 (by omega) 4 rfl 3 rfl (.int .i64 0)
    rw [hl3] at en3
    obtain rfl := en3.symm
    have HK3 : Hid _ := hK3
    have hnl := HNL.out
    clear hK3 eY3 hl3
    go_upto_region 10 with (at_builtin; refine wpList_append_lies _ (by rfl) _ _ _ (by rfl) w0.heap.size 3 i3 _ 1 8 Try.underlying24 hi3 hz3 ho3 hb3 rfl (by omega) (.slice ao3 nN cc3) nN Y3 (by rfl) hown3 ⟨y2.heap.size, 0, none⟩ 1 1 [.int .i64 0] (by rfl) (by rfl) (World.news_of_block (cs := #[.int .i64 0]) (t := 3) (fr := (0, 0)) (heap_alloc_new y2 _)) (by simp [Value.oneCell']) (by omega) (by unfold maxLen; omega) (by omega) hsz3 (y2.heap.size + 1) (by simp) ?_; intro g3 cap3 w3' q1 q2 q3 q4; obtain ⟨hcc3, hf3, V3', X3', eX3, hRM3⟩ := HK3.out g3 cap3 w3' q1 q2 q3; clear q1 q2 q3 q4)
    have HX3 : Hid (V3' = updN V2' 3 (.slice (some ⟨g3, 0, none⟩) (nN + 1) cap3) ∧ X3' = updN X2' 3 (X2' 3 ++ [.int .i64 0])) := eX3
    have HR4 : Hid (RM w0 (w3'.setCell ⟨gm, 4, none⟩ (.slice (some ⟨g3, 0, none⟩) (nN + 1) cap3)) gm ma V3' X3' ((ma, aset mp id (.int .i64 (nN : Int))) :: FM)) := hRM3
    clear eX3 hRM3 hc3 hown3 hsz3 HK3 hcc3 hf3
    generalize w3'.setCell ⟨gm, 4, none⟩ (.slice (some ⟨g3, 0, none⟩) (nN + 1) cap3) = y3 at HR4 ⊢
    have hl4 : (X3' 4).length = nN := by rw [HX3.out.2, updN_ne _ _ (by omega), HX2.out.2, updN_ne _ _ (by omega), HX1.out.2, updN_ne _ _ (by omega), HX0.out.2, updN_ne _ _ (by omega)]; exact HL.out.2.2.2.2.1
    obtain ⟨ao4, n4, cc4, Y4, en4, eY4, hc4, hown4, hsz4, hK4⟩ := RM.appL HR4.out 4 (by omega) 5 rfl 3 rfl (.int .i64 0)
    rw [hl4] at en4
    obtain rfl := en4.symm
    have HK4 : Hid _ := hK4
    have hnl := HNL.out
    clear hK4 eY4 hl4
    go_upto_region 11 with (at_builtin; refine wpList_append_lies _ (by rfl) _ _ _ (by rfl) w0.heap.size 3 i3 _ 1 8 Try.underlying24 hi3 hz3 ho3 hb3 rfl (by omega) (.slice ao4 nN cc4) nN Y4 (by rfl) hown4 ⟨y3.heap.size, 0, none⟩ 1 1 [.int .i64 0] (by rfl) (by rfl) (World.news_of_block (cs := #[.int .i64 0]) (t := 3) (fr := (0, 0)) (heap_alloc_new y3 _)) (by simp [Value.oneCell']) (by omega) (by unfold maxLen; omega) (by omega) hsz4 (y3.heap.size + 1) (by simp) ?_; intro g4 cap4 w4' q1 q2 q3 q4; obtain ⟨hcc4, hf4, V4', X4', eX4, hRM4⟩ := HK4.out g4 cap4 w4' q1 q2 q3; clear q1 q2 q3 q4)
    have HX4 : Hid (V4' = updN V3' 4 (.slice (some ⟨g4, 0, none⟩) (nN + 1) cap4) ∧ X4' = updN X3' 4 (X3' 4 ++ [.int .i64 0])) := eX4
    have HR5 : Hid (RM w0 (w4'.setCell ⟨gm, 5, none⟩ (.slice (some ⟨g4, 0, none⟩) (nN + 1) cap4)) gm ma V4' X4' ((ma, aset mp id (.int .i64 (nN : Int))) :: FM)) := hRM4
    clear eX4 hRM4 hc4 hown4 hsz4 HK4 hcc4 hf4
    generalize w4'.setCell ⟨gm, 5, none⟩ (.slice (some ⟨g4, 0, none⟩) (nN + 1) cap4) = y4 at HR5 ⊢
    have hl5 : (X4' 5).length = nN := by rw [HX4.out.2, updN_ne _ _ (by omega), HX3.out.2, updN_ne _ _ (by omega), HX2.out.2, updN_ne _ _ (by omega), HX1.out.2, updN_ne _ _ (by omega), HX0.out.2, updN_ne _ _ (by omega)]; exact HL.out.2.2.2.2.2.1
    obtain ⟨ao5, n5, cc5, Y5, en5, eY5, hc5, hown5, hsz5, hK5⟩ := RM.appL HR5.out 5 (by omega) 6 rfl 22 rfl (.slice none 0 0)
    rw [hl5] at en5
    obtain rfl := en5.symm
    have HK5 : Hid _ := hK5
    have hnl := HNL.out
    clear hK5 eY5 hl5
    go_upto_region 12 with (at_builtin; refine wpList_append_lies _ (by rfl) _ _ _ (by rfl) w0.heap.size 22 i22 _ 1 24 Try.underlying43 hi22 hz22 ho22 hb22 rfl (by omega) (.slice ao5 nN cc5) nN Y5 (by rfl) hown5 ⟨y4.heap.size, 0, none⟩ 1 1 [.slice none 0 0] (by rfl) (by rfl) (World.news_of_block (cs := #[.slice none 0 0]) (t := 22) (fr := (0, 0)) (heap_alloc_new y4 _)) (by simp [Value.oneCell']) (by omega) (by unfold maxLen; omega) (by omega) hsz5 (y4.heap.size + 1) (by simp) ?_; intro g5 cap5 w5' q1 q2 q3 q4; obtain ⟨hcc5, hf5, V5', X5', eX5, hRM5⟩ := HK5.out g5 cap5 w5' q1 q2 q3; clear q1 q2 q3 q4)
    have HX5 : Hid (V5' = updN V4' 5 (.slice (some ⟨g5, 0, none⟩) (nN + 1) cap5) ∧ X5' = updN X4' 5 (X4' 5 ++ [.slice none 0 0])) := eX5
    have HR6 : Hid (RM w0 (w5'.setCell ⟨gm, 6, none⟩ (.slice (some ⟨g5, 0, none⟩) (nN + 1) cap5)) gm ma V5' X5' ((ma, aset mp id (.int .i64 (nN : Int))) :: FM)) := hRM5
    clear eX5 hRM5 hc5 hown5 hsz5 HK5 hcc5 hf5
    generalize w5'.setCell ⟨gm, 6, none⟩ (.slice (some ⟨g5, 0, none⟩) (nN + 1) cap5) = y5 at HR6 ⊢
    have hl6 : (X5' 6).length = nN := by rw [HX5.out.2, updN_ne _ _ (by omega), HX4.out.2, updN_ne _ _ (by omega), HX3.out.2, updN_ne _ _ (by omega), HX2.out.2, updN_ne _ _ (by omega), HX1.out.2, updN_ne _ _ (by omega), HX0.out.2, updN_ne _ _ (by omega)]; exact HL.out.2.2.2.2.2.2.1
    obtain ⟨ao6, n6, cc6, Y6, en6, eY6, hc6, hown6, hsz6, hK6⟩ := RM.appL HR6.out 6 (by omega) 7 rfl 24 rfl (.slice none 0 0)
    rw [hl6] at en6
    obtain rfl := en6.symm
    have HK6 : Hid _ := hK6
    have hnl := HNL.out
    clear hK6 eY6 hl6
    go_upto_region 13 with (at_builtin; refine wpList_append_lies _ (by rfl) _ _ _ (by rfl) w0.heap.size 24 i24 _ 1 24 Try.underlying52 hi24 hz24 ho24 hb24 rfl (by omega) (.slice ao6 nN cc6) nN Y6 (by rfl) hown6 ⟨y5.heap.size, 0, none⟩ 1 1 [.slice none 0 0] (by rfl) (by rfl) (World.news_of_block (cs := #[.slice none 0 0]) (t := 24) (fr := (0, 0)) (heap_alloc_new y5 _)) (by simp [Value.oneCell']) (by omega) (by unfold maxLen; omega) (by omega) hsz6 (y5.heap.size + 1) (by simp) ?_; intro g6 cap6 w6' q1 q2 q3 q4; obtain ⟨hcc6, hf6, V6', X6', eX6, hRM6⟩ := HK6.out g6 cap6 w6' q1 q2 q3; clear q1 q2 q3 q4)
    have HX6 : Hid (V6' = updN V5' 6 (.slice (some ⟨g6, 0, none⟩) (nN + 1) cap6) ∧ X6' = updN X5' 6 (X5' 6 ++ [.slice none 0 0])) := eX6
    have HR7 : Hid (RM w0 (w6'.setCell ⟨gm, 7, none⟩ (.slice (some ⟨g6, 0, none⟩) (nN + 1) cap6)) gm ma V6' X6' ((ma, aset mp id (.int .i64 (nN : Int))) :: FM)) := hRM6
    clear eX6 hRM6 hc6 hown6 hsz6 HK6 hcc6 hf6
    generalize w6'.setCell ⟨gm, 7, none⟩ (.slice (some ⟨g6, 0, none⟩) (nN + 1) cap6) = y6 at HR7 ⊢
    have hl7 : (X6' 7).length = nN := by rw [HX6.out.2, updN_ne _ _ (by omega), HX5.out.2, updN_ne _ _ (by omega), HX4.out.2, updN_ne _ _ (by omega), HX3.out.2, updN_ne _ _ (by omega), HX2.out.2, updN_ne _ _ (by omega), HX1.out.2, updN_ne _ _ (by omega), HX0.out.2, updN_ne _ _ (by omega)]; exact HL.out.2.2.2.2.2.2.2.1
    obtain ⟨ao7, n7, cc7, Y7, en7, eY7, hc7, hown7, hsz7, hK7⟩ := RM.appL HR7.out 7 (by omega) 8 rfl 24 rfl (.slice none 0 0)
    rw [hl7] at en7
    obtain rfl := en7.symm
    have HK7 : Hid _ := hK7
    have hnl := HNL.out
    clear hK7 eY7 hl7
    go_upto_region 14 with (at_builtin; refine wpList_append_lies _ (by rfl) _ _ _ (by rfl) w0.heap.size 24 i24 _ 1 24 Try.underlying52 hi24 hz24 ho24 hb24 rfl (by omega) (.slice ao7 nN cc7) nN Y7 (by rfl) hown7 ⟨y6.heap.size, 0, none⟩ 1 1 [.slice none 0 0] (by rfl) (by rfl) (World.news_of_block (cs := #[.slice none 0 0]) (t := 24) (fr := (0, 0)) (heap_alloc_new y6 _)) (by simp [Value.oneCell']) (by omega) (by unfold maxLen; omega) (by omega) hsz7 (y6.heap.size + 1) (by simp) ?_; intro g7 cap7 w7' q1 q2 q3 q4; obtain ⟨hcc7, hf7, V7', X7', eX7, hRM7⟩ := HK7.out g7 cap7 w7' q1 q2 q3; clear q1 q2 q3 q4)
    have HX7 : Hid (V7' = updN V6' 7 (.slice (some ⟨g7, 0, none⟩) (nN + 1) cap7) ∧ X7' = updN X6' 7 (X6' 7 ++ [.slice none 0 0])) := eX7
    have HR8 : Hid (RM w0 (w7'.setCell ⟨gm, 8, none⟩ (.slice (some ⟨g7, 0, none⟩) (nN + 1) cap7)) gm ma V7' X7' ((ma, aset mp id (.int .i64 (nN : Int))) :: FM)) := hRM7
    clear eX7 hRM7 hc7 hown7 hsz7 HK7 hcc7 hf7
    generalize w7'.setCell ⟨gm, 8, none⟩ (.slice (some ⟨g7, 0, none⟩) (nN + 1) cap7) = y7 at HR8 ⊢
    have hl8 : (X7' 8).length = nN := by rw [HX7.out.2, updN_ne _ _ (by omega), HX6.out.2, updN_ne _ _ (by omega), HX5.out.2, updN_ne _ _ (by omega), HX4.out.2, updN_ne _ _ (by omega), HX3.out.2, updN_ne _ _ (by omega), HX2.out.2, updN_ne _ _ (by omega), HX1.out.2, updN_ne _ _ (by omega), HX0.out.2, updN_ne _ _ (by omega)]; exact HL.out.2.2.2.2.2.2.2.2
    obtain ⟨gN, hgN⟩ : ∃ gN, gN = y7.heap.size := ⟨_, rfl⟩
    obtain ⟨wM, hwM⟩ : ∃ wM, wM = y7.alloc (.map #[] 0) := ⟨_, rfl⟩
    have hmk := run_makeMap_none y7
    obtain ⟨HM1, HM2⟩ := HR8.out.addMap
    have c8z := (HR8.out.head (x := 8) (by omega)).1
    rw [← hgN] at hmk HM1 HM2
    rw [← hwM] at hmk HM1
    have HNE : Hid (∀ p ∈ (ma, aset mp id (.int .i64 (nN : Int))) :: FM, p.1 ≠ gN) := HM2
    have c8w := (HM1.head (x := 8) (by omega)).1
    obtain ⟨ao8, n8, cc8, Y8, en8, eY8, hc8, hown8, hsz8, hK8⟩ := RM.appL HM1 8 (by omega) 9 rfl 23 rfl (.map (some gN))
    rw [hl8] at en8
    obtain rfl := en8.symm
    have HK8 : Hid _ := hK8
    have hnl := HNL.out
    clear hK8 eY8 hl8
    have c8y : y7.cell? ⟨gm, 9, none⟩ = some (.slice ao8 nN cc8) := by
      rw [show wM.cell? ⟨gm, ci 8, none⟩ = some (.slice ao8 nN cc8) from hc8] at c8w
      rw [Option.some.inj c8w]
      exact c8z
    have HWM : Hid (wM = y7.alloc (.map #[] 0) ∧ gN = y7.heap.size) := ⟨hwM, hgN⟩
    clear hwM hgN HM1 HM2 c8z c8w
    go_wp2_with (at_builtin; refine wpList_append_lies _ (by rfl) _ _ _ (by rfl) w0.heap.size 23 i23 _ 1 8 Try.underlying82 hi23 hz23 ho23 hb23 rfl (by omega) (.slice ao8 nN cc8) nN Y8 (by rfl) hown8 ⟨wM.heap.size, 0, none⟩ 1 1 [.map (some gN)] (by rfl) (by rfl) (World.news_of_block (cs := #[.map (some gN)]) (t := 23) (fr := (0, 0)) (heap_alloc_new wM _)) (by simp [Value.oneCell']) (by omega) (by unfold maxLen; omega) (by omega) hsz8 (wM.heap.size + 1) (by simp) ?_; intro g8 cap8 w8' q1 q2 q3 q4; obtain ⟨hcc8, hf8, V8', X8', eX8, hRM8⟩ := HK8.out g8 cap8 w8' q1 q2 q3; clear q1 q2 q3 q4)
    have HR9 : Hid (RM w0 (w8'.setCell ⟨gm, 9, none⟩ (.slice (some ⟨g8, 0, none⟩) (nN + 1) cap8)) gm ma V8' X8' ((ma, aset mp id (.int .i64 (nN : Int))) :: FM ++ [(gN, [])])) := hRM8
    have HX8 : Hid (V8' = updN V7' 8 (.slice (some ⟨g8, 0, none⟩) (nN + 1) cap8) ∧ X8' = updN X7' 8 (X7' 8 ++ [.map (some gN)])) := eX8
    clear hRM8 eX8
    go_ret
    refine ⟨nN, rfl, ?_, ?_⟩
    · rw [TS.ent_out HID.out, ← HNN.out]
      simp
    · rw [TS.ent_out HID.out]
      have hfin := HR9.out
      have e0 : X0' = updN X 0 (X 0 ++ [.string id]) := HX0.out.2
      have e1 : X1' = updN X0' 1 (X 1 ++ [.int .i64 0]) := by
        have := HX1.out.2
        rw [show X0' 1 = X 1 from by rw [HX0.out.2, updN_ne _ _ (by omega)]] at this
        exact this
      have e2 : X2' = updN X1' 2 (X 2 ++ [.int .i64 0]) := by
        have := HX2.out.2
        rw [show X1' 2 = X 2 from by rw [HX1.out.2, updN_ne _ _ (by omega), HX0.out.2, updN_ne _ _ (by omega)]] at this
        exact this
      have e3 : X3' = updN X2' 3 (X 3 ++ [.int .i64 0]) := by
        have := HX3.out.2
        rw [show X2' 3 = X 3 from by rw [HX2.out.2, updN_ne _ _ (by omega), HX1.out.2, updN_ne _ _ (by omega), HX0.out.2, updN_ne _ _ (by omega)]] at this
        exact this
      have e4 : X4' = updN X3' 4 (X 4 ++ [.int .i64 0]) := by
        have := HX4.out.2
        rw [show X3' 4 = X 4 from by rw [HX3.out.2, updN_ne _ _ (by omega), HX2.out.2, updN_ne _ _ (by omega), HX1.out.2, updN_ne _ _ (by omega), HX0.out.2, updN_ne _ _ (by omega)]] at this
        exact this
      have e5 : X5' = updN X4' 5 (X 5 ++ [.slice none 0 0]) := by
        have := HX5.out.2
        rw [show X4' 5 = X 5 from by rw [HX4.out.2, updN_ne _ _ (by omega), HX3.out.2, updN_ne _ _ (by omega), HX2.out.2, updN_ne _ _ (by omega), HX1.out.2, updN_ne _ _ (by omega), HX0.out.2, updN_ne _ _ (by omega)]] at this
        exact this
      have e6 : X6' = updN X5' 6 (X 6 ++ [.slice none 0 0]) := by
        have := HX6.out.2
        rw [show X5' 6 = X 6 from by rw [HX5.out.2, updN_ne _ _ (by omega), HX4.out.2, updN_ne _ _ (by omega), HX3.out.2, updN_ne _ _ (by omega), HX2.out.2, updN_ne _ _ (by omega), HX1.out.2, updN_ne _ _ (by omega), HX0.out.2, updN_ne _ _ (by omega)]] at this
        exact this
      have e7 : X7' = updN X6' 7 (X 7 ++ [.slice none 0 0]) := by
        have := HX7.out.2
        rw [show X6' 7 = X 7 from by rw [HX6.out.2, updN_ne _ _ (by omega), HX5.out.2, updN_ne _ _ (by omega), HX4.out.2, updN_ne _ _ (by omega), HX3.out.2, updN_ne _ _ (by omega), HX2.out.2, updN_ne _ _ (by omega), HX1.out.2, updN_ne _ _ (by omega), HX0.out.2, updN_ne _ _ (by omega)]] at this
        exact this
      have e8 : X8' = updN X7' 8 (X 8 ++ [.map (some gN)]) := by
        have := HX8.out.2
        rw [show X7' 8 = X 8 from by rw [HX7.out.2, updN_ne _ _ (by omega), HX6.out.2, updN_ne _ _ (by omega), HX5.out.2, updN_ne _ _ (by omega), HX4.out.2, updN_ne _ _ (by omega), HX3.out.2, updN_ne _ _ (by omega), HX2.out.2, updN_ne _ _ (by omega), HX1.out.2, updN_ne _ _ (by omega), HX0.out.2, updN_ne _ _ (by omega)]] at this
        exact this
      rw [e8, e7, e6, e5, e4, e3, e2, e1, e0, HX8.out.1, HX7.out.1, HX6.out.1, HX5.out.1, HX4.out.1, HX3.out.1, HX2.out.1, HX1.out.1, HX0.out.1, ← HNN.out] at hfin
      rw [← HNN.out]
      refine TM.enter (gN := gN) HP.out.1 HP.out.2.1 HP.out.2.2.1 HP.out.2.2.2.1 HP.out.2.2.2.2 (fun p hp => ?_) hfin
      rcases List.mem_cons.1 hp with h | h
      · rw [h]; exact HNE.out (ma, aset mp id (.int .i64 (nN : Int))) (.head _)
      · exact HNE.out p (.tail _ h)

end Go.Proofs.Qxb6603051a
