/-
  Seat b6603647a: zzHasPrefix (4), ZZnewPublicKey (5), bytes.Clone (7), (*PublicKey).Bytes (6).
-/
import Derived.Test.Qxb6603647aRows
import Derived.Test.Qxb6603647aBase
import Derived.Deep.WholeRow
import Derived.BigQuiet
namespace Go.Proofs.Qxb6603647a
open Go.RowKit
set_option linter.unusedVariables false

def BoolIs (e : Ending) : Prop := ∃ b, e = .returned (.bool b)

set_option maxHeartbeats 400000 in
theorem prefix_any (ao : Option Addr) (n c : Nat) (zs : List Int) (p : ByteArray) (w : World) (hs : Rd w ao (zs.map (Value.int .u8))) (hl : zs.length = n) (hn : n ≤ 1048576) (hp : p.size ≤ 1048576) :
    Calls Try.prog 4 #[.slice ao n c, .string p] w fun e w' => BoolIs e ∧ ∃ m, w' = w.drewN m := by
  by_cases h1 : n < p.size
  · go_enter Try.func4, Try.ntmps4
    go_wp2
    go_ret
    exact ⟨⟨_, rfl⟩, 0, rfl⟩
  go_enter Try.func4, Try.ntmps4
  go_wp2
  go_loopw [5] (fun i wr => ∃ k : Nat, k ≤ p.size ∧ i = .int .i64 k ∧ ∃ m, wr = w.drewN m) (fun i _ => p.size - (intOf i).toNat)
  case atStart => exact ⟨0, Nat.zero_le _, rfl, 0, rfl⟩
  case round =>
    obtain ⟨k, hk, rfl, m, rfl⟩ := hrel
    by_cases hlt : k < p.size
    · obtain ⟨b, off, hb, hc⟩ := hs.atInt (i := k) (by omega)
      subst hb
      have i1 : (k : Int) < (n : Int) := by omega
      have i2 : (k : Int) < (p.size : Int) := by omega
      go_wp2_with fail
      go_quiet (fail)
      go_wp2
      · go_ret
        exact ⟨⟨_, rfl⟩, _, World.drewN_drewN _ _ _⟩
      · go_roundw
        case rel => exact ⟨k + 1, by omega, by go_num, _, rfl⟩
        case measure => simp [intOf]; omega
    · go_wp2
      go_ret
      exact ⟨⟨_, rfl⟩, _, rfl⟩

/-- A whole array out of memory, at the operation. -/
theorem wpList_load_row {P : Program} (w : World) {ops : Array Oper} {rest : List Oper} {d : Option Tmp} {x : Operand} {ty : TypeId} {ps : String} {af : Array Edge} {a : Act} {Q : Exit → Act → World → Prop} (t : TypeId) (ad : Addr) (v : Value)
    (hx : a.eval x = .pointer (some ad)) (hr : (loadVar t ad).run P w = .ok v w) (h : wpList P ops Q rest (a.put d v) w) : wpList P ops Q ({ dst := d, op := .load t x, type := ty, pos := ps, after := af, guard := none } :: rest) a w := by
  refine wpList_plain rfl fun K hK => ?_
  unfold Oper.wp execOp
  simp only [hx, Instr.loadAt, Instr.sureAddr, Sem.run_bind, Sem.run_pure, Result.andThen, hr]
  exact hK _ _ h

theorem fold_whole : ∀ (l : List Value) (k : Nat) (acc : Array Value), acc.size = k + l.length →
    (l.zipIdx k).foldl (fun cs (p : Value × Nat) => cs.setIfInBounds (0 + p.2) p.1) acc = (acc.toList.take k ++ l).toArray
  | [], k, acc, h => by
    simp only [List.zipIdx_nil, List.foldl_nil, List.append_nil]
    rw [List.take_of_length_le (by simp at h; simp [h])]
  | x :: l, k, acc, h => by
    rw [List.zipIdx_cons, List.foldl_cons, fold_whole l (k + 1) _ (by simp at h ⊢; omega)]
    simp only [Nat.zero_add, Array.toList_setIfInBounds]
    have hk : k < acc.toList.length := by simp at h ⊢; omega
    congr 1
    rw [List.take_add_one, List.take_set_of_le (Nat.le_refl k), List.getElem?_set_self hk]
    simp

theorem built_whole {P : Program} {t : TypeId} {f : Field} {n : Nat} (h : (P.info? t).map (fun i => i.zero.map (fun z => z.cells.size)) = some (some n)) (hu : P.underlying t = some (.struct #[f])) (h0 : f.offset = 0) (hf : (P.info? f.type).map (fun i => i.size) = some n)
    (cs : Array Value) (hc : cs.size = n) : P.built t [(0, .agg cs)] = some cs := by
  cases hi : P.info? t with
  | none => rw [hi] at h; cases h
  | some it =>
    cases hz : it.zero with
    | none => simp [hi, hz] at h
    | some z =>
      cases hif : P.info? f.type with
      | none => rw [hif] at hf; cases hf
      | some ie =>
        have hzs : z.cells.size = n := by simpa [hi, hz] using h
        have hs : ie.size = n := by simpa [hif] using hf
        have hcl : (Value.agg cs).cells = cs := rfl
        unfold Program.built
        simp only [hi, hu, hz, List.mapM_cons, List.mapM_nil, hif, Option.map_some, h0, hs, Option.pure_def, Option.bind_eq_bind, Option.bind_some]
        simp only [Instr.fill, List.getElem?_toArray, List.getElem?_cons_zero, hcl, hc, hzs]
        have hfold := fold_whole cs.toList 0 z.cells (by simp [hzs, hc])
        rw [if_neg (by simp)]
        rw [← Array.foldl_toList, Array.toList_zipIdx]
        exact congrArg some (by simpa using hfold)

theorem Try.info5 : (Try.prog.info? 5).map (fun i => (i.zero, i.size, i.bytes)) = some (some (.int .u8 0), 1, 1) := by kernel_rfl
theorem Try.info30z : (Try.prog.info? 30).map (fun i => i.zero.map (fun z => z.cells.size)) = some (some 74) := by kernel_rfl
theorem Try.info22z : (Try.prog.info? 22).map (fun i => i.size) = some 74 := by kernel_rfl

theorem build30 (cs : Array Value) (hc : cs.size = 74) (w : World) : (Instr.build 30 #[(0, .agg cs)]).run Try.prog w = .ok (.agg cs) w :=
  run_build w 30 _ _ (built_whole Try.info30z Try.underlying30 rfl Try.info22z cs hc)

/-- A whole struct built of one part, at the operation. -/
theorem wpList_build {P : Program} (w : World) {ops : Array Oper} {rest : List Oper} {d : Option Tmp} {x : Operand} {ty : TypeId} {ps : String} {af : Array Edge} {a : Act} {Q : Exit → Act → World → Prop} (t : TypeId) (u v : Value)
    (hx : a.eval x = u) (hr : (Instr.build t #[(0, u)]).run P w = .ok v w) (h : wpList P ops Q rest (a.put d v) w) : wpList P ops Q ({ dst := d, op := .build t #[(0, x)], type := ty, pos := ps, after := af, guard := none } :: rest) a w := by
  refine wpList_plain rfl fun K hK => ?_
  unfold Oper.wp execOp
  simp only [List.map_toArray, List.map_cons, List.map_nil, hx, Sem.run_bind, hr, Result.andThen_ok, Sem.run_pure]
  exact hK _ _ h

theorem new_any (cs : Array Value) (w : World) (hc : cs.size = 74) :
    Calls Try.prog 5 #[.agg cs] w fun e w' => ∃ g, e = .returned (.pointer (some ⟨g, 0, none⟩)) ∧ w.heap.size ≤ g ∧ w'.heap[g]? = some (.cells cs 30 (0, 0)) ∧ Below w.heap.size w w' := by
  have HLD : Hid ((loadVar 22 ⟨w.heap.size, 0, none⟩).run Try.prog (w.alloc (.cells cs 22)) = .ok (.agg cs) (w.alloc (.cells cs 22))) := run_loadVar_new (P := Try.prog) w 22 cs 74 5 Try.underlying22 (by rw [hc]; kernel_rfl)
  have HB : Hid ((Instr.build 30 #[(0, .agg cs)]).run Try.prog (w.alloc (.cells cs 22)) = .ok (.agg cs) (w.alloc (.cells cs 22))) := build30 cs hc _
  clear hc
  go_enter Try.func5, Try.ntmps5
  iterate 14 go_step
  with_reducible refine wpList_load_row _ 22 ⟨w.heap.size, 0, none⟩ (.agg cs) ?_ HLD.out ?_
  · rfl
  with_reducible refine wpList_build _ 30 (.agg cs) (.agg cs) ?_ HB.out ?_
  · rfl
  clear HLD HB
  go_wp2
  go_ret
  refine ⟨_, rfl, ?_, ?_, ?_⟩
  · simp
  · have := heap_alloc_last (w.alloc (.cells cs 22)) (.cells cs 30)
    simpa using this
  · exact ((Below.refl _ _).alloc (Nat.le_refl _) _).alloc (by simp) _

/-- bytes.Clone of a slice that is not nil. -/
theorem clone_any (a0 : Addr) (n c : Nat) (xs : List Value) (w : World) (hs : Rd w (some a0) xs) (hl : xs.length = n) (h1 : ∀ u ∈ xs, u.oneCell' = true) (hn : n ≤ 1048576) :
    Calls Try.prog 7 #[.slice (some a0) n c] w fun e w' => ∃ a' c', e = .returned (.slice a' n c') ∧ w'.ownsRow w.heap.size 5 1 (.slice a' n c') n xs ∧ Below w.heap.size w w' := by
  have kn := fun w a n c n' c' => Lib.run_eql_slice_nil (P := Try.prog) w 24 5 a n c n' c' Try.underlying24
  obtain ⟨i0, hi, hz0, hz1, hz2⟩ := info_parts Try.info5
  go_enter Try.func7, Try.ntmps7
  go_wp2_with (at_builtin; refine wpList_append_view _ rfl _ _ 24 24 rfl w.heap.size 5 i0 (.int .u8 0) 1 Try.underlying24 Try.underlying24 hi hz0 hz1 hz2 rfl _ 0 [] rfl ?own (some a0) n c xs rfl hl (fun h => by cases h) ?rd h1 (by unfold maxLen; omega) (by omega) (by simp) ?_)
  case own => 
    have := own_of_block (w := w.alloc (.cells #[] 5)) (base := w.heap.size) (e := 5) (g := w.heap.size) (xs := []) (heap_alloc_last w _) (Nat.le_refl _) (by simp [maxLen])
    exact this
  case rd => exact hs.below ((Below.refl _ _).alloc (Nat.le_refl _) _)
  intro v' w' hown hgrow
  obtain ⟨a', c', rfl, -, -⟩ := own_shape hown
  have B1 : Below w.heap.size w (w.alloc (.cells #[] 5)) := (Below.refl _ _).alloc (Nat.le_refl _) _
  have B : Hid (Below w.heap.size w w') := B1.grown hgrow (by simp) (fun k hk => by simp [Value.ownBlock] at hk; omega)
  have HO : Hid _ := hown
  clear hown hgrow B1 hl h1
  go_wp2
  go_ret
  exact ⟨_, _, rfl, HO.out, B.out⟩

theorem bytes_any (g : Nat) (cs : Array Value) (w : World) (hc : cs.size = 74) (hg : w.heap[g]? = some (.cells cs 30 (0, 0))) (h1 : ∀ u ∈ cs.toList, u.oneCell' = true) :
    Calls Try.prog 6 #[.pointer (some ⟨g, 0, none⟩)] w fun e w' => ∃ a' c', e = .returned (.slice a' 74 c') ∧ w'.ownsRow w.heap.size 5 1 (.slice a' 74 c') 74 cs.toList ∧ Below w.heap.size w w' := by
  have HR : Hid (Rd w (some ⟨g, 0, none⟩) cs.toList) := fun i u hu => ⟨g, 0, rfl, by
    have := cell_of_block (w := w) (g := g) (k := i) (xs := cs.toList) (e := 30) (by simpa using hg)
    rw [Nat.zero_add, this]; exact hu⟩
  have HG : Hid _ := hg
  have HC : Hid _ := hc
  clear hg hc
  go_enter Try.func6, Try.ntmps6
  go_wp2_with fail
  refine (clone_any ⟨g, 0, none⟩ 74 74 cs.toList w HR.out (by simpa using HC.out) h1 (by omega)).mono ?_
  rintro e w' ⟨a', c', rfl, ho, hb⟩
  have HO : Hid _ := ho
  clear ho h1
  go_wp2
  go_ret
  exact ⟨_, _, rfl, HO.out, hb⟩

theorem block_own {w : World} {base c : Nat} {a : Option Addr} {zs : List Int} (h : w.ownsRow base 5 1 (.slice a 74 c) 74 (zs.map (Value.int .u8))) :
    ∃ b, a = some ⟨b, 0, none⟩ ∧ base ≤ b ∧ (∀ i, w.frozen? ⟨b, i, none⟩ = false) ∧ ∀ i z, (w.setCell ⟨b, i, none⟩ (.int .u8 z)).ownsRow base 5 1 (.slice a 74 c) 74 ((zs.set i z).map (Value.int .u8)) := by
  rcases h.2 with ⟨_, hn⟩ | ⟨g, cap, cur, hv, hb, hg, _⟩
  · omega
  · simp only [Value.slice.injEq] at hv
    obtain ⟨hv1, _, hv3⟩ := hv
    refine ⟨g, hv1, hb, fun i => by simp [World.frozen?, hg], fun i z => ?_⟩
    rw [hv1] at h ⊢
    have := (h.stored i (.int .u8 z)).1
    rw [← List.map_set] at this
    exact this

set_option maxHeartbeats 2000000 in
theorem main_any (cs : Array Value) (zs : List Int) (w : World) (hz : cs.toList = zs.map (Value.int .u8)) (hzl : zs.length = 74) :
    Calls Try.prog 3 #[.agg cs] w fun e w' => e = .returned (.bool true) ∧ Below w.heap.size w w' := by
  have hc : cs.size = 74 := by rw [← Array.length_toList, hz]; simpa using hzl
  have h1 : ∀ u ∈ cs.toList, u.oneCell' = true := by rw [hz]; exact ints_oneCell _ _
  obtain ⟨w1, hw1⟩ : ∃ w1, w1 = w.alloc (.cells cs 22) := ⟨_, rfl⟩
  have hb1 : w1.heap[w.heap.size]? = some (.cells cs 22 (0, 0)) := by rw [hw1]; exact heap_alloc_last w _
  have hB1 : Below w.heap.size w w1 := by rw [hw1]; exact (Below.refl _ _).alloc (Nat.le_refl _) _
  have hr1 : Rd w1 (some ⟨w.heap.size, 0, none⟩) (zs.map (Value.int .u8)) := fun i u hu => ⟨w.heap.size, 0, rfl, by
    have := cell_of_block (w := w1) (g := w.heap.size) (k := i) (xs := cs.toList) (e := 22) (by simpa using hb1)
    rw [Nat.zero_add, this, hz]; exact hu⟩
  have HZ : Hid _ := hz
  have HZL : Hid _ := hzl
  have HC : Hid _ := hc
  have H1 : Hid _ := h1
  have HB1 : Hid _ := hb1
  have HBE : Hid _ := hB1
  have HR1 : Hid _ := hr1
  clear hz hzl hc h1 hb1 hB1 hr1
  have HW1 : Hid (w.alloc (.cells cs 22) = w1) := hw1.symm
  clear hw1
  go_enter Try.func3, Try.ntmps3
  go_wp2_with fail
  rw [HW1.out]
  refine (prefix_any (some ⟨w.heap.size, 0, none⟩) 74 74 zs _ w1 HR1.out HZL.out (by omega) (by decide)).mono ?_
  rintro e w' ⟨⟨b, rfl⟩, m, rfl⟩
  cases b with
  | false => 
    go_wp2
    go_ret
    exact ⟨rfl, below_drewN HBE.out _⟩
  | true =>
    simp only []
    repeat (fail_if_success (with_reducible refine wpList_load_row _ 22 ?_ ?_ ?_ ?_ ?_)); go_step
    have HBa : Hid ((w1.drewN m).heap[w.heap.size]? = some (.cells cs 22 (0, 0)) ∧ Below w.heap.size w (w1.drewN m)) := ⟨HB1.out, below_drewN HBE.out m⟩
    clear HB1 HBE HR1 HW1
    generalize w1.drewN m = wa at HBa ⊢
    with_reducible refine wpList_load_row _ 22 ⟨w.heap.size, 0, none⟩ (.agg cs) ?_ (run_loadVar_row _ _ 22 22 cs (0, 0) _ HBa.out.1 Try.underlying22 rfl (by rw [HC.out]; kernel_rfl)) ?_
    · rfl
    go_wp2_with fail
    refine (new_any cs wa HC.out).mono ?_
    rintro e wb ⟨g, rfl, hg0, hg, B2⟩
    have HG : Hid (w.heap.size < wa.heap.size ∧ wa.heap.size ≤ g ∧ wb.heap[g]? = some (.cells cs 30 (0, 0)) ∧ Below wa.heap.size wa wb) := ⟨lt_of_block HBa.out.1, hg0, hg, B2⟩
    clear hg0 hg B2
    go_wp2_with fail
    refine (bytes_any g cs wb HC.out HG.out.2.2.1 H1.out).mono ?_
    rintro e wc ⟨a', c', rfl, ho, B3⟩
    rw [HZ.out] at ho
    obtain ⟨bp, rfl, hbp, -, -⟩ := block_own ho
    have HB3 : Hid (Below wb.heap.size wb wc) := B3
    have HO : Hid (wc.ownsRow wb.heap.size 5 1 (.slice (some ⟨bp, 0, none⟩) 74 c') 74 (zs.map (Value.int .u8))) := ho
    have HF : Hid (wc.heap[w.heap.size]? = some (.cells cs 22 (0, 0)) ∧ Below w.heap.size w wc) := by
      have b1 := HG.out.2.2.2
      have s1 := b1.size
      have s2 := HG.out.1
      refine ⟨?_, HBa.out.2.trans ((b1.mono (by omega)).trans (B3.mono (by omega)))⟩
      rw [B3.block _ (by omega), b1.block _ (by omega)]
      exact HBa.out.1
    clear ho B3
    go_wp2_with fail
    go_loopw [5] (fun i wr => ∃ k : Nat, k ≤ 74 ∧ i = .int .i64 k ∧ ∃ m, wr = wc.drewN m) (fun i _ => 74 - (intOf i).toNat)
    case atStart => exact ⟨0, Nat.zero_le _, rfl, 0, rfl⟩
    case round =>
      obtain ⟨k, hk, rfl, m, rfl⟩ := hrel
      by_cases hlt : k < 74
      · have hkz : k < zs.length := by rw [HZL.out]; exact hlt
        obtain ⟨b, off, hb, hc1⟩ := (own_rd HO.out).atInt hkz
        simp only [Option.some.injEq, Addr.mk.injEq] at hb
        obtain ⟨rfl, rfl, -⟩ := hb
        have hc2 : wc.cell? ⟨w.heap.size, k, none⟩ = some (.int .u8 zs[k]) := by
          rw [cell_of_block (xs := cs.toList) (e := 22) (by simpa using HF.out.1), HZ.out]
          simp [hkz]
        simp only [Nat.zero_add] at hc1
        generalize zs[k] = z at hc1 hc2
        have i1 : (k : Int) < 74 := by omega
        go_wp2_with fail
        go_quiet (fail)
        go_wp2
        go_roundw
        case rel => exact ⟨k + 1, by omega, by go_num, _, by first | rfl | exact World.drewN_drewN _ _ _⟩
        case measure => simp [intOf]; omega
      · obtain rfl : k = 74 := by omega
        clear hk hlt
        have HO2 : Hid ((wc.drewN m).ownsRow wb.heap.size 5 1 (.slice (some ⟨bp, 0, none⟩) 74 c') 74 (zs.map (Value.int .u8)) ∧ Below wb.heap.size wb (wc.drewN m)) := ⟨HO.out, below_drewN HB3.out m⟩
        generalize wc.drewN m = wd at HO2 ⊢
        clear HO HB3 HF
        go_wp2_with fail
        go_loopw [6] (fun i wr => ∃ k : Nat, k ≤ 74 ∧ i = .int .i64 k ∧ ∃ ys : List Int, wr.ownsRow wb.heap.size 5 1 (.slice (some ⟨bp, 0, none⟩) 74 c') 74 (ys.map (Value.int .u8)) ∧ Below wb.heap.size wb wr) (fun i _ => 74 - (intOf i).toNat)
        case atStart => exact ⟨0, Nat.zero_le _, rfl, zs, HO2.out.1, HO2.out.2⟩
        case round =>
          clear HO2
          obtain ⟨k, hk, rfl, ys, ho, hB⟩ := hrel
          by_cases hlt : k < 74
          · have hky : k < ys.length := by have := ho.1; simp at this; omega
            obtain ⟨b, off, hb, hc1⟩ := (own_rd ho).atInt hky
            simp only [Option.some.injEq, Addr.mk.injEq] at hb
            obtain ⟨rfl, rfl, -⟩ := hb
            simp only [Nat.zero_add] at hc1
            obtain ⟨b', hb', hbp', hfz', hst⟩ := block_own ho
            simp only [Option.some.injEq, Addr.mk.injEq, and_true] at hb'
            subst hb'
            have hfz := hfz' k
            have HST : Hid (∀ z, (wr.setCell ⟨bp, k, none⟩ (.int .u8 z)).ownsRow wb.heap.size 5 1 (.slice (some ⟨bp, 0, none⟩) 74 c') 74 ((ys.set k z).map (Value.int .u8)) ∧ Below wb.heap.size wb (wr.setCell ⟨bp, k, none⟩ (.int .u8 z))) := fun z => ⟨hst k z, hB.setCell hbp _⟩
            clear hst hfz' hbp' ho hB
            generalize ys[k] = z at hc1
            have i1 : (k : Int) < 74 := by omega
            go_wp2
            go_roundw
            case rel => exact ⟨k + 1, by omega, by go_num, _, (HST.out _).1, (HST.out _).2⟩
            case measure => simp [intOf]; omega
          · obtain rfl : k = 74 := by omega
            clear hk hlt
            have HB4 : Hid (Below wb.heap.size wb wr) := hB
            clear ho hB
            have hgw : wr.heap[g]? = some (.cells cs 30 (0, 0)) := by rw [HB4.out.block _ (lt_of_block HG.out.2.2.1)]; exact HG.out.2.2.1
            have HGW : Hid _ := hgw
            clear hgw
            go_wp2_with fail
            refine (bytes_any g cs wr HC.out HGW.out H1.out).mono ?_
            rintro e we ⟨a'', c'', rfl, ho, B5⟩
            rw [HZ.out] at ho
            obtain ⟨bq, rfl, hbq, -, -⟩ := block_own ho
            have HO : Hid (we.ownsRow wr.heap.size 5 1 (.slice (some ⟨bq, 0, none⟩) 74 c'') 74 (zs.map (Value.int .u8))) := ho
            have HF : Hid (we.heap[w.heap.size]? = some (.cells cs 22 (0, 0)) ∧ Below w.heap.size w we) := by
              have b1 := HG.out.2.2.2
              have s1 := b1.size
              have s2 := HG.out.1
              have s3 := HB4.out.size
              refine ⟨?_, HBa.out.2.trans ((b1.mono (by omega)).trans ((HB4.out.mono (by omega)).trans (B5.mono (by omega))))⟩
              rw [B5.block _ (by omega), HB4.out.block _ (by omega), b1.block _ (by omega)]
              exact HBa.out.1
            clear ho B5
            go_wp2_with fail
            go_loopw [8] (fun i wr => ∃ k : Nat, k ≤ 74 ∧ i = .int .i64 k ∧ ∃ m, wr = we.drewN m) (fun i _ => 74 - (intOf i).toNat)
            case atStart => exact ⟨0, Nat.zero_le _, rfl, 0, rfl⟩
            case round =>
              obtain ⟨k, hk, rfl, m, rfl⟩ := hrel
              by_cases hlt : k < 74
              · have hkz : k < zs.length := by rw [HZL.out]; exact hlt
                obtain ⟨b, off, hb, hc1⟩ := (own_rd HO.out).atInt hkz
                simp only [Option.some.injEq, Addr.mk.injEq] at hb
                obtain ⟨rfl, rfl, -⟩ := hb
                have hc2 : we.cell? ⟨w.heap.size, k, none⟩ = some (.int .u8 zs[k]) := by
                  rw [cell_of_block (xs := cs.toList) (e := 22) (by simpa using HF.out.1), HZ.out]
                  simp [hkz]
                simp only [Nat.zero_add] at hc1
                generalize zs[k] = z at hc1 hc2
                have i1 : (k : Int) < 74 := by omega
                go_wp2_with fail
                go_quiet (fail)
                go_wp2
                go_roundw
                case rel => exact ⟨k + 1, by omega, by go_num, _, by first | rfl | exact World.drewN_drewN _ _ _⟩
                case measure => simp [intOf]; omega
              · go_wp2
                go_ret
                exact ⟨rfl, below_drewN HF.out.2 _⟩

end Go.Proofs.Qxb6603647a
