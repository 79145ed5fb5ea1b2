/-
  Seat b6603051a: (Held).count (46), its shim (33).
-/
import Derived.Test.Qxb6603051aK2
namespace Go.Proofs.Qxb6603051a
open Go.RowKit
set_option linter.unusedVariables false
set_option linter.unusedSimpArgs false

/-- The rows of replicas. -/
def RowsOf (w : World) (us : List Value) (RS : List (List ByteArray)) : Prop := us.length = RS.length ∧ ∀ (k : Nat) u, us[k]? = some u → ∃ a c x, RS[k]? = some x ∧ u = .slice a x.length c ∧ Strs w u x

theorem plc_cells {w : World} {g : Nat} {ps : List (ByteArray × Value)} {k : Nat} {l : ByteArray} {u : Value} (h : w.heap[g]? = some (.cells (flatP ps).toArray 35 (0, 0))) (hk : ps[k]? = some (l, u)) :
    w.cell? ⟨g, k * 2, none⟩ = some (.string l) ∧ w.cell? ⟨g, k * 2 + 1, none⟩ = some u := by
  rw [cell_of_block h, cell_of_block h, Nat.mul_comm, flatP_get0, flatP_get1, hk]
  exact ⟨rfl, rfl⟩

/-- While a placement is counted: the frame, and the copy of the placement at gp. -/
def CI (w wx : World) (base gp : Nat) (ld : ByteArray) (v : Value) : Prop := MF base w wx ∧ wx.heap[gp]? = some (.cells #[.string ld, v] 35 (0, 0)) ∧ w.heap.size ≤ gp

theorem CI.mf {w wx wy : World} {base gp : Nat} {ld : ByteArray} {v : Value} (h : CI w wx base gp ld v) (hm : MF base wx wy) : CI w wy base gp ld v := ⟨h.1.trans hm, hm.2 _ _ _ _ h.2.1, h.2.2⟩
theorem CI.cells {w wx : World} {base gp : Nat} {ld : ByteArray} {v : Value} (h : CI w wx base gp ld v) : wx.cell? ⟨gp, 0, none⟩ = some (.string ld) ∧ wx.cell? ⟨gp, 1, none⟩ = some v := by
  have := h.2.1
  rw [cell_of_block (xs := [.string ld, v]) (e := 35) (by simpa using this), cell_of_block (xs := [.string ld, v]) (e := 35) (by simpa using this)]
  exact ⟨rfl, rfl⟩

theorem CI.setCell {w wx : World} {base gp : Nat} {ld : ByteArray} {v : Value} (h : CI w wx base gp ld v) {g k : Nat} (h1 : w.heap.size ≤ g) (h2 : gp ≠ g) (h3 : base ≤ g) (u : Value) : CI w (wx.setCell ⟨g, k, none⟩ u) base gp ld v :=
  ⟨h.1.setCell h1 h3 u, by rw [Below.heap_setCell _ _ _ _ h2]; exact h.2.1, h.2.2⟩

/-- While the leader's entry is out: the copy at gl. -/
def DI (wx : World) (bh base : Nat) (b : Int) (R0 L0 : ByteArray → Int) (F0 : ByteArray → ByteArray → Int) (S : PS) (ld : ByteArray) (gl : Nat) (r lb : Int) : Prop :=
  ∃ B ro, HeldS wx bh base b R0 L0 F0 S B (some ld) ∧ B ld = ro ∧ wx.heap[gl]? = some (.cells #[.int .i64 r, .int .i64 lb, .map ro] 80 (0, 0))

theorem bytes_inj {a b : ByteArray} (h : a.toList = b.toList) : a = b := by
  rw [ByteArray.toList_eq, ByteArray.toList_eq] at h
  cases a; cases b
  simp only [ByteArray.mk.injEq]
  exact Array.toList_inj.1 h

set_option maxRecDepth 100000 in
set_option maxHeartbeats 4000000 in
theorem count_any (w : World) (bh base gP n : Nat) (b : Int) (R0 L0 : ByteArray → Int) (F0 : ByteArray → ByteArray → Int) (S0 : PS) (ls : List ByteArray) (us : List Value) (RS : List (List ByteArray))
    (hh : ∃ B, HeldS w bh base b R0 L0 F0 S0 B none) (hP : w.heap[gP]? = some (.cells (flatP (ls.zip us)).toArray 35 (0, 0))) (hls : ls.length = n) (hus : us.length = n) (hR : RowsOf w us RS) (hn : n ≤ 1048576) (hm : ∀ x ∈ RS, x.length ≤ 1048576) (hbs : base ≤ w.heap.size) :
    Calls Try.prog 46 #[.map (some bh), .slice (some ⟨gP, 0, none⟩) n n, .int .i64 b] w fun e w' => e = .returned (.tuple #[]) ∧ (∃ B, HeldS w' bh base b R0 L0 F0 (stRun S0 (ls.zip RS)) B none) ∧ MF base w w' := by
  have H0 : Hid ((∃ B, HeldS w bh base b R0 L0 F0 S0 B none) ∧ w.heap[gP]? = some (.cells (flatP (ls.zip us)).toArray 35 (0, 0)) ∧ RowsOf w us RS ∧ (∀ x ∈ RS, x.length ≤ 1048576) ∧ base ≤ w.heap.size ∧ ls.length = n ∧ us.length = n ∧ RS.length = n) := ⟨hh, hP, hR, hm, hbs, hls, hus, by rw [← hR.1]; exact hus⟩
  clear hh hP hR hm hbs hls hus
  go_enter Try.func46, Try.ntmps46
  go_wp2_with fail
  go_loopw [16] (fun i wr => ∃ k : Nat, k ≤ n ∧ i = .int .i64 k ∧ (∃ B, HeldS wr bh base b R0 L0 F0 (stRun S0 ((ls.zip RS).take k)) B none) ∧ MF base w wr) (fun i _ => n - (intOf i).toNat)
  case atStart => exact ⟨0, Nat.zero_le _, rfl, by simpa [stRun] using H0.out.1, MF.refl _ _⟩
  case round =>
    obtain ⟨k, hk, rfl, hheld, hmf⟩ := hrel
    have HI : Hid ((∃ B, HeldS wr bh base b R0 L0 F0 (stRun S0 ((ls.zip RS).take k)) B none) ∧ MF base w wr) := ⟨hheld, hmf⟩
    clear hheld hmf
    by_cases hlt : k < n
    · have hkl : k < ls.length := by rw [H0.out.2.2.2.2.2.1]; exact hlt
      have hku : k < us.length := by rw [H0.out.2.2.2.2.2.2.1]; exact hlt
      have hkr : k < RS.length := by rw [H0.out.2.2.2.2.2.2.2]; exact hlt
      have hz : (ls.zip us)[k]? = some (ls[k], us[k]) := by simp [List.getElem?_zip_eq_some, hkl, hku]
      obtain ⟨ar, cr, x, hx1, hx2, hx3⟩ := H0.out.2.2.1.2 k us[k] (List.getElem?_eq_getElem hku)
      have hxl : x.length ≤ 1048576 := H0.out.2.2.2.1 x (List.mem_of_getElem? hx1)
      obtain ⟨pc1, pc2⟩ := plc_cells (HI.out.2.2 _ _ _ _ H0.out.2.1) hz
      have HST : Hid (stRun S0 ((ls.zip RS).take (k + 1)) = stP (stRun S0 ((ls.zip RS).take k)) (ls[k], x)) := by
        have hkz : k < (ls.zip RS).length := by rw [List.length_zip]; omega
        have e : (ls.zip RS)[k] = (ls[k], x) := by
          rw [List.getElem_zip]
          rw [List.getElem?_eq_getElem hkr] at hx1
          simp only [Option.some.injEq] at hx1
          rw [hx1]
        show _ = _
        rw [stRun_snoc S0 hkz, e]
      rw [hx2] at pc2 hx3
      generalize ls[k] = ld at pc1 HST
      have HX : Hid (Strs w (.slice ar x.length cr) x) := hx3
      clear hx1 hx2 hx3 hz
      obtain ⟨m, hm⟩ : ∃ m, m = x.length := ⟨_, rfl⟩
      have HM : Hid (x.length = m) := hm.symm
      rw [← hm] at pc2 hxl HX
      clear hm
      generalize stRun S0 ((ls.zip RS).take k) = S at HI HST
      have hsz : w.heap.size ≤ wr.heap.size := HI.out.2.size
      have hgp : (wr.alloc (.cells #[.string ld, .slice ar m cr] 35)).heap[wr.heap.size]? = some (.cells #[.string ld, .slice ar m cr] 35 (0, 0)) := heap_alloc_new _ _
      have HC : Hid ((∃ B, HeldS (wr.alloc (.cells #[.string ld, .slice ar m cr] 35)) bh base b R0 L0 F0 (stA S []) B none) ∧ CI w (wr.alloc (.cells #[.string ld, .slice ar m cr] 35)) base wr.heap.size ld (.slice ar m cr)) := by
        obtain ⟨B, hB⟩ := HI.out.1
        have hbb : base ≤ wr.heap.size := Nat.le_trans H0.out.2.2.2.2.1 hsz
        exact ⟨⟨B, HeldC.later hB ((Below.refl _ _).alloc (Nat.le_refl _) _)⟩, HI.out.2.alloc hbb _, hgp, hsz⟩
      clear hgp
      have i1 : (k : Int) < (n : Int) := by omega
      go_wp2_with fail
      clear pc1 pc2
      generalize wr.alloc (.cells #[.string ld, .slice ar m cr] 35) = wv at HC ⊢
      generalize wr.heap.size = gp at HC hsz ⊢
      have HGP : Hid (w.heap.size ≤ gp) := hsz
      clear hsz HI
      go_loopw [23] (fun i wx => ∃ j : Nat, j ≤ m ∧ i = .int .i64 j ∧ (∃ B, HeldS wx bh base b R0 L0 F0 (stA S (x.take j)) B none) ∧ CI w wx base gp ld (.slice ar m cr)) (fun i _ => m - (intOf i).toNat)
      case atStart => exact ⟨0, Nat.zero_le _, rfl, by simpa using HC.out.1, HC.out.2⟩
      case round =>
        clear HC
        obtain ⟨j, hj, rfl, q1, q2⟩ := hrel
        have HC : Hid ((∃ B, HeldS wr bh base b R0 L0 F0 (stA S (x.take j)) B none) ∧ CI w wr base gp ld (.slice ar m cr)) := ⟨q1, q2⟩
        clear q1 q2
        by_cases hjl : j < m
        · have hjx : j < x.length := by rw [HM.out]; exact hjl
          obtain ⟨b1, o1, u1, x1, y1, z1⟩ := (Strs.mf HX.out HC.out.2.1).at hjx
          unfold EStr at z1
          subst z1
          obtain ⟨B, hB⟩ := HC.out.1
          have lk := HeldC.look hB x[j]
          obtain ⟨r, hr⟩ : ∃ r, r = val b (R0 x[j]) ((stA S (x.take j)).nR x[j]) := ⟨_, rfl⟩
          obtain ⟨l, hl⟩ : ∃ l, l = val b (L0 x[j]) ((stA S (x.take j)).nL x[j]) := ⟨_, rfl⟩
          obtain ⟨ro, hro⟩ : ∃ ro, ro = B x[j] := ⟨_, rfl⟩
          have HSET : Calls Try.prog 50 #[.map (some bh), .string x[j], .agg #[.int .i64 (wrap64 (r + b)), .int .i64 l, .map ro]] (wr.alloc (.cells #[.int .i64 (wrap64 (r + b)), .int .i64 l, .map ro] 80)) fun e w' => e = .returned (.tuple #[]) ∧ (∃ B, HeldS w' bh base b R0 L0 F0 (stA S (x.take (j + 1))) B none) ∧ CI w w' base gp ld (.slice ar m cr) := by
            have B0 : Below wr.heap.size wr (wr.alloc (.cells #[.int .i64 (wrap64 (r + b)), .int .i64 l, .map ro] 80)) := (Below.refl _ _).alloc (Nat.le_refl _) _
            refine (set_any _ bh base _ _ _ B x[j] ((HeldC.weak hB x[j]).later B0) (wrap64 (r + b)) l ro hro.symm).mono ?_
            rintro e w' ⟨rfl, q1, q2⟩
            refine ⟨rfl, ⟨B, ?_⟩, (HC.out.2.mf (MF.of_below B0 (Nat.le_trans (Nat.le_trans H0.out.2.2.2.2.1 HC.out.2.1.size) (Nat.le_refl _)))).mf q2⟩
            rw [stA_snoc S hjx]
            rw [hr, hl] at q1
            exact HeldS.bumpR q1
          have lk' : (Instr.lookup 58 (.map (some bh)) (.string x[j]) false).run Try.prog wr = .ok (.agg #[.int .i64 r, .int .i64 l, .map ro]) wr := by rw [hr, hl, hro]; exact lk
          clear lk hr hl hro hB
          generalize x[j] = id at y1 HSET lk'
          subst x1
          have i2 : (j : Int) < (m : Int) := by omega
          go_wp2_with fail
          refine HSET.mono ?_
          rintro e w2 ⟨rfl, q1, q2⟩
          have HC2 : Hid ((∃ B, HeldS w2 bh base b R0 L0 F0 (stA S (x.take (j + 1))) B none) ∧ CI w w2 base gp ld (.slice (some ⟨b1, o1, none⟩) m cr)) := ⟨q1, q2⟩
          clear q1 q2 lk' HSET y1
          go_wp2
          go_roundw
          case rel => exact ⟨j + 1, by omega, by go_num, HC2.out.1, HC2.out.2⟩
          case measure => simp [intOf]; omega
        · obtain rfl : m = j := by omega
          clear hjl hj
          obtain ⟨pc1, pc2⟩ := HC.out.2.cells
          have HSA : Hid (stA S (x.take m) = stA S x) := by
            show _ = _
            rw [List.take_of_length_le (by rw [HM.out]; exact Nat.le_refl _)]
          cases hem : ld.toList.isEmpty with
          | true =>
            have HF : Hid ((∃ B, HeldS wr bh base b R0 L0 F0 (stRun S0 ((ls.zip RS).take (k + 1))) B none) ∧ MF base w wr) := by
              refine ⟨?_, HC.out.2.1⟩
              rw [HST.out]
              unfold stP
              simp only [hem, if_true]
              rw [← HSA.out]
              exact HC.out.1
            go_wp2
            go_roundw
            case rel => exact ⟨k + 1, by omega, by go_num, HF.out.1, HF.out.2⟩
            case measure => simp [intOf]; omega
          | false =>
            have HEM : Hid (ld.toList.isEmpty = false) := hem
            obtain ⟨B, hB⟩ := HC.out.1
            rw [HSA.out] at hB
            have lk := HeldC.look hB ld
            obtain ⟨r, hr⟩ : ∃ r, r = val b (R0 ld) ((stA S x).nR ld) := ⟨_, rfl⟩
            obtain ⟨l, hl⟩ : ∃ l, l = val b (L0 ld) ((stA S x).nL ld) := ⟨_, rfl⟩
            obtain ⟨ro, hro⟩ : ∃ ro, ro = B ld := ⟨_, rfl⟩
            have lk' : (Instr.lookup 58 (.map (some bh)) (.string ld) false).run Try.prog wr = .ok (.agg #[.int .i64 r, .int .i64 l, .map ro]) wr := by rw [hr, hl, hro]; exact lk
            have B0 : Below wr.heap.size wr (wr.alloc (.cells #[.int .i64 r, .int .i64 (wrap64 (l + b)), .map ro] 80)) := (Below.refl _ _).alloc (Nat.le_refl _) _
            have HD : Hid ((∃ B, HeldS (wr.alloc (.cells #[.int .i64 r, .int .i64 (wrap64 (l + b)), .map ro] 80)) bh base b R0 L0 F0 (stF (stA S x) ld []) B (some ld) ∧ B ld = ro ∧ (wr.alloc (.cells #[.int .i64 r, .int .i64 (wrap64 (l + b)), .map ro] 80)).heap[wr.heap.size]? = some (.cells #[.int .i64 r, .int .i64 (wrap64 (l + b)), .map ro] 80 (0, 0))) ∧ CI w (wr.alloc (.cells #[.int .i64 r, .int .i64 (wrap64 (l + b)), .map ro] 80)) base gp ld (.slice ar m cr) ∧ w.heap.size ≤ wr.heap.size ∧ gp ≠ wr.heap.size) := by
              refine ⟨⟨B, (HeldC.weak hB ld).later B0, hro.symm, heap_alloc_new _ _⟩, HC.out.2.mf (MF.of_below B0 (Nat.le_trans H0.out.2.2.2.2.1 HC.out.2.1.size)), HC.out.2.1.size, ?_⟩
              have := lt_of_block HC.out.2.2.1
              omega
            have HRL : Hid (r = val b (R0 ld) ((stA S x).nR ld) ∧ l = val b (L0 ld) ((stA S x).nL ld)) := ⟨hr, hl⟩
            clear lk hr hl hro hB B0 hem
            have hem' : ld.toList.isEmpty = false := HEM.out
            obtain ⟨pd1, pd2⟩ := HD.out.2.1.cells
            go_wp2_with fail
            clear pd1 pd2 pc1 pc2 lk'
            generalize wr.alloc (.cells #[.int .i64 r, .int .i64 (wrap64 (l + b)), .map ro] 80) = wv at HD ⊢
            generalize wr.heap.size = gl at HD ⊢
            have HGL : Hid (w.heap.size ≤ gl ∧ gp ≠ gl) := HD.out.2.2
            have HD0 : Hid (DI wv bh base b R0 L0 F0 (stF (stA S x) ld []) ld gl r (wrap64 (l + b)) ∧ CI w wv base gp ld (.slice ar m cr)) := by
              obtain ⟨⟨B, h1, h2, h3⟩, h4, -⟩ := HD.out
              exact ⟨⟨B, ro, h1, h2, h3⟩, h4⟩
            obtain ⟨lb, hlb⟩ : ∃ lb, lb = wrap64 (l + b) := ⟨_, rfl⟩
            have HLB : Hid (lb = wrap64 (l + b)) := hlb
            rw [← hlb] at HD0
            clear hlb HD HC
            go_loopw [55] (fun i wx => ∃ j : Nat, j ≤ m ∧ i = .int .i64 j ∧ DI wx bh base b R0 L0 F0 (stF (stA S x) ld (x.take j)) ld gl r lb ∧ CI w wx base gp ld (.slice ar m cr)) (fun i _ => m - (intOf i).toNat)
            case atStart => exact ⟨0, Nat.zero_le _, rfl, by simpa using HD0.out.1, HD0.out.2⟩
            case round =>
              clear HD0
              obtain ⟨j, hj, rfl, q1, q2⟩ := hrel
              have HD : Hid (DI wr bh base b R0 L0 F0 (stF (stA S x) ld (x.take j)) ld gl r lb ∧ CI w wr base gp ld (.slice ar m cr)) := ⟨q1, q2⟩
              clear q1 q2
              obtain ⟨pd1, pd2⟩ := HD.out.2.cells
              obtain ⟨B, ro1, hB, hBl, hgl⟩ := HD.out.1
              have hglb : wr.heap[gl]? = some (.cells [Value.int .i64 r, .int .i64 lb, .map ro1].toArray 80 (0, 0)) := by simpa using hgl
              have g0 : wr.cell? ⟨gl, 0, none⟩ = some (.int .i64 r) := by rw [cell_of_block hglb]; rfl
              have g1 : wr.cell? ⟨gl, 1, none⟩ = some (.int .i64 lb) := by rw [cell_of_block hglb]; rfl
              have g2 : wr.cell? ⟨gl, 2, none⟩ = some (.map ro1) := by rw [cell_of_block hglb]; rfl
              by_cases hjl : j < m
              · have hjx : j < x.length := by rw [HM.out]; exact hjl
                obtain ⟨b1, o1, u1, x1, y1, z1⟩ := (Strs.mf HX.out HD.out.2.1).at hjx
                unfold EStr at z1
                subst z1
                have i2 : (j : Int) < (m : Int) := by omega
                have HSN : Hid (stF (stA S x) ld (x.take (j + 1)) = stF1 (stF (stA S x) ld (x.take j)) ld x[j]) := stF_snoc _ _ hjx
                generalize x[j] = id at y1 HSN
                subst x1
                by_cases he : id = ld
                · subst he
                  have HD2 : Hid (DI wr bh base b R0 L0 F0 (stF (stA S x) id (x.take (j + 1))) id gl r lb) := by
                    show DI _ _ _ _ _ _ _ _ _ _ _ _
                    rw [HSN.out, stF1_same]; exact HD.out.1
                  clear hB hBl hgl hglb g0 g1 g2 pd2
                  go_wp2
                  go_roundw
                  case rel => exact ⟨j + 1, by omega, by go_num, HD2.out, HD.out.2⟩
                  case measure => simp [intOf]; omega
                · have hb1 : (id.toList == ld.toList) = false := by
                    cases hh : (id.toList == ld.toList) with
                    | false => rfl
                    | true => exact absurd (bytes_inj (by simpa using hh)) he
                  have hb2 : (id.toList != ld.toList) = true := by simp [bne, hb1]
                  have HADD : Calls Try.prog 51 #[.map ro1, .string id, .int .i64 b] wr fun e w' => ∃ ro', e = .returned (.map ro') ∧ (∃ B', HeldS w' bh base b R0 L0 F0 (stF (stA S x) ld (x.take (j + 1))) B' (some ld) ∧ B' ld = ro') ∧ MF base wr w' := by
                    refine (addCount_any wr bh base _ _ _ B ld hB id b ro1 hBl).mono ?_
                    rintro e w' ⟨ro', rfl, q1, q2⟩
                    refine ⟨ro', rfl, ⟨upd B ld ro', ?_, upd_same _ _ _⟩, q2⟩
                    rw [HSN.out]
                    exact HeldS.bumpF he q1
                  clear hB hBl hgl g0 g1 pd2
                  go_wp2_with fail
                  refine HADD.mono ?_
                  rintro e w2 ⟨ro', rfl, ⟨B', hB', hBl'⟩, hmf⟩
                  have hg3 := hmf.2 _ _ _ _ hglb
                  have hfz : w2.frozen? ⟨gl, 2, none⟩ = false := free_of_block hg3
                  have hcc : w2.cell? ⟨gl, 2, none⟩ = some (.map ro1) := by rw [cell_of_block hg3]; rfl
                  have HD2 : Hid (DI (w2.setCell ⟨gl, 2, none⟩ (.map ro')) bh base b R0 L0 F0 (stF (stA S x) ld (x.take (j + 1))) ld gl r lb ∧ CI w (w2.setCell ⟨gl, 2, none⟩ (.map ro')) base gp ld (.slice (some ⟨b1, o1, none⟩) m cr)) := by
                    refine ⟨⟨B', ro', HeldC.setCell hB' _ _, hBl', ?_⟩, (HD.out.2.mf hmf).setCell HGL.out.1 HGL.out.2 (Nat.le_trans H0.out.2.2.2.2.1 HGL.out.1) _⟩
                    have := block_setCell (k := 2) hg3 (.map ro')
                    simpa using this
                  clear hB' hBl' hmf hg3 HADD g2 hglb
                  go_wp2
                  go_roundw
                  case rel => exact ⟨j + 1, by omega, by go_num, HD2.out.1, HD2.out.2⟩
                  case measure => simp [intOf]; omega
              · obtain rfl : m = j := by omega
                clear hjl hj
                have HSET : Calls Try.prog 50 #[.map (some bh), .string ld, .agg #[.int .i64 r, .int .i64 lb, .map ro1]] wr fun e w' => e = .returned (.tuple #[]) ∧ (∃ B, HeldS w' bh base b R0 L0 F0 (stRun S0 ((ls.zip RS).take (k + 1))) B none) ∧ MF base wr w' := by
                  refine (set_any wr bh base _ _ _ B ld hB r lb ro1 hBl).mono ?_
                  rintro e w' ⟨rfl, q1, q2⟩
                  refine ⟨rfl, ⟨B, ?_⟩, q2⟩
                  rw [HLB.out, HRL.out.2, HRL.out.1] at q1
                  have e0 : x.take m = x := List.take_of_length_le (by rw [HM.out]; exact Nat.le_refl _)
                  rw [e0] at q1
                  rw [HST.out]
                  unfold stP
                  simp only [HEM.out, Bool.false_eq_true, if_false]
                  rw [stF_L]
                  refine HeldS.bumpL ?_
                  rw [stF_nR, stF_nL] at q1 ⊢
                  exact q1
                clear hB hBl hgl hglb pd2
                go_wp2_with fail
                refine HSET.mono ?_
                rintro e w2 ⟨rfl, q1, q2⟩
                have HF : Hid ((∃ B, HeldS w2 bh base b R0 L0 F0 (stRun S0 ((ls.zip RS).take (k + 1))) B none) ∧ MF base w w2) := ⟨q1, HD.out.2.1.trans q2⟩
                clear q1 q2 HSET
                go_wp2
                go_roundw
                case rel => exact ⟨k + 1, by omega, by go_num, HF.out.1, HF.out.2⟩
                case measure => simp [intOf]; omega
    · obtain rfl : n = k := by omega
      have HF : Hid ((∃ B, HeldS wr bh base b R0 L0 F0 (stRun S0 (ls.zip RS)) B none) ∧ MF base w wr) := by
        have := HI.out
        rw [List.take_of_length_le (by rw [List.length_zip]; have := H0.out.2.2.2.2.2.1; omega)] at this
        exact this
      go_wp2
      refine ⟨rfl, .tuple #[], by simp [results, Try.results46, go_sem], rfl, HF.out⟩

theorem shim_any (w : World) (bh base gP n : Nat) (b : Int) (R0 L0 : ByteArray → Int) (F0 : ByteArray → ByteArray → Int) (S0 : PS) (ls : List ByteArray) (us : List Value) (RS : List (List ByteArray))
    (hh : ∃ B, HeldS w bh base b R0 L0 F0 S0 B none) (hP : w.heap[gP]? = some (.cells (flatP (ls.zip us)).toArray 35 (0, 0))) (hls : ls.length = n) (hus : us.length = n) (hR : RowsOf w us RS) (hn : n ≤ 1048576) (hm : ∀ x ∈ RS, x.length ≤ 1048576) (hbs : base ≤ w.heap.size) :
    Calls Try.prog 33 #[.map (some bh), .slice (some ⟨gP, 0, none⟩) n n, .int .i64 b] w fun e w' => e = .returned (.tuple #[]) ∧ (∃ B, HeldS w' bh base b R0 L0 F0 (stRun S0 (ls.zip RS)) B none) ∧ MF base w w' := by
  have HC := count_any w bh base gP n b R0 L0 F0 S0 ls us RS hh hP hls hus hR hn hm hbs
  clear hh hP hls hus hR hn hm hbs
  go_enter Try.func33, Try.ntmps33
  go_wp2_with fail
  refine HC.mono ?_
  rintro e w' ⟨rfl, q1, q2⟩
  go_wp2
  exact ⟨rfl, .tuple #[], by simp [results, Try.results33, go_sem], rfl, q1, q2⟩

end Go.Proofs.Qxb6603051a
