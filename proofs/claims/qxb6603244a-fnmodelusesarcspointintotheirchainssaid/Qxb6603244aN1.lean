/-
  Seat b6603244a: ZZNewModel (33).
-/
import Derived.Test.Qxb6603244aG2
import Derived.StillTailTactics
import Derived.BigRegion
namespace Go.Proofs.Qxb6603244a
open Go.RowKit
set_option linter.unusedVariables false

theorem mixed : Try.prog.follows .mixedOrders = true := by kernel_rfl

theorem Try.info105 : (Try.prog.info? 105).map (fun i => (i.zero, i.size, i.bytes)) = some (some (.agg #[.string ByteArray.empty, .int .i64 0, .int .i64 0, .string ByteArray.empty, .slice none 0 0]), 5, 72) := by kernel_rfl

/-- The block of chains: the i-th chain's five cells. -/
def CB (w : World) (gc : Nat) (k : Nat) (F : List ByteArray) (Ln C : List Int) (R : List ByteArray) (us : List Value) : Prop :=
  ∀ i, i < k → w.cell? ⟨gc, i * 5, none⟩ = (F[i]?).map Value.string ∧ w.cell? ⟨gc, i * 5 + 1, none⟩ = (Ln[i]?).map (Value.int .i64) ∧ w.cell? ⟨gc, i * 5 + 2, none⟩ = (C[i]?).map (Value.int .i64) ∧ w.cell? ⟨gc, i * 5 + 3, none⟩ = (R[i]?).map Value.string ∧ w.cell? ⟨gc, i * 5 + 4, none⟩ = us[i]?

theorem five_set {wr : World} {gc n k : Nat} {X : List Value} {F : List ByteArray} {Ln C : List Int} {R : List ByteArray} {us : List Value} {vF vR : ByteArray} {vL vC : Int} {vU : Value}
    (hrow : wr.heap[gc]? = some (.cells X.toArray 105 (0, 0))) (hX : X.length = n * 5) (hk : k < n) (hcb : CB wr gc k F Ln C R us)
    (e0 : R[k]? = some vR) (e1 : us[k]? = some vU) (e2 : F[k]? = some vF) (e3 : Ln[k]? = some vL) (e4 : C[k]? = some vC) :
    ∃ X' : List Value, X'.length = n * 5 ∧ (((((wr.setCell ⟨gc, k * 5, none⟩ (.string vF)).setCell ⟨gc, k * 5 + 1, none⟩ (.int .i64 vL)).setCell ⟨gc, k * 5 + 2, none⟩ (.int .i64 vC)).setCell ⟨gc, k * 5 + 3, none⟩ (.string vR)).setCell ⟨gc, k * 5 + 4, none⟩ vU).heap[gc]? = some (.cells X'.toArray 105 (0, 0)) ∧
      CB (((((wr.setCell ⟨gc, k * 5, none⟩ (.string vF)).setCell ⟨gc, k * 5 + 1, none⟩ (.int .i64 vL)).setCell ⟨gc, k * 5 + 2, none⟩ (.int .i64 vC)).setCell ⟨gc, k * 5 + 3, none⟩ (.string vR)).setCell ⟨gc, k * 5 + 4, none⟩ vU) gc (k + 1) F Ln C R us := by
  have h1 := block_setCell (k := k * 5) hrow (.string vF)
  have h2 := block_setCell (k := k * 5 + 1) h1 (.int .i64 vL)
  have h3 := block_setCell (k := k * 5 + 2) h2 (.int .i64 vC)
  have h4 := block_setCell (k := k * 5 + 3) h3 (.string vR)
  have h5 := block_setCell (k := k * 5 + 4) h4 vU
  refine ⟨_, ?_, h5, ?_⟩
  · simpa using hX
  · intro i hi
    simp only [cell_of_block h5]
    by_cases hik : i < k
    · obtain ⟨g1, g2, g3, g4, g5⟩ := hcb i hik
      rw [cell_of_block hrow] at g1 g2 g3 g4 g5
      refine ⟨?_, ?_, ?_, ?_, ?_⟩
      · rw [← g1]; repeat rw [List.getElem?_set_ne (by omega)]
      · rw [← g2]; repeat rw [List.getElem?_set_ne (by omega)]
      · rw [← g3]; repeat rw [List.getElem?_set_ne (by omega)]
      · rw [← g4]; repeat rw [List.getElem?_set_ne (by omega)]
      · rw [← g5]; repeat rw [List.getElem?_set_ne (by omega)]
    · obtain rfl : i = k := by omega
      rw [e0, e1, e2, e3, e4]
      simp only [Option.map_some]
      refine ⟨?_, ?_, ?_, ?_, ?_⟩
      · rw [List.getElem?_set_ne (by omega), List.getElem?_set_ne (by omega), List.getElem?_set_ne (by omega), List.getElem?_set_ne (by omega), List.getElem?_set_self (by omega)]
      · rw [List.getElem?_set_ne (by omega), List.getElem?_set_ne (by omega), List.getElem?_set_ne (by omega), List.getElem?_set_self (by rw [List.length_set]; omega)]
      · rw [List.getElem?_set_ne (by omega), List.getElem?_set_ne (by omega), List.getElem?_set_self (by simp only [List.length_set]; omega)]
      · rw [List.getElem?_set_ne (by omega), List.getElem?_set_self (by simp only [List.length_set]; omega)]
      · rw [List.getElem?_set_self (by simp only [List.length_set]; omega)]

theorem CB.below {w w' : World} {gc k : Nat} {F : List ByteArray} {Ln C : List Int} {R : List ByteArray} {us : List Value} (h : CB w gc k F Ln C R us) (hb : w'.heap[gc]? = w.heap[gc]?) : CB w' gc k F Ln C R us := by
  intro i hi
  have e : ∀ j, w'.cell? ⟨gc, j, none⟩ = w.cell? ⟨gc, j, none⟩ := fun j => World.cell?_of_block (w := w) hb
  simp only [e]
  exact h i hi

/-- What the loop of ZZNewModel keeps behind its k-th round. -/
def NM (w wr : World) (n k : Nat) (F : List ByteArray) (Ln C : List Int) (R : List ByteArray) (us : List Value) : Prop :=
  Below w.heap.size w wr ∧ ∃ X : List Value, X.length = n * 5 ∧ wr.heap[w.heap.size]? = some (.cells X.toArray 105 (0, 0)) ∧ CB wr w.heap.size k F Ln C R us

theorem NM.drew {w wr : World} {n k : Nat} {F : List ByteArray} {Ln C : List Int} {R : List ByteArray} {us : List Value} (h : NM w wr n k F Ln C R us) : NM w wr.drew n k F Ln C R us := by
  obtain ⟨h1, X, h2, h3, h4⟩ := h
  exact ⟨h1.drew, X, h2, h3, h4⟩

theorem NM.five {w wr : World} {n k : Nat} {F : List ByteArray} {Ln C : List Int} {R : List ByteArray} {us : List Value} {vF vR : ByteArray} {vL vC : Int} {vU : Value}
    (h : NM w wr n k F Ln C R us) (hk : k < n)
    (e0 : R[k]? = some vR) (e1 : us[k]? = some vU) (e2 : F[k]? = some vF) (e3 : Ln[k]? = some vL) (e4 : C[k]? = some vC) :
    NM w (((((wr.setCell ⟨w.heap.size, k * 5, none⟩ (.string vF)).setCell ⟨w.heap.size, k * 5 + 1, none⟩ (.int .i64 vL)).setCell ⟨w.heap.size, k * 5 + 2, none⟩ (.int .i64 vC)).setCell ⟨w.heap.size, k * 5 + 3, none⟩ (.string vR)).setCell ⟨w.heap.size, k * 5 + 4, none⟩ vU).drew n (k + 1) F Ln C R us := by
  obtain ⟨hb, X, hX, hrow, hcb⟩ := h
  obtain ⟨X', h1, h2, h3⟩ := five_set hrow hX hk hcb e0 e1 e2 e3 e4
  have hb1 := hb.setCell (p := ⟨w.heap.size, k * 5, none⟩) (Nat.le_refl _) (.string vF)
  have hb2 := hb1.setCell (p := ⟨w.heap.size, k * 5 + 1, none⟩) (Nat.le_refl _) (.int .i64 vL)
  have hb3 := hb2.setCell (p := ⟨w.heap.size, k * 5 + 2, none⟩) (Nat.le_refl _) (.int .i64 vC)
  have hb4 := hb3.setCell (p := ⟨w.heap.size, k * 5 + 3, none⟩) (Nat.le_refl _) (.string vR)
  have hb5 := hb4.setCell (p := ⟨w.heap.size, k * 5 + 4, none⟩) (Nat.le_refl _) vU
  exact NM.drew ⟨hb5, X', h1, h2, h3⟩

set_option maxRecDepth 100000 in
set_option maxHeartbeats 4000000 in
theorem newModel_any (a0 a1 a2 a3 a4 : Option Addr) (n c0 c1 c2 c3 c4 : Nat) (R F : List ByteArray) (us : List Value) (Ln C : List Int) (w : World)
    (h0 : Rd w a0 (R.map Value.string)) (h1 : Rd w a1 us) (h2 : Rd w a2 (F.map Value.string)) (h3 : Rd w a3 (Ln.map (Value.int .i64))) (h4 : Rd w a4 (C.map (Value.int .i64)))
    (l0 : R.length = n) (l1 : us.length = n) (l2 : F.length = n) (l3 : Ln.length = n) (l4 : C.length = n) (hn : n ≤ 4096) (hus : ∀ u ∈ us, ∃ a m c, u = .slice a m c) :
    Calls Try.prog 33 #[.slice a0 n c0, .slice a1 n c1, .slice a2 n c2, .slice a3 n c3, .slice a4 n c4] w fun e w' => ∃ gm gc, e = .returned (.pointer (some ⟨gm, 0, none⟩)) ∧ w'.cell? ⟨gm, 0, none⟩ = some (.slice (some ⟨gc, 0, none⟩) n n) ∧ w.heap.size ≤ gm ∧ w.heap.size ≤ gc ∧ CB w' gc n F Ln C R us ∧ Below w.heap.size w w' := by
  have L0 : Hid (R.length = n) := l0
  have L1 : Hid (us.length = n) := l1
  have L2 : Hid (F.length = n) := l2
  have L3 : Hid (Ln.length = n) := l3
  have L4 : Hid (C.length = n) := l4
  have H0 : Hid (Rd w a0 (R.map Value.string)) := h0
  have H1 : Hid (Rd w a1 us) := h1
  have H2 : Hid (Rd w a2 (F.map Value.string)) := h2
  have H3 : Hid (Rd w a3 (Ln.map (Value.int .i64))) := h3
  have H4 : Hid (Rd w a4 (C.map (Value.int .i64))) := h4
  have HUS : Hid (∀ u ∈ us, ∃ a m c, u = .slice a m c) := hus
  clear l0 l1 l2 l3 l4 h0 h1 h2 h3 h4 hus
  obtain ⟨M, hmk, HM⟩ : ∃ M : List Value, (∀ w, (Instr.makeSlice 77 (.int .i64 (n : Int)) (.int .i64 (n : Int))).run Try.prog w = .ok (.slice (some ⟨w.heap.size, 0, none⟩) n n) (w.alloc (.cells M.toArray 105))) ∧ Hid (M.length = n * 5) := by
    obtain ⟨i0, hi, hz0, hz1, hz2⟩ := info_parts Try.info105
    refine ⟨(madeCells (Value.agg #[.string ByteArray.empty, .int .i64 0, .int .i64 0, .string ByteArray.empty, .slice none 0 0]).cells (n * 5)).toList, fun w => ?_, ?_⟩
    · have := run_make (P := Try.prog) w 77 105 i0 _ Try.underlying77 hi hz0 .i64 .i64 n n (by omega) (by omega) (by rw [hz2]; omega) (by omega)
      rw [this]
      simp only [hz1, Int.toNat_natCast, Array.toArray_toList]
    · show _ = _
      simp [madeCells]
  go_enter Try.func33, Try.ntmps33
  go_wp2_with fail
  go_loopw [18] (fun i wr => ∃ k : Nat, k ≤ n ∧ i = .int .i64 k ∧ NM w wr n k F Ln C R us) (fun i _ => n - (intOf i).toNat)
  case atStart => exact ⟨0, Nat.zero_le _, rfl, (Below.refl _ _).alloc (Nat.le_refl _) _, M, HM.out, heap_alloc_new w _, fun i hi => by omega⟩
  case round =>
    clear hmk HM
    obtain ⟨k, hk, rfl, hnm⟩ := hrel
    have HNM : Hid (NM w wr n k F Ln C R us) := hnm
    obtain ⟨hb, X, hX, hrow, hcb⟩ := hnm
    have HX : Hid (X.length = n * 5) := hX
    clear hX
    by_cases hlt : k < n
    · have k0 : k < R.length := by rw [L0.out]; exact hlt
      have k1 : k < us.length := by rw [L1.out]; exact hlt
      have k2 : k < F.length := by rw [L2.out]; exact hlt
      have k3 : k < Ln.length := by rw [L3.out]; exact hlt
      have k4 : k < C.length := by rw [L4.out]; exact hlt
      obtain ⟨b0, o0, e0, r0⟩ := (H0.out.below hb) k (.string R[k]) (by simp [k0])
      obtain ⟨b1, o1, e1, r1⟩ := (H1.out.below hb) k us[k] (by simp [k1])
      obtain ⟨b2, o2, e2, r2⟩ := (H2.out.below hb) k (.string F[k]) (by simp [k2])
      obtain ⟨b3, o3, e3, r3⟩ := (H3.out.below hb) k (.int .i64 Ln[k]) (by simp [k3])
      obtain ⟨b4, o4, e4, r4⟩ := (H4.out.below hb) k (.int .i64 C[k]) (by simp [k4])
      subst e0 e1 e2 e3 e4
      obtain ⟨aU, mU, cU, hone⟩ := HUS.out us[k] (List.getElem_mem k1)
      have hcell : ∀ j, (hj : j < 5) → wr.cell? ⟨w.heap.size, k * 5 + j, none⟩ = some (X[k * 5 + j]'(by rw [HX.out]; omega)) := fun j hj => by
        rw [cell_of_block hrow]; exact List.getElem?_eq_getElem _
      have q0 := hcell 0 (by omega)
      have q1 := hcell 1 (by omega)
      have q2 := hcell 2 (by omega)
      have q3 := hcell 3 (by omega)
      have q4 := hcell 4 (by omega)
      have f0 : ∀ j, wr.frozen? ⟨w.heap.size, k * 5 + j, none⟩ = false := fun j => free_of_block hrow
      have f00 : wr.frozen? ⟨w.heap.size, k * 5, none⟩ = false := free_of_block hrow
      clear hcell hrow hcb hb
      have i1 : (k : Int) < (n : Int) := by omega
      have z0 : 0 ≤ (k : Int) := by omega
      have E0 : Hid (R[k]? = some R[k]) := List.getElem?_eq_getElem k0
      have E1 : Hid (us[k]? = some us[k]) := List.getElem?_eq_getElem k1
      have E2 : Hid (F[k]? = some F[k]) := List.getElem?_eq_getElem k2
      have E3 : Hid (Ln[k]? = some Ln[k]) := List.getElem?_eq_getElem k3
      have E4 : Hid (C[k]? = some C[k]) := List.getElem?_eq_getElem k4
      generalize R[k] = vR at r0 E0
      generalize us[k] = vU at r1 E1 hone
      subst hone
      generalize F[k] = vF at r2 E2
      generalize Ln[k] = vL at r3 E3
      generalize C[k] = vC at r4 E4
      simp only [Nat.add_zero] at q0
      go_wp2_with fail
      go_still_tail 25, mixed
      have HF : Hid _ := HNM.out.five (vU := .slice aU mU cU) hlt E0.out E1.out E2.out E3.out E4.out
      clear HNM
      go_wp2
      go_roundw
      case rel => exact ⟨k + 1, by omega, by go_num, HF.out⟩
      case measure => simp [intOf]; omega
    · obtain rfl : k = n := by omega
      clear hk hlt
      have hwr : w.heap.size < wr.heap.size := lt_of_block hrow
      clear hrow hcb hb
      go_wp2
      go_ret
      refine ⟨wr.heap.size, w.heap.size, rfl, ?_, Nat.le_of_lt hwr, Nat.le_refl _, ?_, HNM.out.1.alloc (Nat.le_of_lt hwr) _⟩
      · rw [World.cell?_alloc_at _ _ _ _ rfl]
        rfl
      · obtain ⟨_, X, _, hrow, hcb⟩ := HNM.out
        exact hcb.below (Below.heap_alloc _ _ _ hwr)

end Go.Proofs.Qxb6603244a
