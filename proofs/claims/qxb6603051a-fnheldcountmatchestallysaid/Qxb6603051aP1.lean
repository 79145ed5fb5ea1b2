/-
  Seat b6603051a: cb1BuildPlacements (26).
-/
import Derived.Test.Qxb6603051aC1
import Derived.StillTailTactics
import Derived.Deep.QuietTactic
import Derived.BigQuiet
namespace Go.Proofs.Qxb6603051a
open Go.RowKit

theorem mixed : Try.prog.follows .mixedOrders = true := by kernel_rfl
theorem Try.info35 : (Try.prog.info? 35).map (fun i => (i.zero, i.size, i.bytes)) = some (some (.agg #[.string ByteArray.empty, .slice none 0 0]), 2, 40) := by kernel_rfl

/-- Placements in a row: two cells each. -/
def flatP (ps : List (ByteArray × Value)) : List Value := ps.flatMap fun p => [.string p.1, p.2]

theorem flatP_len : ∀ ps : List (ByteArray × Value), (flatP ps).length = 2 * ps.length
  | [] => rfl
  | p :: ps => by have := flatP_len ps; simp [flatP] at *; omega

theorem flatP_get0 : ∀ (ps : List (ByteArray × Value)) (k : Nat), (flatP ps)[2 * k]? = ps[k]?.map fun p => Value.string p.1
  | [], k => by simp [flatP]
  | p :: ps, 0 => by simp [flatP]
  | p :: ps, k + 1 => by
    have := flatP_get0 ps k
    show (Value.string p.1 :: p.2 :: flatP ps)[2 * (k + 1)]? = _
    rw [show 2 * (k + 1) = 2 * k + 1 + 1 by omega]
    simpa using this

theorem flatP_get1 : ∀ (ps : List (ByteArray × Value)) (k : Nat), (flatP ps)[2 * k + 1]? = ps[k]?.map fun p => p.2
  | [], k => by simp [flatP]
  | p :: ps, 0 => by simp [flatP]
  | p :: ps, k + 1 => by
    have := flatP_get1 ps k
    show (Value.string p.1 :: p.2 :: flatP ps)[2 * (k + 1) + 1]? = _
    rw [show 2 * (k + 1) + 1 = (2 * k + 1) + 1 + 1 by omega]
    simpa using this

theorem flatP_set (a : ByteArray) (b : Value) : ∀ (ps : List (ByteArray × Value)) (k : Nat), ((flatP ps).set (2 * k) (.string a)).set (2 * k + 1) b = flatP (ps.set k (a, b))
  | [], k => by simp [flatP]
  | p :: ps, 0 => by simp [flatP]
  | p :: ps, k + 1 => by
    have := flatP_set a b ps k
    show ((Value.string p.1 :: p.2 :: flatP ps).set (2 * (k + 1)) _).set (2 * (k + 1) + 1) _ = Value.string p.1 :: p.2 :: flatP (ps.set k (a, b))
    rw [show 2 * (k + 1) = 2 * k + 1 + 1 by omega, ← this]
    simp

theorem made_flat (n : Nat) : madeCells #[.string ByteArray.empty, .slice none 0 0] (n * 2) = (flatP (List.replicate n (ByteArray.empty, .slice none 0 0))).toArray := by
  apply Array.toList_inj.1
  apply List.ext_getElem?
  intro j
  simp only
  rcases Nat.mod_two_eq_zero_or_one j with h | h
  · obtain ⟨k, rfl⟩ : ∃ k, j = 2 * k := ⟨j / 2, by omega⟩
    rw [flatP_get0]
    by_cases hk : k < n
    · simp [madeCells, hk, show 2 * k < n * 2 by omega]
    · simp [madeCells, hk, show ¬ 2 * k < n * 2 by omega]
  · obtain ⟨k, rfl⟩ : ∃ k, j = 2 * k + 1 := ⟨j / 2, by omega⟩
    rw [flatP_get1]
    by_cases hk : k < n
    · simp [madeCells, hk, show 2 * k + 1 < n * 2 by omega, show (2 * k + 1) % 2 = 1 by omega]
    · simp [madeCells, hk, show ¬ 2 * k + 1 < n * 2 by omega]

theorem make_places (w : World) (n : Nat) (hn : n ≤ 2097152) :
    (Instr.makeSlice 47 (.int .i64 (n : Int)) (.int .i64 (n : Int))).run Try.prog w = .ok (.slice (some ⟨w.heap.size, 0, none⟩) n n) (w.alloc (.cells (flatP (List.replicate n (ByteArray.empty, .slice none 0 0))).toArray 35)) := by
  obtain ⟨i0, hi, hz0, hz1, hz2⟩ := info_parts Try.info35
  have := run_make (P := Try.prog) w 47 35 i0 _ Try.underlying47 hi hz0 .i64 .i64 n n (by omega) (by omega) (by rw [hz2]; omega) (by omega)
  rw [this]
  simp only [hz1, Int.toNat_natCast]
  rw [show (Value.agg #[.string ByteArray.empty, .slice none 0 0]).cells = #[.string ByteArray.empty, .slice none 0 0] from rfl, made_flat]

set_option maxHeartbeats 400000 in
theorem build_any (a0 a1 : Option Addr) (n c0 c1 : Nat) (ls : List ByteArray) (us : List Value) (w : World) (h0 : Strs w (.slice a0 n c0) ls) (h1 : Rd w a1 us) (hu : us.length = n) (hm : n ≤ 1048576) (hone : ∀ u ∈ us, ∃ a l c, u = .slice a l c) :
    Calls Try.prog 26 #[.slice a0 n c0, .slice a1 n c1] w fun e w' => e = .returned (.slice (some ⟨w.heap.size, 0, none⟩) n n) ∧ w'.heap[w.heap.size]? = some (.cells (flatP (ls.zip us)).toArray 35 (0, 0)) ∧ Below w.heap.size w w' := by
  have hmk := fun w => make_places w n (by omega)
  have HL : Hid (ls.length = n) := h0.len.1
  have HU : Hid (us.length = n) := hu
  clear hu
  obtain ⟨Z, hZ⟩ : ∃ Z : ByteArray × Value, Z = (ByteArray.empty, .slice none 0 0) := ⟨_, rfl⟩
  rw [← hZ] at hmk
  have HZ : Hid _ := hZ
  clear hZ
  go_enter Try.func26, Try.ntmps26
  go_wp2
  go_loopw [6] (fun i wr => ∃ k : Nat, k ≤ n ∧ i = .int .i64 k ∧ Below w.heap.size w wr ∧
      wr.heap[w.heap.size]? = some (.cells (flatP ((ls.zip us).take k ++ List.replicate (n - k) Z)).toArray 35 (0,0)))  (fun i _ => n - (intOf i).toNat)
  case atStart => exact ⟨0, Nat.zero_le _, rfl, (Below.refl _ _).alloc (Nat.le_refl _) _, by rw [heap_alloc_new]; simp⟩
  case round =>
    obtain ⟨k, hk, rfl, hbe, hrow⟩ := hrel
    by_cases hlt : k < n
    · have hkl : k < ls.length := by rw [HL.out]; exact hlt
      have hku : k < us.length := by rw [HU.out]; exact hlt
      obtain ⟨b, off, u, hx, hcx0, hu⟩ := h0.at hkl
      subst hx
      unfold EStr at hu
      subst hu
      obtain ⟨b', off', hy, hcy0⟩ := h1.at hku
      subst hy
      obtain ⟨aa, la, ca, hua⟩ := hone _ (List.getElem_mem hku)
      rw [hua] at hcy0
      have hcx := cell_later hbe hcx0
      have hcy := cell_later hbe hcy0
      have hlz : k < (ls.zip us).length := by rw [List.length_zip, HL.out, HU.out]; omega
      have hzk : ((ls.zip us).take k ++ List.replicate (n - k) Z)[k]? = some Z := by
        rw [List.getElem?_append_right (by simp; omega), show k - ((ls.zip us).take k).length = 0 by rw [List.length_take]; omega, show n - k = (n - (k + 1)) + 1 by omega, List.replicate_succ]; rfl
      have hq0 : wr.cell? ⟨w.heap.size, k * 2, none⟩ = some (.string ByteArray.empty) := by rw [cell_of_block hrow, Nat.mul_comm, flatP_get0, hzk, HZ.out]; rfl
      have hq1 : wr.cell? ⟨w.heap.size, k * 2 + 1, none⟩ = some (.slice none 0 0) := by rw [cell_of_block hrow, Nat.mul_comm, flatP_get1, hzk, HZ.out]; rfl
      have hf0 : wr.frozen? ⟨w.heap.size, k * 2, none⟩ = false := free_of_block hrow
      have hf1 : wr.frozen? ⟨w.heap.size, k * 2 + 1, none⟩ = false := free_of_block hrow
      have i1 : (k : Int) < (n : Int) := by omega
      have hs1 := block_setCell (k := k * 2 + 1) (block_setCell (k := k * 2) hrow (.string ls[k])) (.slice aa la ca)
      rw [Nat.mul_comm, flatP_set, ← hua] at hs1
      have e3 : ((ls.zip us).take k ++ List.replicate (n - k) Z).set k (ls[k], us[k]) = (ls.zip us).take (k + 1) ++ List.replicate (n - (k + 1)) Z := by
        rw [List.set_append_right _ _ (by rw [List.length_take]; omega), show k - ((ls.zip us).take k).length = 0 by rw [List.length_take]; omega, show n - k = (n - (k + 1)) + 1 by omega, List.replicate_succ, List.take_succ_eq_append_getElem hlz]
        simp
      rw [e3, hua, Nat.mul_comm] at hs1
      have HS : Hid _ := hs1
      clear h0 h1 hrow hcx0 hcy0 hua hone hs1 e3 hzk hlz
      go_wp2_with fail
      go_region
      go_wp2
      go_roundw
      case rel => exact ⟨k + 1, by omega, by go_num, ((hbe.setCell (by exact Nat.le_refl _) _).setCell (by exact Nat.le_refl _) _).drew, HS.out⟩
      case measure => simp [intOf]; omega
    · obtain rfl : k = n := by omega
      have e3 : (ls.zip us).take k ++ List.replicate (k - k) Z = ls.zip us := by
        rw [List.take_of_length_le (by rw [List.length_zip, HL.out, HU.out]; omega)]; simp
      rw [e3] at hrow
      have HR : Hid _ := hrow
      clear hrow e3 h0 h1 hone
      go_wp2
      go_ret
      exact ⟨rfl, HR.out, hbe⟩

end Go.Proofs.Qxb6603051a
