/-
  Seat b6603051a: the copies: cb1CloneStrings (11), cb1CloneInts (13), cb1CloneBools (14), cb1CloneNested (24), cb1CloneNestedInts (31).
-/
import Derived.Test.Qxb6603051aRows
import Derived.Test.Qxb6603051aBase
namespace Go.Proofs.Qxb6603051a
open Go.RowKit

theorem Try.info9 : (Try.prog.info? 9).map (fun i => (i.zero, i.size, i.bytes)) = some (some (.string ByteArray.empty), 1, 16) := by kernel_rfl
theorem Try.info3 : (Try.prog.info? 3).map (fun i => (i.zero, i.size, i.bytes)) = some (some (.int .i64 0), 1, 8) := by kernel_rfl
theorem Try.info4 : (Try.prog.info? 4).map (fun i => (i.zero, i.size, i.bytes)) = some (some (.bool false), 1, 1) := by kernel_rfl
theorem Try.info22 : (Try.prog.info? 22).map (fun i => (i.zero, i.size, i.bytes)) = some (some (Value.slice none 0 0), 1, 24) := by kernel_rfl
theorem Try.info24 : (Try.prog.info? 24).map (fun i => (i.zero, i.size, i.bytes)) = some (some (Value.slice none 0 0), 1, 24) := by kernel_rfl

/-- 'make([]T, n)' for elements of one cell. -/
theorem make_row (T e : TypeId) (z : Value) (bytes : Nat) (hT : Try.prog.underlying T = some (.slice e)) (hinfo : (Try.prog.info? e).map (fun i => (i.zero, i.size, i.bytes)) = some (some z, 1, bytes)) (hz : z.cells = #[z]) (hb : bytes ≤ 64) (w : World) (n : Nat) (hn : n ≤ 2097152) :
    (Instr.makeSlice T (.int .i64 (n : Int)) (.int .i64 (n : Int))).run Try.prog w = .ok (.slice (some ⟨w.heap.size, 0, none⟩) n n) (w.alloc (.cells (List.replicate n z).toArray e)) := by
  obtain ⟨i0, hi, hz0, hz1, hz2⟩ := info_parts hinfo
  have hm : bytes * n ≤ 64 * 2097152 := Nat.mul_le_mul hb hn
  have hm' : ((bytes : Int) * (n : Int)) ≤ 281474976710656 := by
    have : ((bytes * n : Nat) : Int) ≤ 281474976710656 := by omega
    simpa using this
  have := run_make (P := Try.prog) w T e i0 _ hT hi hz0 .i64 .i64 n n (by omega) (by omega) (by rw [hz2]; exact hm') (by omega)
  rw [this]
  simp only [hz1, Int.toNat_natCast, Nat.mul_one]
  have e : madeCells z.cells n = (List.replicate n z).toArray := by
    apply Array.toList_inj.1
    rw [hz, toList_madeCells_one]
  rw [e]


theorem clone11_any (ao : Option Addr) (n cap : Nat) (xs : List ByteArray) (w : World) (hs : Slc EStr w (.slice ao n cap) xs) (hm : n ≤ 1048576) :
    Calls Try.prog 11 #[.slice ao n cap] w fun e w' => ∃ ao' c', e = .returned (.slice ao' n c') ∧ w'.ownsRow w.heap.size 9 1 (.slice ao' n c') n (xs.map Value.string) ∧ Below w.heap.size w w' := by
  have kn := fun w a n c n' c' => Lib.run_eql_slice_nil (P := Try.prog) w 22 9 a n c n' c' Try.underlying22
  obtain ⟨hl, hcap, hnil⟩ := hs.len
  have HL : Hid (xs.length = n) := hl
  clear hl
  cases ao with
  | none =>
    obtain ⟨rfl, rfl⟩ := hnil rfl
    obtain rfl : xs = [] := List.eq_nil_of_length_eq_zero HL.out
    clear HL
    go_enter Try.func11, Try.ntmps11
    go_wp2
    go_ret
    exact ⟨none, 0, rfl, World.ownsRow_nil _ _ _ _, Below.refl _ _⟩
  | some x =>
    have hmk := fun w => make_row 22 9 (Value.string ByteArray.empty) 16 Try.underlying22 Try.info9 rfl (by omega) w n (by omega)
    have hXl : (xs.map Value.string).length = n := by simp [HL.out]
    clear hnil
    obtain ⟨X, hX⟩ : ∃ X : List Value, X = xs.map Value.string := ⟨_, rfl⟩
    rw [← hX] at hXl ⊢
    have HX : Hid _ := hX
    have HXl : Hid _ := hXl
    have h0 : (List.replicate n (Value.string ByteArray.empty)).toArray = (X.take 0 ++ List.replicate (X.length - 0) (Value.string ByteArray.empty)).toArray := by rw [hXl]; simp
    have H0 : Hid _ := h0
    clear hX hXl h0
    go_enter Try.func11, Try.ntmps11
    go_wp2
    go_loopw [4] (fun i wr => ∃ k : Nat, k ≤ n ∧ i = .int .i64 k ∧ Below w.heap.size w wr ∧
      wr.heap[w.heap.size]? = some (.cells (X.take k ++ List.replicate (X.length - k) (Value.string ByteArray.empty)).toArray 9 (0,0)))  (fun i _ => n - (intOf i).toNat)
    case atStart => exact ⟨0, Nat.zero_le _, rfl, (Below.refl _ _).alloc (Nat.le_refl _) _, by rw [heap_alloc_new, ← H0.out]; simp⟩
    case round =>
      obtain ⟨k, hk, rfl, hbe, hrow⟩ := hrel
      by_cases hlt : k < n
      · have hkx : k < xs.length := by have := HL.out; omega
        have hkX : k < X.length := by rw [HXl.out]; exact hlt
        obtain ⟨b, off, u, hx, hcx0, hu⟩ := hs.at hkx
        simp only [Option.some.injEq] at hx
        subst hx
        unfold EStr at hu
        subst hu
        have hXk : X[k]? = some (Value.string xs[k]) := by rw [HX.out]; simp [hkx]
        have hcx := cell_later hbe hcx0
        have hcy : wr.cell? ⟨w.heap.size, k, none⟩ = some (Value.string ByteArray.empty) := by rw [cell_of_block hrow]; exact fill_get hkX
        have hfy : wr.frozen? ⟨w.heap.size, k, none⟩ = false := free_of_block hrow
        have hs2 := block_setCell (k := k) hrow (Value.string xs[k])
        rw [fill_set _ _ _ k hXk] at hs2
        clear hs hrow hcx0 hXk
        have HS : Hid _ := hs2
        clear hs2
        go_wp2
        go_roundw
        case rel => exact ⟨k + 1, by omega, by go_num, hbe.setCell (by exact Nat.le_refl _) _, HS.out⟩
        case measure => simp [intOf]; omega
      · obtain rfl : k = n := by omega
        clear hlt hk hs
        have eX : X.take k ++ List.replicate (X.length - k) (Value.string ByteArray.empty) = X := by
          rw [List.take_of_length_le (by rw [HXl.out]; exact Nat.le_refl _), HXl.out]; simp
        rw [eX] at hrow
        have ho := own_of_block (base := w.heap.size) hrow (Nat.le_refl _) (by rw [HXl.out]; unfold maxLen; omega)
        rw [HXl.out] at ho
        have HO : Hid _ := ho
        clear ho hrow eX
        go_wp2
        go_ret
        exact ⟨_, _, rfl, HO.out, hbe⟩

theorem own_slc9 {w : World} {base : Nat} {ao : Option Addr} {n c : Nat} {xs : List ByteArray} (h : w.ownsRow base 9 1 (.slice ao n c) n (xs.map Value.string)) : Slc EStr w (.slice ao n c) xs := by
  have hs := own_shape h
  obtain ⟨a', c', hv, hc, hn⟩ := hs
  cases hv
  have hl := h.1
  simp only [List.length_map, Nat.mul_one] at hl
  exact Slc.of_rd (own_rd h) (by simpa using hl) hl hc hn (fun i u x h1 h2 => by simp [h2] at h1; exact h1.symm)

theorem clone13_any (ao : Option Addr) (n cap : Nat) (xs : List Int) (w : World) (hs : Slc EInt w (.slice ao n cap) xs) (hm : n ≤ 1048576) :
    Calls Try.prog 13 #[.slice ao n cap] w fun e w' => ∃ ao' c', e = .returned (.slice ao' n c') ∧ w'.ownsRow w.heap.size 3 1 (.slice ao' n c') n (xs.map (Value.int .i64)) ∧ Below w.heap.size w w' := by
  have kn := fun w a n c n' c' => Lib.run_eql_slice_nil (P := Try.prog) w 24 3 a n c n' c' Try.underlying24
  obtain ⟨hl, hcap, hnil⟩ := hs.len
  have HL : Hid (xs.length = n) := hl
  clear hl
  cases ao with
  | none =>
    obtain ⟨rfl, rfl⟩ := hnil rfl
    obtain rfl : xs = [] := List.eq_nil_of_length_eq_zero HL.out
    clear HL
    go_enter Try.func13, Try.ntmps13
    go_wp2
    go_ret
    exact ⟨none, 0, rfl, World.ownsRow_nil _ _ _ _, Below.refl _ _⟩
  | some x =>
    have hmk := fun w => make_row 24 3 (Value.int .i64 0) 8 Try.underlying24 Try.info3 rfl (by omega) w n (by omega)
    have hXl : (xs.map (Value.int .i64)).length = n := by simp [HL.out]
    clear hnil
    obtain ⟨X, hX⟩ : ∃ X : List Value, X = xs.map (Value.int .i64) := ⟨_, rfl⟩
    rw [← hX] at hXl ⊢
    have HX : Hid _ := hX
    have HXl : Hid _ := hXl
    have h0 : (List.replicate n (Value.int .i64 0)).toArray = (X.take 0 ++ List.replicate (X.length - 0) (Value.int .i64 0)).toArray := by rw [hXl]; simp
    have H0 : Hid _ := h0
    clear hX hXl h0
    go_enter Try.func13, Try.ntmps13
    go_wp2
    go_loopw [4] (fun i wr => ∃ k : Nat, k ≤ n ∧ i = .int .i64 k ∧ Below w.heap.size w wr ∧
      wr.heap[w.heap.size]? = some (.cells (X.take k ++ List.replicate (X.length - k) (Value.int .i64 0)).toArray 3 (0,0)))  (fun i _ => n - (intOf i).toNat)
    case atStart => exact ⟨0, Nat.zero_le _, rfl, (Below.refl _ _).alloc (Nat.le_refl _) _, by rw [heap_alloc_new, ← H0.out]; simp⟩
    case round =>
      obtain ⟨k, hk, rfl, hbe, hrow⟩ := hrel
      by_cases hlt : k < n
      · have hkx : k < xs.length := by have := HL.out; omega
        have hkX : k < X.length := by rw [HXl.out]; exact hlt
        obtain ⟨b, off, u, hx, hcx0, hu⟩ := hs.at hkx
        simp only [Option.some.injEq] at hx
        subst hx
        unfold EInt at hu
        subst hu
        have hXk : X[k]? = some ((Value.int .i64) xs[k]) := by rw [HX.out]; simp [hkx]
        have hcx := cell_later hbe hcx0
        have hcy : wr.cell? ⟨w.heap.size, k, none⟩ = some (Value.int .i64 0) := by rw [cell_of_block hrow]; exact fill_get hkX
        have hfy : wr.frozen? ⟨w.heap.size, k, none⟩ = false := free_of_block hrow
        have hs2 := block_setCell (k := k) hrow ((Value.int .i64) xs[k])
        rw [fill_set _ _ _ k hXk] at hs2
        clear hs hrow hcx0 hXk
        have HS : Hid _ := hs2
        clear hs2
        go_wp2
        go_roundw
        case rel => exact ⟨k + 1, by omega, by go_num, hbe.setCell (by exact Nat.le_refl _) _, HS.out⟩
        case measure => simp [intOf]; omega
      · obtain rfl : k = n := by omega
        clear hlt hk hs
        have eX : X.take k ++ List.replicate (X.length - k) (Value.int .i64 0) = X := by
          rw [List.take_of_length_le (by rw [HXl.out]; exact Nat.le_refl _), HXl.out]; simp
        rw [eX] at hrow
        have ho := own_of_block (base := w.heap.size) hrow (Nat.le_refl _) (by rw [HXl.out]; unfold maxLen; omega)
        rw [HXl.out] at ho
        have HO : Hid _ := ho
        clear ho hrow eX
        go_wp2
        go_ret
        exact ⟨_, _, rfl, HO.out, hbe⟩

theorem own_slc3 {w : World} {base : Nat} {ao : Option Addr} {n c : Nat} {xs : List Int} (h : w.ownsRow base 3 1 (.slice ao n c) n (xs.map (Value.int .i64))) : Slc EInt w (.slice ao n c) xs := by
  have hs := own_shape h
  obtain ⟨a', c', hv, hc, hn⟩ := hs
  cases hv
  have hl := h.1
  simp only [List.length_map, Nat.mul_one] at hl
  exact Slc.of_rd (own_rd h) (by simpa using hl) hl hc hn (fun i u x h1 h2 => by simp [h2] at h1; exact h1.symm)

theorem clone14_any (ao : Option Addr) (n cap : Nat) (xs : List Bool) (w : World) (hs : Slc EBool w (.slice ao n cap) xs) (hm : n ≤ 1048576) :
    Calls Try.prog 14 #[.slice ao n cap] w fun e w' => ∃ ao' c', e = .returned (.slice ao' n c') ∧ w'.ownsRow w.heap.size 4 1 (.slice ao' n c') n (xs.map Value.bool) ∧ Below w.heap.size w w' := by
  have kn := fun w a n c n' c' => Lib.run_eql_slice_nil (P := Try.prog) w 25 4 a n c n' c' Try.underlying25
  obtain ⟨hl, hcap, hnil⟩ := hs.len
  have HL : Hid (xs.length = n) := hl
  clear hl
  cases ao with
  | none =>
    obtain ⟨rfl, rfl⟩ := hnil rfl
    obtain rfl : xs = [] := List.eq_nil_of_length_eq_zero HL.out
    clear HL
    go_enter Try.func14, Try.ntmps14
    go_wp2
    go_ret
    exact ⟨none, 0, rfl, World.ownsRow_nil _ _ _ _, Below.refl _ _⟩
  | some x =>
    have hmk := fun w => make_row 25 4 (Value.bool false) 1 Try.underlying25 Try.info4 rfl (by omega) w n (by omega)
    have hXl : (xs.map Value.bool).length = n := by simp [HL.out]
    clear hnil
    obtain ⟨X, hX⟩ : ∃ X : List Value, X = xs.map Value.bool := ⟨_, rfl⟩
    rw [← hX] at hXl ⊢
    have HX : Hid _ := hX
    have HXl : Hid _ := hXl
    have h0 : (List.replicate n (Value.bool false)).toArray = (X.take 0 ++ List.replicate (X.length - 0) (Value.bool false)).toArray := by rw [hXl]; simp
    have H0 : Hid _ := h0
    clear hX hXl h0
    go_enter Try.func14, Try.ntmps14
    go_wp2
    go_loopw [4] (fun i wr => ∃ k : Nat, k ≤ n ∧ i = .int .i64 k ∧ Below w.heap.size w wr ∧
      wr.heap[w.heap.size]? = some (.cells (X.take k ++ List.replicate (X.length - k) (Value.bool false)).toArray 4 (0,0)))  (fun i _ => n - (intOf i).toNat)
    case atStart => exact ⟨0, Nat.zero_le _, rfl, (Below.refl _ _).alloc (Nat.le_refl _) _, by rw [heap_alloc_new, ← H0.out]; simp⟩
    case round =>
      obtain ⟨k, hk, rfl, hbe, hrow⟩ := hrel
      by_cases hlt : k < n
      · have hkx : k < xs.length := by have := HL.out; omega
        have hkX : k < X.length := by rw [HXl.out]; exact hlt
        obtain ⟨b, off, u, hx, hcx0, hu⟩ := hs.at hkx
        simp only [Option.some.injEq] at hx
        subst hx
        unfold EBool at hu
        subst hu
        have hXk : X[k]? = some (Value.bool xs[k]) := by rw [HX.out]; simp [hkx]
        have hcx := cell_later hbe hcx0
        have hcy : wr.cell? ⟨w.heap.size, k, none⟩ = some (Value.bool false) := by rw [cell_of_block hrow]; exact fill_get hkX
        have hfy : wr.frozen? ⟨w.heap.size, k, none⟩ = false := free_of_block hrow
        have hs2 := block_setCell (k := k) hrow (Value.bool xs[k])
        rw [fill_set _ _ _ k hXk] at hs2
        clear hs hrow hcx0 hXk
        have HS : Hid _ := hs2
        clear hs2
        go_wp2
        go_roundw
        case rel => exact ⟨k + 1, by omega, by go_num, hbe.setCell (by exact Nat.le_refl _) _, HS.out⟩
        case measure => simp [intOf]; omega
      · obtain rfl : k = n := by omega
        clear hlt hk hs
        have eX : X.take k ++ List.replicate (X.length - k) (Value.bool false) = X := by
          rw [List.take_of_length_le (by rw [HXl.out]; exact Nat.le_refl _), HXl.out]; simp
        rw [eX] at hrow
        have ho := own_of_block (base := w.heap.size) hrow (Nat.le_refl _) (by rw [HXl.out]; unfold maxLen; omega)
        rw [HXl.out] at ho
        have HO : Hid _ := ho
        clear ho hrow eX
        go_wp2
        go_ret
        exact ⟨_, _, rfl, HO.out, hbe⟩

theorem own_slc4 {w : World} {base : Nat} {ao : Option Addr} {n c : Nat} {xs : List Bool} (h : w.ownsRow base 4 1 (.slice ao n c) n (xs.map Value.bool)) : Slc EBool w (.slice ao n c) xs := by
  have hs := own_shape h
  obtain ⟨a', c', hv, hc, hn⟩ := hs
  cases hv
  have hl := h.1
  simp only [List.length_map, Nat.mul_one] at hl
  exact Slc.of_rd (own_rd h) (by simpa using hl) hl hc hn (fun i u x h1 h2 => by simp [h2] at h1; exact h1.symm)

theorem clone24_any (ao : Option Addr) (n cap : Nat) (xs : List (List ByteArray)) (w : World) (hs : Slc (Slc EStr) w (.slice ao n cap) xs) (hm : n ≤ 1048576) (hmi : ∀ x ∈ xs, x.length ≤ 1048576) :
    Calls Try.prog 24 #[.slice ao n cap] w fun e w' => ∃ ao' c' us, e = .returned (.slice ao' n c') ∧ w'.ownsRow w.heap.size 22 1 (.slice ao' n c') n us ∧ us.length = n ∧
      (∀ i : Nat, ∀ u, us[i]? = some u → ∃ x, xs[i]? = some x ∧ w'.ownsRow (w.heap.size + 1) 9 1 u x.length (x.map Value.string)) ∧ Below w.heap.size w w' := by
  have kn := fun w a n c n' c' => Lib.run_eql_slice_nil (P := Try.prog) w 43 22 a n c n' c' Try.underlying43
  obtain ⟨hl, hcap, hnil⟩ := hs.len
  have HL : Hid (xs.length = n) := hl
  clear hl
  cases ao with
  | none =>
    obtain ⟨rfl, rfl⟩ := hnil rfl
    obtain rfl : xs = [] := List.eq_nil_of_length_eq_zero HL.out
    clear HL
    go_enter Try.func24, Try.ntmps24
    go_wp2
    go_ret
    exact ⟨none, 0, rfl, [], World.ownsRow_nil _ _ _ _, rfl, (fun i u h => by simp at h), Below.refl _ _⟩
  | some x =>
    have hmk := fun w => make_row 43 22 (Value.slice none 0 0) 24 Try.underlying43 Try.info22 rfl (by omega) w n (by omega)
    clear hnil
    go_enter Try.func24, Try.ntmps24
    go_wp2
    go_loopw [4] (fun i wr => ∃ k : Nat, k ≤ n ∧ i = .int .i64 k ∧ Below w.heap.size w wr ∧ w.heap.size + 1 ≤ wr.heap.size ∧ ∃ us : List Value, us.length = k ∧
      wr.heap[w.heap.size]? = some (.cells (us ++ List.replicate (n - k) (Value.slice none 0 0)).toArray 22 (0,0)) ∧
      (∀ i : Nat, ∀ u, us[i]? = some u → ∃ x, xs[i]? = some x ∧ wr.ownsRow (w.heap.size + 1) 9 1 u x.length (x.map Value.string)))  (fun i _ => n - (intOf i).toNat)
    case atStart => exact ⟨0, Nat.zero_le _, rfl, (Below.refl _ _).alloc (Nat.le_refl _) _, by simp, [], rfl, by rw [heap_alloc_new]; simp, fun i u h => by simp at h⟩
    case round =>
      obtain ⟨k, hk, rfl, hbe, hsz, us, hul, hrow, hus⟩ := hrel
      have HUL : Hid (us.length = k) := hul
      clear hul
      by_cases hlt : k < n
      · have hkx : k < xs.length := by have := HL.out; omega
        obtain ⟨b, off, u, hx, hcx0, hu⟩ := hs.at hkx
        simp only [Option.some.injEq] at hx
        subst hx
        obtain ⟨ai, ci, rfl, -, -⟩ := hu.shape
        have hcx := cell_later hbe hcx0
        have hu' := Slc.below hu hbe (fun _ _ h => h)
        have hmk' := hmi _ (List.getElem_mem hkx)
        clear hs hcx0 hu hmi
        have HR : Hid _ := hrow
        have HUS : Hid _ := hus
        have HU' : Hid _ := hu'
        clear hrow hus hu'
        go_wp2_with fail
        refine (clone11_any _ _ _ _ _ HU'.out hmk').mono ?_
        rintro e w1 ⟨ao1, c1, rfl, ho, hb1⟩
        have hrow1 : w1.heap[w.heap.size]? = some (.cells (us ++ List.replicate (n - k) (Value.slice none 0 0)).toArray 22 (0,0)) := by rw [hb1.block _ hsz]; exact HR.out
        have hcy : w1.cell? ⟨w.heap.size, k, none⟩ = some (Value.slice none 0 0) := by
          rw [cell_of_block hrow1, List.getElem?_append_right (by rw [HUL.out]; exact Nat.le_refl _), HUL.out, Nat.sub_self, show n - k = (n - (k + 1)) + 1 by omega, List.replicate_succ]
          rfl
        have hfy : w1.frozen? ⟨w.heap.size, k, none⟩ = false := free_of_block hrow1
        have hs2 := block_setCell (k := k) hrow1 (.slice ao1 xs[k].length c1)
        have e2 : (us ++ List.replicate (n - k) (Value.slice none 0 0)).set k (.slice ao1 xs[k].length c1) = (us ++ [.slice ao1 xs[k].length c1]) ++ List.replicate (n - (k + 1)) (Value.slice none 0 0) := by
          rw [List.set_append_right _ _ (by rw [HUL.out]; exact Nat.le_refl _), HUL.out, Nat.sub_self, show n - k = (n - (k + 1)) + 1 by omega, List.replicate_succ]
          simp
        rw [e2] at hs2
        have hus2 : ∀ i : Nat, ∀ u, (us ++ [Value.slice ao1 xs[k].length c1])[i]? = some u → ∃ x, xs[i]? = some x ∧ (w1.setCell ⟨w.heap.size, k, none⟩ (.slice ao1 xs[k].length c1)).ownsRow (w.heap.size + 1) 9 1 u x.length (x.map Value.string) := by
          intro i u hiu
          by_cases hik : i < us.length
          · rw [List.getElem?_append_left hik] at hiu
            obtain ⟨x, h1, h2⟩ := HUS.out i u hiu
            exact ⟨x, h1, ownsRow_setCell_below (own_below h2 hb1) (by simp) _⟩
          · rw [List.getElem?_append_right (by omega)] at hiu
            have : i - us.length = 0 := by
              have := (List.getElem?_eq_some_iff.1 hiu).1
              simp at this; omega
            rw [this] at hiu
            simp only [List.getElem?_cons_zero, Option.some.injEq] at hiu
            subst hiu
            have hi : i = k := by have := HUL.out; omega
            subst hi
            exact ⟨xs[i], List.getElem?_eq_getElem hkx, ownsRow_setCell_below (own_mono ho (by omega)) (by simp) _⟩
        have H2 : Hid _ := And.intro hs2 hus2
        have HB : Below w.heap.size w w1 := hbe.trans (hb1.mono hbe.size)
        have HZ : w.heap.size + 1 ≤ w1.heap.size := Nat.le_trans hsz hb1.size
        clear hs2 hus2 e2 hrow1 ho hb1 HUS HR HU' hcx hbe
        go_wp2
        go_roundw
        case rel => exact ⟨k + 1, by omega, by go_num, HB.setCell (by exact Nat.le_refl _) _, by rw [size_setCell]; exact HZ, _, by simp [HUL.out], H2.out.1, H2.out.2⟩
        case measure => simp [intOf]; omega
      · obtain rfl : k = n := by omega
        clear hlt hk hs
        simp only [Nat.sub_self, List.replicate_zero, List.append_nil] at hrow
        have ho := own_of_block (base := w.heap.size) hrow (Nat.le_refl _) (by rw [HUL.out]; unfold maxLen; omega)
        rw [HUL.out] at ho
        have HO : Hid _ := And.intro ho hus
        clear ho hrow hus
        go_wp2
        go_ret
        exact ⟨_, _, us, rfl, HO.out.1, HUL.out, HO.out.2, hbe⟩

theorem nest_slc22 {w : World} {base base2 : Nat} {ao : Option Addr} {n c : Nat} {us : List Value} {xs : List (List ByteArray)} (h : w.ownsRow base 22 1 (.slice ao n c) n us) (hl : us.length = n) (hx : xs.length = n)
    (hi : ∀ i : Nat, ∀ u, us[i]? = some u → ∃ x, xs[i]? = some x ∧ w.ownsRow base2 9 1 u x.length (x.map Value.string)) : Slc (Slc EStr) w (.slice ao n c) xs := by
  obtain ⟨a', c', hv, hc, hn⟩ := own_shape h
  cases hv
  refine Slc.of_rd (own_rd h) hl hx hc hn (fun i u x h1 h2 => ?_)
  obtain ⟨x', h3, h4⟩ := hi i u h1
  rw [h2] at h3
  cases h3
  obtain ⟨a2, c2, rfl, -, -⟩ := own_shape h4
  exact own_slc9 h4

theorem clone31_any (ao : Option Addr) (n cap : Nat) (xs : List (List Int)) (w : World) (hs : Slc (Slc EInt) w (.slice ao n cap) xs) (hm : n ≤ 1048576) (hmi : ∀ x ∈ xs, x.length ≤ 1048576) :
    Calls Try.prog 31 #[.slice ao n cap] w fun e w' => ∃ ao' c' us, e = .returned (.slice ao' n c') ∧ w'.ownsRow w.heap.size 24 1 (.slice ao' n c') n us ∧ us.length = n ∧
      (∀ i : Nat, ∀ u, us[i]? = some u → ∃ x, xs[i]? = some x ∧ w'.ownsRow (w.heap.size + 1) 3 1 u x.length (x.map (Value.int .i64))) ∧ Below w.heap.size w w' := by
  have kn := fun w a n c n' c' => Lib.run_eql_slice_nil (P := Try.prog) w 52 24 a n c n' c' Try.underlying52
  obtain ⟨hl, hcap, hnil⟩ := hs.len
  have HL : Hid (xs.length = n) := hl
  clear hl
  cases ao with
  | none =>
    obtain ⟨rfl, rfl⟩ := hnil rfl
    obtain rfl : xs = [] := List.eq_nil_of_length_eq_zero HL.out
    clear HL
    go_enter Try.func31, Try.ntmps31
    go_wp2
    go_ret
    exact ⟨none, 0, rfl, [], World.ownsRow_nil _ _ _ _, rfl, (fun i u h => by simp at h), Below.refl _ _⟩
  | some x =>
    have hmk := fun w => make_row 52 24 (Value.slice none 0 0) 24 Try.underlying52 Try.info24 rfl (by omega) w n (by omega)
    clear hnil
    go_enter Try.func31, Try.ntmps31
    go_wp2
    go_loopw [4] (fun i wr => ∃ k : Nat, k ≤ n ∧ i = .int .i64 k ∧ Below w.heap.size w wr ∧ w.heap.size + 1 ≤ wr.heap.size ∧ ∃ us : List Value, us.length = k ∧
      wr.heap[w.heap.size]? = some (.cells (us ++ List.replicate (n - k) (Value.slice none 0 0)).toArray 24 (0,0)) ∧
      (∀ i : Nat, ∀ u, us[i]? = some u → ∃ x, xs[i]? = some x ∧ wr.ownsRow (w.heap.size + 1) 3 1 u x.length (x.map (Value.int .i64))))  (fun i _ => n - (intOf i).toNat)
    case atStart => exact ⟨0, Nat.zero_le _, rfl, (Below.refl _ _).alloc (Nat.le_refl _) _, by simp, [], rfl, by rw [heap_alloc_new]; simp, fun i u h => by simp at h⟩
    case round =>
      obtain ⟨k, hk, rfl, hbe, hsz, us, hul, hrow, hus⟩ := hrel
      have HUL : Hid (us.length = k) := hul
      clear hul
      by_cases hlt : k < n
      · have hkx : k < xs.length := by have := HL.out; omega
        obtain ⟨b, off, u, hx, hcx0, hu⟩ := hs.at hkx
        simp only [Option.some.injEq] at hx
        subst hx
        obtain ⟨ai, ci, rfl, -, -⟩ := hu.shape
        have hcx := cell_later hbe hcx0
        have hu' := Slc.below hu hbe (fun _ _ h => h)
        have hmk' := hmi _ (List.getElem_mem hkx)
        clear hs hcx0 hu hmi
        have HR : Hid _ := hrow
        have HUS : Hid _ := hus
        have HU' : Hid _ := hu'
        clear hrow hus hu'
        go_wp2_with fail
        refine (clone13_any _ _ _ _ _ HU'.out hmk').mono ?_
        rintro e w1 ⟨ao1, c1, rfl, ho, hb1⟩
        have hrow1 : w1.heap[w.heap.size]? = some (.cells (us ++ List.replicate (n - k) (Value.slice none 0 0)).toArray 24 (0,0)) := by rw [hb1.block _ hsz]; exact HR.out
        have hcy : w1.cell? ⟨w.heap.size, k, none⟩ = some (Value.slice none 0 0) := by
          rw [cell_of_block hrow1, List.getElem?_append_right (by rw [HUL.out]; exact Nat.le_refl _), HUL.out, Nat.sub_self, show n - k = (n - (k + 1)) + 1 by omega, List.replicate_succ]
          rfl
        have hfy : w1.frozen? ⟨w.heap.size, k, none⟩ = false := free_of_block hrow1
        have hs2 := block_setCell (k := k) hrow1 (.slice ao1 xs[k].length c1)
        have e2 : (us ++ List.replicate (n - k) (Value.slice none 0 0)).set k (.slice ao1 xs[k].length c1) = (us ++ [.slice ao1 xs[k].length c1]) ++ List.replicate (n - (k + 1)) (Value.slice none 0 0) := by
          rw [List.set_append_right _ _ (by rw [HUL.out]; exact Nat.le_refl _), HUL.out, Nat.sub_self, show n - k = (n - (k + 1)) + 1 by omega, List.replicate_succ]
          simp
        rw [e2] at hs2
        have hus2 : ∀ i : Nat, ∀ u, (us ++ [Value.slice ao1 xs[k].length c1])[i]? = some u → ∃ x, xs[i]? = some x ∧ (w1.setCell ⟨w.heap.size, k, none⟩ (.slice ao1 xs[k].length c1)).ownsRow (w.heap.size + 1) 3 1 u x.length (x.map (Value.int .i64)) := by
          intro i u hiu
          by_cases hik : i < us.length
          · rw [List.getElem?_append_left hik] at hiu
            obtain ⟨x, h1, h2⟩ := HUS.out i u hiu
            exact ⟨x, h1, ownsRow_setCell_below (own_below h2 hb1) (by simp) _⟩
          · rw [List.getElem?_append_right (by omega)] at hiu
            have : i - us.length = 0 := by
              have := (List.getElem?_eq_some_iff.1 hiu).1
              simp at this; omega
            rw [this] at hiu
            simp only [List.getElem?_cons_zero, Option.some.injEq] at hiu
            subst hiu
            have hi : i = k := by have := HUL.out; omega
            subst hi
            exact ⟨xs[i], List.getElem?_eq_getElem hkx, ownsRow_setCell_below (own_mono ho (by omega)) (by simp) _⟩
        have H2 : Hid _ := And.intro hs2 hus2
        have HB : Below w.heap.size w w1 := hbe.trans (hb1.mono hbe.size)
        have HZ : w.heap.size + 1 ≤ w1.heap.size := Nat.le_trans hsz hb1.size
        clear hs2 hus2 e2 hrow1 ho hb1 HUS HR HU' hcx hbe
        go_wp2
        go_roundw
        case rel => exact ⟨k + 1, by omega, by go_num, HB.setCell (by exact Nat.le_refl _) _, by rw [size_setCell]; exact HZ, _, by simp [HUL.out], H2.out.1, H2.out.2⟩
        case measure => simp [intOf]; omega
      · obtain rfl : k = n := by omega
        clear hlt hk hs
        simp only [Nat.sub_self, List.replicate_zero, List.append_nil] at hrow
        have ho := own_of_block (base := w.heap.size) hrow (Nat.le_refl _) (by rw [HUL.out]; unfold maxLen; omega)
        rw [HUL.out] at ho
        have HO : Hid _ := And.intro ho hus
        clear ho hrow hus
        go_wp2
        go_ret
        exact ⟨_, _, us, rfl, HO.out.1, HUL.out, HO.out.2, hbe⟩

theorem nest_slc24 {w : World} {base base2 : Nat} {ao : Option Addr} {n c : Nat} {us : List Value} {xs : List (List Int)} (h : w.ownsRow base 24 1 (.slice ao n c) n us) (hl : us.length = n) (hx : xs.length = n)
    (hi : ∀ i : Nat, ∀ u, us[i]? = some u → ∃ x, xs[i]? = some x ∧ w.ownsRow base2 3 1 u x.length (x.map (Value.int .i64))) : Slc (Slc EInt) w (.slice ao n c) xs := by
  obtain ⟨a', c', hv, hc, hn⟩ := own_shape h
  cases hv
  refine Slc.of_rd (own_rd h) hl hx hc hn (fun i u x h1 h2 => ?_)
  obtain ⟨x', h3, h4⟩ := hi i u h1
  rw [h2] at h3
  cases h3
  obtain ⟨a2, c2, rfl, -, -⟩ := own_shape h4
  exact own_slc3 h4

end Go.Proofs.Qxb6603051a
