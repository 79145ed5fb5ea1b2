/-
  Seat b6603244a: places of strings (zzC1IndexString 34), the copies: zzC1CloneStrings (10), zzC1CloneInts (31), zzC1CloneStrings2 (11).
-/
import Derived.Test.Qxb6603244aRows
import Derived.Test.Qxb6603244aM1
import Derived.Laws.CopyRow
import Derived.Deep.WholeRow
import Derived.BigQuiet
namespace Go.Proofs.Qxb6603244a
open Go.RowKit
set_option linter.unusedVariables false

/-- The first place of k in l. -/
def idx : List ByteArray → ByteArray → Option Nat
  | [], _ => none
  | x :: l, k => if k = x then some 0 else (idx l k).map (· + 1)

def oi : Option Nat → Int
  | none => -1
  | some i => (i : Int)

theorem idx_get : ∀ {l : List ByteArray} {k : ByteArray} {i : Nat}, idx l k = some i → l[i]? = some k
  | [], k, i, h => by simp [idx] at h
  | x :: l, k, i, h => by
    simp only [idx] at h
    split at h
    · rename_i e; cases h; simp [e]
    · obtain ⟨j, h1, h2⟩ := Option.map_eq_some_iff.1 h
      subst h2
      simpa using idx_get h1

theorem idx_lt {l : List ByteArray} {k : ByteArray} {i : Nat} (h : idx l k = some i) : i < l.length := (List.getElem?_eq_some_iff.1 (idx_get h)).1

theorem idx_none : ∀ {l : List ByteArray} {k : ByteArray}, idx l k = none ↔ k ∉ l
  | [], k => by simp [idx]
  | x :: l, k => by
    have := idx_none (l := l) (k := k)
    simp only [idx]
    split
    · rename_i e; simp [e]
    · rename_i e; simp [e, this]

theorem idx_at : ∀ {l : List ByteArray} {k : ByteArray} {i : Nat}, l[i]? = some k → (∀ j, j < i → l[j]? ≠ some k) → idx l k = some i
  | [], k, i, h, _ => by simp at h
  | x :: l, k, 0, h, _ => by simp at h; simp [idx, h]
  | x :: l, k, i + 1, h, hn => by
    simp only [List.getElem?_cons_succ] at h
    have hne : k ≠ x := by
      rintro rfl
      exact hn 0 (by omega) rfl
    simp [idx, hne, idx_at h (fun j hj => by have := hn (j + 1) (by omega); simpa using this)]

theorem idx_le : ∀ {l : List ByteArray} {k : ByteArray} {i j : Nat}, idx l k = some i → l[j]? = some k → i ≤ j
  | [], k, i, j, h, _ => by simp [idx] at h
  | x :: l, k, i, j, h, hj => by
    simp only [idx] at h
    split at h
    · cases h; omega
    · rename_i e
      obtain ⟨i', h1, h2⟩ := Option.map_eq_some_iff.1 h
      subst h2
      cases j with
      | zero => simp at hj; exact absurd hj.symm e
      | succ j =>
        have := idx_le h1 (by simpa using hj)
        omega

theorem toList_inj {a b : ByteArray} (h : a.toList = b.toList) : a = b := by
  rw [ByteArray.toList_eq, ByteArray.toList_eq] at h
  cases a; cases b
  simp only [ByteArray.mk.injEq]
  exact Array.toList_inj.1 h

theorem index_any (ao : Option Addr) (n c : Nat) (xs : List ByteArray) (v : ByteArray) (w : World) (hs : Strs w (.slice ao n c) xs) (hn : n ≤ 9223372036854775806) :
    Calls Try.prog 34 #[.slice ao n c, .string v] w fun e w' => e = .returned (.int .i64 (oi (idx xs v))) ∧ w = w' := by
  obtain ⟨hl, hcap, hnil⟩ := hs.len
  have HL : Hid (xs.length = n) := hl
  clear hl hnil hcap
  go_enter Try.func34, Try.ntmps34
  go_wp2
  go_loopw [8] (fun i wr => ∃ k : Nat, k ≤ n ∧ i = .int .i64 k ∧ wr = w ∧ ∀ j, j < k → xs[j]? ≠ some v) (fun i _ => n - (intOf i).toNat)
  case atStart => exact ⟨0, Nat.zero_le _, rfl, rfl, fun j hj => by omega⟩
  case round =>
    obtain ⟨k, hk, rfl, rfl, hno⟩ := hrel
    have HNO : Hid (∀ j, j < k → xs[j]? ≠ some v) := hno
    clear hno
    by_cases hlt : k < n
    · have hkx : k < xs.length := by have := HL.out; omega
      obtain ⟨b, off, u, hx, hc, hu⟩ := hs.at hkx
      unfold EStr at hu
      subst hu hx
      have HKX : Hid (xs[k]? = some xs[k]) := List.getElem?_eq_getElem hkx
      clear hs
      generalize xs[k] = y at hc HKX
      have i1 : (k : Int) < (n : Int) := by omega
      by_cases he : y = v
      · subst he
        go_wp2
        go_ret
        exact ⟨by rw [idx_at HKX.out HNO.out]; rfl, rfl⟩
      · have hb : (y.toList == v.toList) = false := by
          cases hh : (y.toList == v.toList) with
          | false => rfl
          | true => exact absurd (toList_inj (by simpa using hh)) he
        go_wp2
        go_roundw
        case rel => exact ⟨k + 1, by omega, by go_num, by first | rfl | trivial, fun j hj => by
          by_cases hjk : j < k
          · exact HNO.out j hjk
          · obtain rfl : j = k := by omega
            rw [HKX.out]; simp [he]⟩
        case measure => simp [intOf]; omega
    · have hnone : idx xs v = none := by
        rw [idx_none]
        intro hm
        obtain ⟨j, hj, e⟩ := List.getElem_of_mem hm
        exact HNO.out j (by have := HL.out; omega) (by rw [List.getElem?_eq_getElem hj, e])
      have HN : Hid _ := hnone
      clear hnone
      go_wp2
      go_ret
      exact ⟨by rw [HN.out]; rfl, rfl⟩

theorem Try.info9 : (Try.prog.info? 9).map (fun i => (i.zero, i.size, i.bytes)) = some (some (.string ByteArray.empty), 1, 16) := by kernel_rfl
theorem Try.info3 : (Try.prog.info? 3).map (fun i => (i.zero, i.size, i.bytes)) = some (some (.int .i64 0), 1, 8) := by kernel_rfl
theorem Try.info23 : (Try.prog.info? 23).map (fun i => (i.zero, i.size, i.bytes)) = some (some (Value.slice none 0 0), 1, 24) := by kernel_rfl
theorem Try.info42 : (Try.prog.info? 42).map (fun i => (i.zero, i.size, i.bytes)) = some (some (Value.slice none 0 0), 1, 24) := by kernel_rfl

/-- 'make([]T, n)' for elements of one cell. -/
theorem make_row (T e : TypeId) (z : Value) (bytes : Nat) (hT : Try.prog.underlying T = some (.slice e)) (hinfo : (Try.prog.info? e).map (fun i => (i.zero, i.size, i.bytes)) = some (some z, 1, bytes)) (hz : z.cells = #[z]) (hb : bytes ≤ 64) (w : World) (n : Nat) (hn : n ≤ 2097152) :
    (Instr.makeSlice T (.int .i64 (n : Int)) (.int .i64 (n : Int))).run Try.prog w = .ok (.slice (some ⟨w.heap.size, 0, none⟩) n n) (w.alloc (.cells (List.replicate n z).toArray e)) := by
  obtain ⟨i0, hi, hz0, hz1, hz2⟩ := info_parts hinfo
  have hm : bytes * n ≤ 64 * 2097152 := Nat.mul_le_mul hb hn
  have hm' : ((bytes : Int) * (n : Int)) ≤ 281474976710656 := by
    have : ((bytes * n : Nat) : Int) ≤ 281474976710656 := by omega
    simpa using this
  have := run_make (P := Try.prog) w T e i0 _ hT hi hz0 .i64 .i64 n n (by omega) (by omega) (by rw [hz2]; exact hm') (by omega)
  rw [this]
  simp only [hz1, Int.toNat_natCast, Nat.mul_one]
  have e : madeCells z.cells n = (List.replicate n z).toArray := by
    apply Array.toList_inj.1
    rw [hz, toList_madeCells_one]
  rw [e]

/-- 'copy' of a whole slice into a new row of its length. -/
theorem copy_row (T e : TypeId) (z : Value) (hT : Try.prog.underlying T = some (.slice e)) (hs : (Try.prog.info? e).map (·.size) = some 1) (w : World) (n c : Nat) (x : Addr) (X : List Value) (hX : X.length = n) (hrd : Rd w (some x) X) (h1 : ∀ v ∈ X, v.oneCell' = true) :
    (Builtin.copy_ #[T, T] 3 #[.slice (some ⟨w.heap.size, 0, none⟩) n n, .slice (some x) n c]).run Try.prog (w.alloc (.cells (List.replicate n z).toArray e)) = .ok (goInt n) (w.alloc (.cells X.toArray e)) := by
  have B : Below w.heap.size w (w.alloc (.cells (List.replicate n z).toArray e)) := (Below.refl _ _).alloc (Nat.le_refl _) _
  have hrd' := hrd.below B
  have := run_copy_row (P := Try.prog) (w.alloc (.cells (List.replicate n z).toArray e)) T T 3 e w.heap.size 0 n n x n c (List.replicate n z).toArray e X hT hs (heap_alloc_last w _) (by rw [hX]; exact (Nat.min_self n).symm) (fun j v hv => by
    obtain ⟨b, off, h1, h2⟩ := hrd' j v hv
    cases h1
    rw [Addr.add_lit]; exact h2) (by simp [hX]) h1
  rw [this]
  simp only [List.take_zero, List.nil_append, Nat.zero_add]
  rw [World.setRow_alloc_new, List.drop_of_length_le (by simp [hX]), List.append_nil, hX]

theorem strs_one (xs : List ByteArray) : ∀ v ∈ xs.map Value.string, v.oneCell' = true := by
  intro v hv
  obtain ⟨_, _, rfl⟩ := List.mem_map.1 hv
  rfl

theorem strs_rd {w : World} {ao : Option Addr} {n c : Nat} {xs : List ByteArray} (h : Strs w (.slice ao n c) xs) : Rd w ao (xs.map Value.string) := by
  intro i u hu
  have hi : i < xs.length := by have := (List.getElem?_eq_some_iff.1 hu).1; simpa using this
  obtain ⟨b, off, u', h1, h2, h3⟩ := h.at hi
  unfold EStr at h3
  have : u = .string xs[i] := by simp [hi] at hu; exact hu.symm
  subst this
  exact ⟨b, off, h1, by rw [h2, h3]⟩

theorem clone10_any (ao : Option Addr) (n cap : Nat) (xs : List ByteArray) (w : World) (hs : Strs w (.slice ao n cap) xs) (hm : n ≤ 1048576) :
    Calls Try.prog 10 #[.slice ao n cap] w fun e w' => ∃ ao' c', e = .returned (.slice ao' n c') ∧ w'.ownsRow w.heap.size 9 1 (.slice ao' n c') n (xs.map Value.string) ∧ Below w.heap.size w w' := by
  have kn := fun w a n c n' c' => Lib.run_eql_slice_nil (P := Try.prog) w 23 9 a n c n' c' Try.underlying23
  obtain ⟨hl, hcap, hnil⟩ := hs.len
  have HL : Hid (xs.length = n) := hl
  clear hl
  cases ao with
  | none =>
    obtain ⟨rfl, rfl⟩ := hnil rfl
    obtain rfl : xs = [] := List.eq_nil_of_length_eq_zero HL.out
    clear HL
    go_enter Try.func10, Try.ntmps10
    go_wp2
    go_ret
    exact ⟨none, 0, rfl, World.ownsRow_nil _ _ _ _, Below.refl _ _⟩
  | some x =>
    obtain ⟨M, hM⟩ : ∃ M : Array Value, M = (List.replicate n (Value.string ByteArray.empty)).toArray := ⟨_, rfl⟩
    have hmk : ∀ w, (Instr.makeSlice 23 (.int .i64 (n : Int)) (.int .i64 (n : Int))).run Try.prog w = .ok (.slice (some ⟨w.heap.size, 0, none⟩) n n) (w.alloc (.cells M 9)) := fun w => by rw [hM]; exact make_row 23 9 (Value.string ByteArray.empty) 16 Try.underlying23 Try.info9 rfl (by omega) w n (by omega)
    have hcp := copy_row 23 9 (Value.string ByteArray.empty) Try.underlying23 (by kernel_rfl) w n cap x (xs.map Value.string) (by simpa using HL.out) (strs_rd hs) (strs_one xs)
    have hXl : (xs.map Value.string).length = n := by simp [HL.out]
    clear hnil
    obtain ⟨X, hX⟩ : ∃ X : List Value, X = xs.map Value.string := ⟨_, rfl⟩
    rw [← hX] at hXl hcp ⊢
    rw [← hM] at hcp
    have HXl : Hid _ := hXl
    clear hX hXl hM
    go_enter Try.func10, Try.ntmps10
    go_wp2
    go_ret
    refine ⟨_, _, rfl, ?_, (Below.refl _ _).alloc (Nat.le_refl _) _⟩
    have := own_of_block (w := w.alloc (.cells X.toArray 9)) (base := w.heap.size) (e := 9) (g := w.heap.size) (xs := X) (heap_alloc_last w _) (Nat.le_refl _) (by rw [HXl.out]; unfold maxLen; omega)
    rw [HXl.out] at this
    exact this

theorem ints_one (xs : List Int) : ∀ v ∈ xs.map (Value.int .i64), v.oneCell' = true := ints_oneCell _ _

theorem ints_rd {w : World} {ao : Option Addr} {n c : Nat} {xs : List Int} (h : Ints w (.slice ao n c) xs) : Rd w ao (xs.map (Value.int .i64)) := by
  intro i u hu
  have hi : i < xs.length := by have := (List.getElem?_eq_some_iff.1 hu).1; simpa using this
  obtain ⟨b, off, u', h1, h2, h3⟩ := h.at hi
  unfold EInt at h3
  have : u = .int .i64 xs[i] := by simp [hi] at hu; exact hu.symm
  subst this
  exact ⟨b, off, h1, by rw [h2, h3]⟩

theorem clone31_any (ao : Option Addr) (n cap : Nat) (xs : List Int) (w : World) (hs : Ints w (.slice ao n cap) xs) (hm : n ≤ 1048576) :
    Calls Try.prog 31 #[.slice ao n cap] w fun e w' => ∃ ao' c', e = .returned (.slice ao' n c') ∧ w'.ownsRow w.heap.size 3 1 (.slice ao' n c') n (xs.map (Value.int .i64)) ∧ Below w.heap.size w w' := by
  have kn := fun w a n c n' c' => Lib.run_eql_slice_nil (P := Try.prog) w 42 3 a n c n' c' Try.underlying42
  obtain ⟨hl, hcap, hnil⟩ := hs.len
  have HL : Hid (xs.length = n) := hl
  clear hl
  cases ao with
  | none =>
    obtain ⟨rfl, rfl⟩ := hnil rfl
    obtain rfl : xs = [] := List.eq_nil_of_length_eq_zero HL.out
    clear HL
    go_enter Try.func31, Try.ntmps31
    go_wp2
    go_ret
    exact ⟨none, 0, rfl, World.ownsRow_nil _ _ _ _, Below.refl _ _⟩
  | some x =>
    obtain ⟨M, hM⟩ : ∃ M : Array Value, M = (List.replicate n (Value.int .i64 0)).toArray := ⟨_, rfl⟩
    have hmk : ∀ w, (Instr.makeSlice 42 (.int .i64 (n : Int)) (.int .i64 (n : Int))).run Try.prog w = .ok (.slice (some ⟨w.heap.size, 0, none⟩) n n) (w.alloc (.cells M 3)) := fun w => by rw [hM]; exact make_row 42 3 (Value.int .i64 0) 8 Try.underlying42 Try.info3 rfl (by omega) w n (by omega)
    have hcp := copy_row 42 3 (Value.int .i64 0) Try.underlying42 (by kernel_rfl) w n cap x (xs.map (Value.int .i64)) (by simpa using HL.out) (ints_rd hs) (ints_one xs)
    have hXl : (xs.map (Value.int .i64)).length = n := by simp [HL.out]
    clear hnil
    obtain ⟨X, hX⟩ : ∃ X : List Value, X = xs.map (Value.int .i64) := ⟨_, rfl⟩
    rw [← hX] at hXl hcp ⊢
    rw [← hM] at hcp
    have HXl : Hid _ := hXl
    clear hX hXl hM
    go_enter Try.func31, Try.ntmps31
    go_wp2
    go_ret
    refine ⟨_, _, rfl, ?_, (Below.refl _ _).alloc (Nat.le_refl _) _⟩
    have := own_of_block (w := w.alloc (.cells X.toArray 3)) (base := w.heap.size) (e := 3) (g := w.heap.size) (xs := X) (heap_alloc_last w _) (Nat.le_refl _) (by rw [HXl.out]; unfold maxLen; omega)
    rw [HXl.out] at this
    exact this

theorem clone11_any (ao : Option Addr) (n cap : Nat) (xs : List (List ByteArray)) (w : World) (hs : Slc (Slc EStr) w (.slice ao n cap) xs) (hm : n ≤ 1048576) (hmi : ∀ x ∈ xs, x.length ≤ 1048576) :
    Calls Try.prog 11 #[.slice ao n cap] w fun e w' => ∃ ao' c' us, e = .returned (.slice ao' n c') ∧ w'.ownsRow w.heap.size 23 1 (.slice ao' n c') n us ∧ us.length = n ∧
      (∀ i : Nat, ∀ u, us[i]? = some u → ∃ x, xs[i]? = some x ∧ w'.ownsRow (w.heap.size + 1) 9 1 u x.length (x.map Value.string)) ∧ Below w.heap.size w w' := by
  have kn := fun w a n c n' c' => Lib.run_eql_slice_nil (P := Try.prog) w 24 23 a n c n' c' Try.underlying24
  obtain ⟨hl, hcap, hnil⟩ := hs.len
  have HL : Hid (xs.length = n) := hl
  clear hl
  cases ao with
  | none =>
    obtain ⟨rfl, rfl⟩ := hnil rfl
    obtain rfl : xs = [] := List.eq_nil_of_length_eq_zero HL.out
    clear HL
    go_enter Try.func11, Try.ntmps11
    go_wp2
    go_ret
    exact ⟨none, 0, rfl, [], World.ownsRow_nil _ _ _ _, rfl, (fun i u h => by simp at h), Below.refl _ _⟩
  | some x =>
    have hmk := fun w => make_row 24 23 (Value.slice none 0 0) 24 Try.underlying24 Try.info23 rfl (by omega) w n (by omega)
    clear hnil
    go_enter Try.func11, Try.ntmps11
    go_wp2
    go_loopw [12] (fun i wr => ∃ k : Nat, k ≤ n ∧ i = .int .i64 k ∧ Below w.heap.size w wr ∧ w.heap.size + 1 ≤ wr.heap.size ∧ ∃ us : List Value, us.length = k ∧
      wr.heap[w.heap.size]? = some (.cells (us ++ List.replicate (n - k) (Value.slice none 0 0)).toArray 23 (0,0)) ∧
      (∀ i : Nat, ∀ u, us[i]? = some u → ∃ x, xs[i]? = some x ∧ wr.ownsRow (w.heap.size + 1) 9 1 u x.length (x.map Value.string)))  (fun i _ => n - (intOf i).toNat)
    case atStart => exact ⟨0, Nat.zero_le _, rfl, (Below.refl _ _).alloc (Nat.le_refl _) _, by simp, [], rfl, by rw [heap_alloc_new]; simp, fun i u h => by simp at h⟩
    case round =>
      obtain ⟨k, hk, rfl, hbe, hsz, us, hul, hrow, hus⟩ := hrel
      have HUL : Hid (us.length = k) := hul
      clear hul
      by_cases hlt : k < n
      · have hkx : k < xs.length := by have := HL.out; omega
        obtain ⟨b, off, u, hx, hcx0, hu⟩ := hs.at hkx
        simp only [Option.some.injEq] at hx
        subst hx
        obtain ⟨ai, ci, rfl, -, -⟩ := hu.shape
        have hcx := cell_later hbe hcx0
        have hu' := Slc.below hu hbe (fun _ _ h => h)
        have hmk' := hmi _ (List.getElem_mem hkx)
        clear hs hcx0 hu hmi
        have HR : Hid _ := hrow
        have HUS : Hid _ := hus
        have HU' : Hid _ := hu'
        clear hrow hus hu'
        go_wp2_with fail
        refine (clone10_any _ _ _ _ _ HU'.out hmk').mono ?_
        rintro e w1 ⟨ao1, c1, rfl, ho, hb1⟩
        have hrow1 : w1.heap[w.heap.size]? = some (.cells (us ++ List.replicate (n - k) (Value.slice none 0 0)).toArray 23 (0,0)) := by rw [hb1.block _ hsz]; exact HR.out
        have hcy : w1.cell? ⟨w.heap.size, k, none⟩ = some (Value.slice none 0 0) := by
          rw [cell_of_block hrow1, List.getElem?_append_right (by rw [HUL.out]; exact Nat.le_refl _), HUL.out, Nat.sub_self, show n - k = (n - (k + 1)) + 1 by omega, List.replicate_succ]
          rfl
        have hfy : w1.frozen? ⟨w.heap.size, k, none⟩ = false := free_of_block hrow1
        have hs2 := block_setCell (k := k) hrow1 (.slice ao1 xs[k].length c1)
        have e2 : (us ++ List.replicate (n - k) (Value.slice none 0 0)).set k (.slice ao1 xs[k].length c1) = (us ++ [.slice ao1 xs[k].length c1]) ++ List.replicate (n - (k + 1)) (Value.slice none 0 0) := by
          rw [List.set_append_right _ _ (by rw [HUL.out]; exact Nat.le_refl _), HUL.out, Nat.sub_self, show n - k = (n - (k + 1)) + 1 by omega, List.replicate_succ]
          simp
        rw [e2] at hs2
        have hus2 : ∀ i : Nat, ∀ u, (us ++ [Value.slice ao1 xs[k].length c1])[i]? = some u → ∃ x, xs[i]? = some x ∧ (w1.setCell ⟨w.heap.size, k, none⟩ (.slice ao1 xs[k].length c1)).ownsRow (w.heap.size + 1) 9 1 u x.length (x.map Value.string) := by
          intro i u hiu
          by_cases hik : i < us.length
          · rw [List.getElem?_append_left hik] at hiu
            obtain ⟨x, h1, h2⟩ := HUS.out i u hiu
            exact ⟨x, h1, ownsRow_setCell_below (own_below h2 hb1) (by simp) _⟩
          · rw [List.getElem?_append_right (by omega)] at hiu
            have : i - us.length = 0 := by
              have := (List.getElem?_eq_some_iff.1 hiu).1
              simp at this; omega
            rw [this] at hiu
            simp only [List.getElem?_cons_zero, Option.some.injEq] at hiu
            subst hiu
            have hi : i = k := by have := HUL.out; omega
            subst hi
            exact ⟨xs[i], List.getElem?_eq_getElem hkx, ownsRow_setCell_below (own_mono ho (by omega)) (by simp) _⟩
        have H2 : Hid _ := And.intro hs2 hus2
        have HB : Below w.heap.size w w1 := hbe.trans (hb1.mono hbe.size)
        have HZ : w.heap.size + 1 ≤ w1.heap.size := Nat.le_trans hsz hb1.size
        clear hs2 hus2 e2 hrow1 ho hb1 HUS HR HU' hcx hbe
        go_wp2
        go_roundw
        case rel => exact ⟨k + 1, by omega, by go_num, HB.setCell (by exact Nat.le_refl _) _, by rw [size_setCell]; exact HZ, _, by simp [HUL.out], H2.out.1, H2.out.2⟩
        case measure => simp [intOf]; omega
      · obtain rfl : k = n := by omega
        clear hlt hk hs
        simp only [Nat.sub_self, List.replicate_zero, List.append_nil] at hrow
        have ho := own_of_block (base := w.heap.size) hrow (Nat.le_refl _) (by rw [HUL.out]; unfold maxLen; omega)
        rw [HUL.out] at ho
        have HO : Hid _ := And.intro ho hus
        clear ho hrow hus
        go_wp2
        go_ret
        exact ⟨_, _, us, rfl, HO.out.1, HUL.out, HO.out.2, hbe⟩

end Go.Proofs.Qxb6603244a
