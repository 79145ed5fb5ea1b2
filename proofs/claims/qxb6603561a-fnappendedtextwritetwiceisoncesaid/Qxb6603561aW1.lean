/-
  The walks of the callees: zzBytes (9), b1Clone (10), ZZappendedTextWrite (11), (*appendedText).Write (13).
-/
import Derived.Test.Qxb6603561aRows
import Derived.Test.Qxb6603561aBase
namespace Go.Proofs.Qxb6603561a
open Go.RowKit

theorem Try.info5 : (Try.prog.info? 5).map (fun i => (i.zero, i.size, i.bytes)) = some (some (.int .u8 0), 1, 1) := by kernel_rfl

/-- 9: the bound on total length: it computes a bool of the three lengths. -/
def okLen (a b c : Nat) : Bool := decide (a ≤ 1048576 ∧ a + b ≤ 1048576 ∧ a + b + c ≤ 1048576)

set_option maxHeartbeats 400000 in
theorem bytes_any (a0 a1 a2 : Option Addr) (l0 c0 l1 c1 l2 c2 : Nat) (w : World) (h0 : l0 ≤ 9223372036854775807) (h1 : l1 ≤ 9223372036854775807) (h2 : l2 ≤ 9223372036854775807) :
    Calls Try.prog 9 #[.slice a0 l0 c0, .slice a1 l1 c1, .slice a2 l2 c2] w fun e w' => e = .returned (.bool (okLen l0 l1 l2)) ∧ w = w' := by
  go_enter Try.func9, Try.ntmps9
  go_wp2
  all_goals
    go_ret
    refine ⟨?_, rfl⟩
    simp [okLen]
    try omega

theorem make_row (w : World) (n : Nat) (hn : n ≤ 2097152) :
    (Instr.makeSlice 29 (.int .i64 (n : Int)) (.int .i64 (n : Int))).run Try.prog w = .ok (.slice (some ⟨w.heap.size, 0, none⟩) n n) (w.alloc (.cells (List.replicate n (Value.int .u8 0)).toArray 5)) := by
  obtain ⟨i0, hi, hz0, hz1, hz2⟩ := info_parts Try.info5
  have := run_make (P := Try.prog) w 29 5 i0 _ Try.underlying29 hi hz0 .i64 .i64 n n (by omega) (by omega) (by rw [hz2]; omega) (by omega)
  rw [this]
  simp only [hz1, Int.toNat_natCast, Nat.mul_one]
  have e : madeCells (Value.int .u8 0).cells n = (List.replicate n (Value.int .u8 0)).toArray := by
    apply Array.toList_inj.1
    rw [show (Value.int IntKind.u8 0).cells = #[.int .u8 0] from rfl, toList_madeCells_one]
  rw [e]

/-- 10: a fresh copy. -/
theorem clone_any (ao : Option Addr) (len cap : Nat) (zs : List Int) (w : World) (hl : zs.length = len) (hm : len ≤ 1048576) (hn : ao = none → len = 0)
    (hc : Rd w ao (zs.map (Value.int .u8))) :
    Calls Try.prog 10 #[.slice ao len cap] w fun e w' => ∃ ao' c', e = .returned (.slice ao' len c') ∧ w'.ownsRow w.heap.size 5 1 (.slice ao' len c') len (zs.map (Value.int .u8)) ∧ Below w.heap.size w w' := by
  have kn := fun w a n c n' c' => Lib.run_eql_slice_nil (P := Try.prog) w 29 5 a n c n' c' Try.underlying29
  cases ao with
  | none =>
    obtain rfl := hn rfl
    obtain rfl : zs = [] := List.eq_nil_of_length_eq_zero hl
    go_enter Try.func10, Try.ntmps10
    go_wp2
    go_ret
    exact ⟨none, 0, rfl, World.ownsRow_nil _ _ _ _, Below.refl _ _⟩
  | some x =>
    have hmk := fun w => make_row w len (by omega)
    go_enter Try.func10, Try.ntmps10
    go_wp2
    go_loopw [4] (fun i wr => ∃ k : Nat, k ≤ len ∧ i = .int .i64 k ∧ Below w.heap.size w wr ∧
      wr.heap[w.heap.size]? = some (.cells (((zs.map (Value.int .u8)).take k) ++ List.replicate ((zs.map (Value.int .u8)).length - k) (Value.int .u8 0)).toArray 5 (0,0)))  (fun i _ => len - (intOf i).toNat)
    case atStart => exact ⟨0, Nat.zero_le _, rfl, (Below.refl _ _).alloc (Nat.le_refl _) _, by rw [heap_alloc_new]; simp [hl]⟩
    case round =>
      obtain ⟨k, hk, rfl, hbe, hrow⟩ := hrel
      by_cases hlt : k < len
      · obtain ⟨b, off, hx, hcx0⟩ := hc.atInt (i := k) (by omega)
        simp only [Option.some.injEq] at hx
        subst hx
        have hcx := cell_later hbe hcx0
        have hzk : k < zs.length := by omega
        have hcy : wr.cell? ⟨w.heap.size, k, none⟩ = some (.int .u8 0) := by rw [cell_of_block hrow]; exact fill_get (by simpa using hzk)
        have hfy : wr.frozen? ⟨w.heap.size, k, none⟩ = false := free_of_block hrow
        have hs := block_setCell (k := k) hrow (.int .u8 zs[k])
        rw [fill_set _ _ _ k (by simp [hzk])] at hs
        clear hc hrow hcx0
        have HS : Hid _ := hs
        clear hs
        go_wp2
        go_roundw
        case rel => exact ⟨k + 1, by omega, by go_num, hbe.setCell (by exact Nat.le_refl _) _, HS.out⟩
        case measure => simp [intOf]; omega
      · go_wp2
        go_ret
        obtain rfl : k = len := by omega
        have e : (List.take k (zs.map (Value.int .u8)) ++ List.replicate ((zs.map (Value.int .u8)).length - k) (Value.int .u8 0)) = zs.map (Value.int .u8) := by
          rw [List.take_of_length_le (by simp; omega)]; simp [hl]
        rw [e] at hrow
        have := own_of_block (base := w.heap.size) hrow (Nat.le_refl _) (by simp [maxLen]; omega)
        simp only [List.length_map, hl] at this
        exact ⟨_, _, rfl, this, hbe⟩

theorem Try.underlying41' : Try.prog.underlying 41 = some (.slice 5) := by kernel_rfl

/-- 13: '*t = append( *t, p...)': the slice in the box grows by what p holds. -/
theorem write_any (g : Nat) (tv : Value) (base n0 : Nat) (xs0 : List Value) (ao : Option Addr) (n1 c1 : Nat) (zs1 : List Int) (w : World)
    (hg : w.heap[g]? = some (.cells #[tv] 41 (0, 0))) (hown : w.ownsRow base 5 1 tv n0 xs0) (hl : zs1.length = n1) (hn : ao = none → n1 = 0 ∧ c1 = 0) (hc : Rd w ao (zs1.map (Value.int .u8)))
    (hb : base ≤ w.heap.size) (hm : n0 + n1 ≤ 4194304) :
    Calls Try.prog 13 #[.pointer (some ⟨g, 0, none⟩), .slice ao n1 c1] w fun e w' => ∃ tv', e = .returned (.tuple #[.int .i64 n1, .nilIface]) ∧ w'.ownsRow base 5 1 tv' (n0 + n1) (xs0 ++ zs1.map (Value.int .u8)) ∧
      w'.heap[g]? = some (.cells #[tv'] 41 (0, 0)) ∧ w.heap.size ≤ w'.heap.size ∧ w'.os = w.os ∧ w'.tape = w.tape ∧ w'.output = w.output ∧ (∀ k, k < w.heap.size → k ≠ g → some k ≠ tv.ownBlock → w'.heap[k]? = w.heap[k]?) := by
  have cg := cell_of_one hg
  have fg := free_of_one hg
  obtain ⟨i0, hi, hz0, hz1, hz2⟩ := info_parts Try.info5
  go_enter Try.func13, Try.ntmps13
  go_wp2_with (at_builtin; refine wpList_append_view _ rfl _ _ 41 29 rfl base 5 i0 (.int .u8 0) 1 Try.underlying41' Try.underlying29 hi hz0 hz1 hz2 rfl tv n0 xs0 rfl hown ao n1 c1 (zs1.map (Value.int .u8)) rfl (by simpa using hl) hn hc (ints_oneCell _ _) (by unfold maxLen; omega) (by omega) hb ?_)
  intro tv' w1 hown' hgrow
  have hne := own_ne hown hg (by decide)
  have hg1 : w1.heap[g]? = some (.cells #[tv] 41 (0, 0)) := by rw [hgrow.block g (lt_of_block hg) hne]; exact hg
  have cg1 := cell_of_one hg1
  have fg1 := free_of_one hg1
  obtain ⟨a', c', rfl, hc', -⟩ := own_shape hown'
  have hne' := own_ne hown' hg1 (by decide)
  have R1 := ownsRow_setCell_other hown' (a := ⟨g, 0, none⟩) (fun h => hne' h.symm) (.slice a' (n0 + n1) c')
  have R2 := one_setCell (u := .slice a' (n0 + n1) c') hg1
  have R3 : ∀ k, k < w.heap.size → k ≠ g → some k ≠ tv.ownBlock → (w1.setCell ⟨g, 0, none⟩ (.slice a' (n0 + n1) c')).heap[k]? = w.heap[k]? := by
    intro k h1 h2 h3
    rw [Below.heap_setCell _ _ _ _ (by simpa using h2)]
    exact hgrow.block k h1 h3
  have R4 := hgrow.size
  have R5 := hgrow.os
  have R6 := hgrow.tape
  have R7 := hgrow.output
  clear hgrow hg hown hc hg1 hown' hn cg fg
  have H : Hid _ := And.intro R1 (And.intro R2 (And.intro R3 (And.intro R4 (And.intro R5 (And.intro R6 R7)))))
  clear R1 R2 R3 R4 R5 R6 R7
  go_wp2
  go_ret2
  obtain ⟨R1, R2, R3, R4, R5, R6, R7⟩ := H.out
  exact ⟨_, rfl, R1, R2, by rw [size_setCell]; exact R4, R5, R6, R7, R3⟩

/-- 11: 'a := appendedText(t); n, err := a.Write(p); return []byte(a), n, err'. -/
theorem zzwrite_any (tv : Value) (base n0 : Nat) (xs0 : List Value) (ao : Option Addr) (n1 c1 : Nat) (zs1 : List Int) (w : World)
    (hown : w.ownsRow base 5 1 tv n0 xs0) (hl : zs1.length = n1) (hn : ao = none → n1 = 0 ∧ c1 = 0) (hc : Rd w ao (zs1.map (Value.int .u8)))
    (hb : base ≤ w.heap.size) (hm : n0 + n1 ≤ 4194304) :
    Calls Try.prog 11 #[tv, .slice ao n1 c1] w fun e w' => ∃ tv', e = .returned (.tuple #[tv', .int .i64 n1, .nilIface]) ∧ w'.ownsRow base 5 1 tv' (n0 + n1) (xs0 ++ zs1.map (Value.int .u8)) ∧ w.grownBy w' tv.ownBlock := by
  obtain ⟨a0, c0, rfl, hc0, -⟩ := own_shape hown
  have e1 : ∀ o, (w.alloc o).heap[w.heap.size]? = some o := fun o => heap_alloc_new w o
  have hw1 := fun o => hown.alloc o
  have hc1 := fun o => hc.below ((Below.refl w.heap.size w).alloc (Nat.le_refl _) o)
  go_enter Try.func11, Try.ntmps11
  go_wp2_with fail
  refine (write_any w.heap.size (.slice a0 n0 c0) base n0 xs0 ao n1 c1 zs1 (w.alloc (.cells #[.slice a0 n0 c0] 41)) (e1 _) (hw1 _) hl hn (hc1 _) (by simp; omega) hm).mono ?_
  rintro e w2 ⟨tv', rfl, R1, R2, R4, R5, R6, R7, R3⟩
  have cg := cell_of_one R2
  obtain ⟨a', c', rfl, hc', -⟩ := own_shape R1
  have G : w.grownBy w2 (Value.slice a0 n0 c0).ownBlock := by
    refine ⟨R5, R6, R7, ?_, ?_⟩
    · simp at R4; omega
    · intro k hk hne
      rw [R3 k (by simp; omega) (by omega) hne]
      exact Below.heap_alloc _ _ _ hk
  clear R2 R3 R4 R5 R6 R7 hw1 hc1 hc hown hn e1
  have H : Hid _ := And.intro R1 G
  clear R1 G
  go_wp2
  go_ret3
  exact ⟨_, rfl, H.out.1, H.out.2⟩
end Go.Proofs.Qxb6603561a
