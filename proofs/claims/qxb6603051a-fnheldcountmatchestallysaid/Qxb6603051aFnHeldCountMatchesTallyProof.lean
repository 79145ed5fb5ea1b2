/-
  The proof of 'Rows.FnHeldCountMatchesTallySaid'. The frame after the guide's shell; the walk: Qxb6603051aZ2.
-/
import Derived.Test.Qxb6603051aRows
import Derived.Test.Qxb6603051aZ2
import Derived.Test.Qxb6603051aRd2
import Derived.WalkKit
import Derived.ProofKit
import Derived.OpenShut
import Derived.ShutString
import Derived.ChangeOld
import Derived.Below
namespace Go.Proofs.Qxb6603051a.fnHeldCountMatchesTally
open Go.ChangeShapes Go.WideShapes Go.ChangeAt Go.RowKit
open Go.ChangeMaps (open_string shut_string)
set_option linter.unusedVariables false

theorem own : ownKnob Try.prog.godebug = none := by kernel_rfl
theorem laidOut : laidOutB Try.prog = true := by kernel_rfl

set_option maxRecDepth 100000 in
theorem lifted (os : Os) (started : os.Started) (H : Type) (enc : TypeId × Value → H) :
    ReturnsInHanded {} Try.checked os 7 .any (Rows.fnHeldCountMatchesTallySpec.pre6 enc Try.prog Try.f7 Rows.fnHeldCountMatchesTallyRow.domain false) (Rows.fnHeldCountMatchesTallySpec.post enc Try.prog Try.f7 false true false false) := by
  refine returnsInHanded_of_change (C := Try.checked) own started (by kernel_rfl) Try.func7
    (ChangeSpec.witness6 (enc := enc) (C := Try.checked) false ⟨#[], #[.slice none 0 0, .slice none 0 0, .slice none 0 0, .slice none 0 0, .slice none 0 0, .slice none 0 0, .slice none 0 0, .int .i64 0], []⟩ 8 (by kernel_rfl) (by kernel_rfl) (by kernel_rfl) (by kernel_rfl)) ?_
  intro W base args ds gs before hval0 hW hcnd _
  have hval : ∀ (j : Nat) t v, Try.f7.params[j]? = some t → args[j]? = some v → Value.okWide Try.prog W .any base t v := hval0
  have hW' := hW
  obtain ⟨p, q, hA0, hV, rfl, hfz, hnd⟩ := hW
  have hA : DataW.TrodAll enc Try.prog W 0 (fun _ => true) true Try.f7.params.toList args.toList ds p := hA0
  rw [Try.params7] at hA hval
  obtain ⟨v0, vs0, d0, ds0, p0, q0, hargs, rfl, rfl, h0, r0⟩ := trodAll_cons hA
  obtain ⟨v1, vs1, d1, ds1, p1, q1, rfl, rfl, rfl, h1, r1⟩ := trodAll_cons r0
  obtain ⟨v2, vs2, d2, ds2, p2, q2, rfl, rfl, rfl, h2, r2⟩ := trodAll_cons r1
  obtain ⟨v3, vs3, d3, ds3, p3, q3, rfl, rfl, rfl, h3, r3⟩ := trodAll_cons r2
  obtain ⟨v4, vs4, d4, ds4, p4, q4, rfl, rfl, rfl, h4, r4⟩ := trodAll_cons r3
  obtain ⟨v5, vs5, d5, ds5, p5, q5, rfl, rfl, rfl, h5, r5⟩ := trodAll_cons r4
  obtain ⟨v6, vs6, d6, ds6, p6, q6, rfl, rfl, rfl, h6, r6⟩ := trodAll_cons r5
  obtain ⟨v7, vs7, d7, ds7, p7, q7, rfl, rfl, rfl, h7, r7⟩ := trodAll_cons r6
  obtain ⟨rfl, rfl, rfl⟩ := trodAll_nil r7
  obtain rfl : args = #[v0, v1, v2, v3, v4, v5, v6, v7] := by cases args; simp_all
  obtain ⟨rfl, rfl⟩ := trodVars_none hV
  obtain ⟨a0, n0, c0, rfl⟩ := okWide_slice Try.underlying22 (hval 0 22 v0 rfl rfl)
  have k0 := h0
  have lt0 : ∀ x ∈ p0, x.block < W.heap.size := by obtain ⟨m, hm⟩ := k0; exact DataW.trod_lt m _ _ _ hm
  obtain ⟨a1, n1, c1, rfl⟩ := okWide_slice Try.underlying24 (hval 1 24 v1 rfl rfl)
  have k1 := h1
  have lt1 : ∀ x ∈ p1, x.block < W.heap.size := by obtain ⟨m, hm⟩ := k1; exact DataW.trod_lt m _ _ _ hm
  obtain ⟨a2, n2, c2, rfl⟩ := okWide_slice Try.underlying24 (hval 2 24 v2 rfl rfl)
  have k2 := h2
  have lt2 : ∀ x ∈ p2, x.block < W.heap.size := by obtain ⟨m, hm⟩ := k2; exact DataW.trod_lt m _ _ _ hm
  obtain ⟨a3, n3, c3, rfl⟩ := okWide_slice Try.underlying43 (hval 3 43 v3 rfl rfl)
  have k3 := h3
  have lt3 : ∀ x ∈ p3, x.block < W.heap.size := by obtain ⟨m, hm⟩ := k3; exact DataW.trod_lt m _ _ _ hm
  obtain ⟨a4, n4, c4, rfl⟩ := okWide_slice Try.underlying52 (hval 4 52 v4 rfl rfl)
  have k4 := h4
  have lt4 : ∀ x ∈ p4, x.block < W.heap.size := by obtain ⟨m, hm⟩ := k4; exact DataW.trod_lt m _ _ _ hm
  obtain ⟨a5, n5, c5, rfl⟩ := okWide_slice Try.underlying22 (hval 5 22 v5 rfl rfl)
  have k5 := h5
  have lt5 : ∀ x ∈ p5, x.block < W.heap.size := by obtain ⟨m, hm⟩ := k5; exact DataW.trod_lt m _ _ _ hm
  obtain ⟨a6, n6, c6, rfl⟩ := okWide_slice Try.underlying43 (hval 6 43 v6 rfl rfl)
  have k6 := h6
  have lt6 : ∀ x ∈ p6, x.block < W.heap.size := by obtain ⟨m, hm⟩ := k6; exact DataW.trod_lt m _ _ _ hm
  obtain ⟨z7, rfl⟩ := okWide_int Try.underlying3 (hval 7 3 v7 rfl rfl)
  have k7 := h7
  have lt7 : ∀ x ∈ p7, x.block < W.heap.size := by obtain ⟨m, hm⟩ := k7; exact DataW.trod_lt m _ _ _ hm
  clear hA0 hval0
  obtain ⟨ids, s0, q0, m0⟩ : ∃ xs, Strs W (.slice a0 n0 c0) xs ∧ okS xs ∧ n0 ≤ 9223372036854775807 := by
    obtain ⟨m, hm⟩ := h0
    obtain ⟨xs, h1, h2, h3⟩ := strs_of_trod Try.underlying22 (by kernel_rfl) Try.underlying9 m _ _ hm
    exact ⟨xs, h1, h2, by rw [← h1.len.1]; exact h3⟩
  obtain ⟨rp, s1, q1, m1⟩ : ∃ xs, Ints W (.slice a1 n1 c1) xs ∧ (∀ z ∈ xs, inR z) ∧ n1 ≤ 9223372036854775807 := by
    obtain ⟨m, hm⟩ := h1
    obtain ⟨xs, h1, h2, h3⟩ := intss_of_trod Try.underlying24 (by kernel_rfl) Try.underlying3 m _ _ hm
    exact ⟨xs, h1, h2, by rw [← h1.len.1]; exact h3⟩
  obtain ⟨ld, s2, q2, m2⟩ : ∃ xs, Ints W (.slice a2 n2 c2) xs ∧ (∀ z ∈ xs, inR z) ∧ n2 ≤ 9223372036854775807 := by
    obtain ⟨m, hm⟩ := h2
    obtain ⟨xs, h1, h2, h3⟩ := intss_of_trod Try.underlying24 (by kernel_rfl) Try.underlying3 m _ _ hm
    exact ⟨xs, h1, h2, by rw [← h1.len.1]; exact h3⟩
  obtain ⟨fk, s3, q3, m3⟩ : ∃ xs, Nest W (.slice a3 n3 c3) xs ∧ okN xs ∧ n3 ≤ 9223372036854775807 := by
    obtain ⟨m, hm⟩ := h3
    obtain ⟨xs, h1, h2, h3⟩ := slc_of_trod Try.underlying43 (by kernel_rfl) (strs_of_trod Try.underlying22 (by kernel_rfl) Try.underlying9) hm
    exact ⟨xs, h1, h2, by rw [← h1.len.1]; exact h3⟩
  obtain ⟨fc, s4, q4, m4⟩ : ∃ xs, Slc (Slc EInt) W (.slice a4 n4 c4) xs ∧ (∀ l ∈ xs, (∀ z ∈ l, -9223372036854775808 ≤ z ∧ z ≤ 9223372036854775807) ∧ l.length ≤ 9223372036854775807) ∧ n4 ≤ 9223372036854775807 := by
    obtain ⟨m, hm⟩ := h4
    obtain ⟨xs, h1, h2, h3⟩ := slc_of_trod Try.underlying52 (by kernel_rfl) (intss_of_trod Try.underlying24 (by kernel_rfl) Try.underlying3) hm
    exact ⟨xs, h1, h2, by rw [← h1.len.1]; exact h3⟩
  obtain ⟨ls, s5, q5, m5⟩ : ∃ xs, Strs W (.slice a5 n5 c5) xs ∧ okS xs ∧ n5 ≤ 9223372036854775807 := by
    obtain ⟨m, hm⟩ := h5
    obtain ⟨xs, h1, h2, h3⟩ := strs_of_trod Try.underlying22 (by kernel_rfl) Try.underlying9 m _ _ hm
    exact ⟨xs, h1, h2, by rw [← h1.len.1]; exact h3⟩
  obtain ⟨RS, s6, q6, m6⟩ : ∃ xs, Nest W (.slice a6 n6 c6) xs ∧ okN xs ∧ n6 ≤ 9223372036854775807 := by
    obtain ⟨m, hm⟩ := h6
    obtain ⟨xs, h1, h2, h3⟩ := slc_of_trod Try.underlying43 (by kernel_rfl) (strs_of_trod Try.underlying22 (by kernel_rfl) Try.underlying9) hm
    exact ⟨xs, h1, h2, by rw [← h1.len.1]; exact h3⟩
  refine (held_any a0 a1 a2 a3 a4 a5 a6 n0 c0 n1 c1 n2 c2 n3 c3 n4 c4 n5 c5 n6 c6 z7 ids rp ld fk fc ls RS W s0 s1 s2 s3 s4 s5 s6 q0 q3 (fun x hx => (q4 x hx).2) q5 q6 q1 q2 (fun l hl => (q4 l hl).1) m0 m1 m2 m3 m4 m5 m6).mono fun e W' ⟨he, bel⟩ => ?_
  subst he
  exact ⟨_, rfl, _, _, _, [], _, [], hW', trodAll_mk1 (shut_bool Try.underlying4 _), (trodAll_cons_mk (Below.trod laidOut (by kernel_rfl) (of_decide_eq_true (by kernel_rfl)) k0 bel lt0) (trodAll_cons_mk (Below.trod laidOut (by kernel_rfl) (of_decide_eq_true (by kernel_rfl)) k1 bel lt1) (trodAll_cons_mk (Below.trod laidOut (by kernel_rfl) (of_decide_eq_true (by kernel_rfl)) k2 bel lt2) (trodAll_cons_mk (Below.trod laidOut (by kernel_rfl) (of_decide_eq_true (by kernel_rfl)) k3 bel lt3) (trodAll_cons_mk (Below.trod laidOut (by kernel_rfl) (of_decide_eq_true (by kernel_rfl)) k4 bel lt4) (trodAll_cons_mk (Below.trod laidOut (by kernel_rfl) (of_decide_eq_true (by kernel_rfl)) k5 bel lt5) (trodAll_cons_mk (Below.trod laidOut (by kernel_rfl) (of_decide_eq_true (by kernel_rfl)) k6 bel lt6) (trodAll_cons_mk (Below.trod laidOut (by kernel_rfl) (of_decide_eq_true (by kernel_rfl)) k7 bel lt7) trodAll_mk0)))))))), rfl, bel.frame _, fun h => by cases h⟩

theorem over : Rows.fnHeldCountMatchesTallyRow.holds Try.pinned (OpenSpec.ofChange Rows.fnHeldCountMatchesTallySpec) :=
  OpenClaim.holds_of_wide 7 Try.f7 rfl rfl rfl rfl rfl rfl rfl ⟨rfl, rfl, rfl, rfl, rfl⟩ rfl rfl rfl rfl rfl (by kernel_rfl) Try.func7 (by kernel_rfl)
    (of_decide_eq_true (by kernel_rfl)) (by unfold Func.isWrapper; first | (rw [if_pos (by decide +kernel)]; kernel_rfl) | (rw [if_neg (by decide +kernel)]; exact ⟨rfl, rfl⟩))
    (fun os started H enc _ => lifted os started H enc)

/-- THE STATEMENT -/
theorem proved : Rows.FnHeldCountMatchesTallySaid := over
#print axioms proved
end Go.Proofs.Qxb6603051a.fnHeldCountMatchesTally
