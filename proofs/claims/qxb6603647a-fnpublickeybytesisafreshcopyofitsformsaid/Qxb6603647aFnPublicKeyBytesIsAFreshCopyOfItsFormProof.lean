/-
  The proof of 'Rows.FnPublicKeyBytesIsAFreshCopyOfItsFormSaid'. The frame after the guide's shell; the walk: Qxb6603647aW1.
-/
import Derived.Test.Qxb6603647aRows
import Derived.Test.Qxb6603647aW1
import Derived.WalkKit
import Derived.ProofKit
import Derived.OpenShut
import Derived.ShutString
import Derived.ChangeOld
import Derived.Below
namespace Go.Proofs.Qxb6603647a.fnPublicKeyBytesIsAFreshCopyOfItsForm
open Go.ChangeShapes Go.WideShapes Go.ChangeAt Go.RowKit
open Go.ChangeMaps (open_string shut_string)
set_option linter.unusedVariables false

theorem own : ownKnob Try.prog.godebug = none := by kernel_rfl
theorem laidOut : laidOutB Try.prog = true := by kernel_rfl

theorem cells22 : Try.prog.cellsOf 22 = 74 := by kernel_rfl
theorem cellTypes22 : Try.prog.cellTypes Try.prog.depth 22 = some (List.replicate 74 5) := by kernel_rfl

theorem ints_list : ∀ (l : List Value), (∀ v ∈ l, ∃ n, v = .int .u8 n) → ∃ zs : List Int, l = zs.map (Value.int .u8)
  | [], _ => ⟨[], rfl⟩
  | v :: l, h => by
    obtain ⟨n, rfl⟩ := h v (List.mem_cons_self ..)
    obtain ⟨zs, rfl⟩ := ints_list l (fun v hv => h v (List.mem_cons_of_mem _ hv))
    exact ⟨n :: zs, rfl⟩

set_option maxRecDepth 100000 in
theorem lifted (os : Os) (started : os.Started) (H : Type) (enc : TypeId × Value → H) :
    ReturnsInHanded {} Try.checked os 3 .any (Rows.fnPublicKeyBytesIsAFreshCopyOfItsFormSpec.pre6 enc Try.prog Try.f3 Rows.fnPublicKeyBytesIsAFreshCopyOfItsFormRow.domain false) (Rows.fnPublicKeyBytesIsAFreshCopyOfItsFormSpec.post enc Try.prog Try.f3 false true false false) := by
  refine returnsInHanded_of_change (C := Try.checked) own started (by kernel_rfl) Try.func3
    (ChangeSpec.witness6 (enc := enc) (C := Try.checked) false ⟨#[], #[.agg (Array.replicate 74 (.int .u8 0))], []⟩ 8 (by kernel_rfl) (by kernel_rfl) (by kernel_rfl) (by kernel_rfl)) ?_
  intro W base args ds gs before hval0 hW hcnd _
  have hval : ∀ (j : Nat) t v, Try.f3.params[j]? = some t → args[j]? = some v → Value.okWide Try.prog W .any base t v := hval0
  have hW' := hW
  obtain ⟨p, q, hA0, hV, rfl, hfz, hnd⟩ := hW
  have hA : DataW.TrodAll enc Try.prog W 0 (fun _ => true) true Try.f3.params.toList args.toList ds p := hA0
  rw [Try.params3] at hA hval
  obtain ⟨v0, vs0, d0, ds0, p0, q0, hargs, rfl, rfl, h0, r0⟩ := trodAll_cons hA
  obtain ⟨rfl, rfl, rfl⟩ := trodAll_nil r0
  obtain rfl : args = #[v0] := by cases args; simp_all
  obtain ⟨rfl, rfl⟩ := trodVars_none hV
  obtain ⟨cs, zs, rfl, hz, hzl⟩ : ∃ (cs : Array Value) (zs : List Int), v0 = .agg cs ∧ cs.toList = zs.map (Value.int .u8) ∧ zs.length = 74 := by
    have hv := hval 0 22 v0 rfl rfl
    unfold Value.okWide at hv
    rw [Try.underlying22] at hv
    obtain ⟨cs, rfl, hsz, ts, hts, -, hcell⟩ := hv
    rw [cellTypes22] at hts
    obtain rfl := Option.some.inj hts
    rw [cells22] at hsz
    obtain ⟨zs, hzs⟩ := ints_list cs.toList (fun v hv => by
      obtain ⟨i, hi, hi2⟩ := List.getElem_of_mem hv
      obtain ⟨u, hu, hc⟩ := hcell i v (by rw [← hi2]; simp)
      have hu5 : u = 5 := by
        have := List.mem_of_getElem? hu
        simpa using List.eq_of_mem_replicate this
      subst hu5
      have hw : Value.okWide Try.prog W .any base 5 v := by unfold Value.okWide; rw [Try.underlying5]; exact hc
      exact okWide_int Try.underlying5 hw)
    exact ⟨cs, zs, rfl, hzs, by have := congrArg List.length hzs; simp at this; omega⟩
  have k0 := h0
  have lt0 : ∀ x ∈ p0, x.block < W.heap.size := by obtain ⟨m, hm⟩ := k0; exact DataW.trod_lt m _ _ _ hm
  clear hA0 hval0
  refine (main_any cs zs W hz hzl).mono fun e W' ⟨he, bel⟩ => ?_
  subst he
  exact ⟨_, rfl, _, _, _, [], _, [], hW', trodAll_mk1 (shut_bool Try.underlying4 _), (trodAll_cons_mk (Below.trod laidOut (by kernel_rfl) (of_decide_eq_true (by kernel_rfl)) k0 bel lt0) trodAll_mk0), rfl, bel.frame _, fun h => by cases h⟩

theorem over : Rows.fnPublicKeyBytesIsAFreshCopyOfItsFormRow.holds Try.pinned (OpenSpec.ofChange Rows.fnPublicKeyBytesIsAFreshCopyOfItsFormSpec) :=
  OpenClaim.holds_of_wide 3 Try.f3 rfl rfl rfl rfl rfl rfl rfl ⟨rfl, rfl, rfl, rfl, rfl⟩ rfl rfl rfl rfl rfl (by kernel_rfl) Try.func3 (by kernel_rfl)
    (of_decide_eq_true (by kernel_rfl)) (by unfold Func.isWrapper; first | (rw [if_pos (by decide +kernel)]; kernel_rfl) | (rw [if_neg (by decide +kernel)]; exact ⟨rfl, rfl⟩))
    (fun os started H enc _ => lifted os started H enc)

/-- THE STATEMENT -/
theorem proved : Rows.FnPublicKeyBytesIsAFreshCopyOfItsFormSaid := over
#print axioms proved
end Go.Proofs.Qxb6603647a.fnPublicKeyBytesIsAFreshCopyOfItsForm
