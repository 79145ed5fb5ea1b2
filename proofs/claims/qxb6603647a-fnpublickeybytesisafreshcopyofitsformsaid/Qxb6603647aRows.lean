/-
  No cell of these rows narrows 'for every input' (looked for: loops, veiled, ifaces, maps, wideKeys, modest, calm, conditions, laid).
  DERIVED. THE GIVEN ROWS OF THIS SEAT. 1 by the template 'for every input the law returns true; each argument reads behind the call as it read before'; 0 by the template 'total and deterministic' (their statements: Qxb6603647aTotals.lean).
  GIVEN WITH THE SEED: the statements are not yours to turn. If you find one false, say at which input.
  Laid BY PROGRAM, IN A SANDBOX (cutbox-rows.mjs): the forced cells as the released guide's own fill.sh prints them over the translation ec1e53751b450f1d… (all of the seat's roots in one cut). By AI agents, Wed Nov 11 2026. No macro, syntax, notation, axiom, sorry.
-/
import Derived.Test.Qxb6603647aChecked
import GoSem.Claim
import GoSem.ClaimJoined
import GoSem.ClaimMapViews
import Derived.JoinedTies
import Derived.KernelRfl
namespace Go.Proofs.Qxb6603647a
/- THE CELL 'sum', in the pinned program and in every row, IS THE sha256 OF THE DUMP (.gsa) THAT Qxb6603647aProg.lean LOADS. Nothing in Lean hashes anything: it is a label: what it is worth is what the hold of that sum in a sandbox is worth. -/
noncomputable def Try.pinned : Pinned := { name := "qxb6603647a", sum := "ec1e53751b450f1de2709900aa02979cd31b28f3a012b3a014dac522ba202d7b", checked := Try.checked }
namespace Rows
def none {H : Type} : Left H := { results := [], args := [] }

/-- 'zzlaws_root_b1.FnPublicKeyBytesIsAFreshCopyOfItsForm': WHATEVER THE INPUT: true; the input reads as it did. -/
def fnPublicKeyBytesIsAFreshCopyOfItsFormSpec : ChangeSpec := { name := "fnPublicKeyBytesIsAFreshCopyOfItsForm", fn := fun _ => fun
  | [d] => { results := [.lit (.bool true)], args := [d] }
  | _ => none }
def fnPublicKeyBytesIsAFreshCopyOfItsFormRow : OpenClaim := { program := "qxb6603647a", sum := "ec1e53751b450f1de2709900aa02979cd31b28f3a012b3a014dac522ba202d7b", func := "example.com/kith/kith/zzlaws_root_b1.FnPublicKeyBytesIsAFreshCopyOfItsForm", spec := "fnPublicKeyBytesIsAFreshCopyOfItsForm", apart := false }
def FnPublicKeyBytesIsAFreshCopyOfItsFormSaid : Prop := fnPublicKeyBytesIsAFreshCopyOfItsFormRow.holds Try.pinned (OpenSpec.ofChange fnPublicKeyBytesIsAFreshCopyOfItsFormSpec)

/-- ITS FALSE NEIGHBOUR: 'it returns false'. Refute it at one input. -/
def fnPublicKeyBytesIsAFreshCopyOfItsFormWrong : ChangeSpec := { name := "fnPublicKeyBytesIsAFreshCopyOfItsForm", fn := fun _ => fun
  | [d] => { results := [.lit (.bool false)], args := [d] }
  | _ => none }
def FnPublicKeyBytesIsAFreshCopyOfItsFormWrongFalsely : Prop := fnPublicKeyBytesIsAFreshCopyOfItsFormRow.holds Try.pinned (OpenSpec.ofChange fnPublicKeyBytesIsAFreshCopyOfItsFormWrong)

end Rows
end Go.Proofs.Qxb6603647a
