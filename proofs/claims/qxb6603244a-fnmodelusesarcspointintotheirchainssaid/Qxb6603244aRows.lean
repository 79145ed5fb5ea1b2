/-
  No cell of these rows narrows 'for every input' (looked for: loops, veiled, ifaces, maps, wideKeys, modest, calm, conditions, laid).
  DERIVED. THE GIVEN ROWS OF THIS SEAT. 3 by the template 'for every input the law returns true; each argument reads behind the call as it read before'; 0 by the template 'total and deterministic' (their statements: Qxb6603244aTotals.lean).
  GIVEN WITH THE SEED: the statements are not yours to turn. If you find one false, say at which input.
  Laid BY PROGRAM, IN A SANDBOX (cutbox-rows.mjs): the forced cells as the released guide's own fill.sh prints them over the translation f298d6af5235c1f5… (all of the seat's roots in one cut). By AI agents, Wed Nov 11 2026. No macro, syntax, notation, axiom, sorry.
-/
import Derived.Test.Qxb6603244aChecked
import GoSem.Claim
import GoSem.ClaimJoined
import GoSem.ClaimMapViews
import Derived.JoinedTies
import Derived.KernelRfl
namespace Go.Proofs.Qxb6603244a
/- THE CELL 'sum', in the pinned program and in every row, IS THE sha256 OF THE DUMP (.gsa) THAT Qxb6603244aProg.lean LOADS. Nothing in Lean hashes anything: it is a label: what it is worth is what the hold of that sum in a sandbox is worth. -/
noncomputable def Try.pinned : Pinned := { name := "qxb6603244a", sum := "f298d6af5235c1f533747ec9ccae78b48f689c68c974ca39ccff1e55f4e88e42", checked := Try.checked }
namespace Rows
def none {H : Type} : Left H := { results := [], args := [] }

/-- 'zzlaws_internal_chains_b1.FnNewDeciderIsThePrefixTrieOfEachRuleRelation': WHATEVER THE INPUT: true; the input reads as it did. -/
def fnNewDeciderIsThePrefixTrieOfEachRuleRelationSpec : ChangeSpec := { name := "fnNewDeciderIsThePrefixTrieOfEachRuleRelation", fn := fun _ => fun
  | [d1, d2, d3, d4, d5] => { results := [.lit (.bool true)], args := [d1, d2, d3, d4, d5] }
  | _ => none }
def fnNewDeciderIsThePrefixTrieOfEachRuleRelationRow : OpenClaim := { program := "qxb6603244a", sum := "f298d6af5235c1f533747ec9ccae78b48f689c68c974ca39ccff1e55f4e88e42", func := "example.com/accesslint/accesslint/zzlaws_internal_chains_b1.FnNewDeciderIsThePrefixTrieOfEachRuleRelation", spec := "fnNewDeciderIsThePrefixTrieOfEachRuleRelation", plainKeys := false, apart := false }
def FnNewDeciderIsThePrefixTrieOfEachRuleRelationSaid : Prop := fnNewDeciderIsThePrefixTrieOfEachRuleRelationRow.holds Try.pinned (OpenSpec.ofChange fnNewDeciderIsThePrefixTrieOfEachRuleRelationSpec)

/-- ITS FALSE NEIGHBOUR: 'it returns false'. Refute it at one input. -/
def fnNewDeciderIsThePrefixTrieOfEachRuleRelationWrong : ChangeSpec := { name := "fnNewDeciderIsThePrefixTrieOfEachRuleRelation", fn := fun _ => fun
  | [d1, d2, d3, d4, d5] => { results := [.lit (.bool false)], args := [d1, d2, d3, d4, d5] }
  | _ => none }
def FnNewDeciderIsThePrefixTrieOfEachRuleRelationWrongFalsely : Prop := fnNewDeciderIsThePrefixTrieOfEachRuleRelationRow.holds Try.pinned (OpenSpec.ofChange fnNewDeciderIsThePrefixTrieOfEachRuleRelationWrong)

/-- 'zzlaws_internal_chains_b1.FnNewDeciderTrieIsAForestWithOneEndPerDistinctChain': WHATEVER THE INPUT: true; the input reads as it did. -/
def fnNewDeciderTrieIsAForestWithOneEndPerDistinctChainSpec : ChangeSpec := { name := "fnNewDeciderTrieIsAForestWithOneEndPerDistinctChain", fn := fun _ => fun
  | [d1, d2, d3, d4, d5] => { results := [.lit (.bool true)], args := [d1, d2, d3, d4, d5] }
  | _ => none }
def fnNewDeciderTrieIsAForestWithOneEndPerDistinctChainRow : OpenClaim := { program := "qxb6603244a", sum := "f298d6af5235c1f533747ec9ccae78b48f689c68c974ca39ccff1e55f4e88e42", func := "example.com/accesslint/accesslint/zzlaws_internal_chains_b1.FnNewDeciderTrieIsAForestWithOneEndPerDistinctChain", spec := "fnNewDeciderTrieIsAForestWithOneEndPerDistinctChain", plainKeys := false, apart := false }
def FnNewDeciderTrieIsAForestWithOneEndPerDistinctChainSaid : Prop := fnNewDeciderTrieIsAForestWithOneEndPerDistinctChainRow.holds Try.pinned (OpenSpec.ofChange fnNewDeciderTrieIsAForestWithOneEndPerDistinctChainSpec)

/-- ITS FALSE NEIGHBOUR: 'it returns false'. Refute it at one input. -/
def fnNewDeciderTrieIsAForestWithOneEndPerDistinctChainWrong : ChangeSpec := { name := "fnNewDeciderTrieIsAForestWithOneEndPerDistinctChain", fn := fun _ => fun
  | [d1, d2, d3, d4, d5] => { results := [.lit (.bool false)], args := [d1, d2, d3, d4, d5] }
  | _ => none }
def FnNewDeciderTrieIsAForestWithOneEndPerDistinctChainWrongFalsely : Prop := fnNewDeciderTrieIsAForestWithOneEndPerDistinctChainRow.holds Try.pinned (OpenSpec.ofChange fnNewDeciderTrieIsAForestWithOneEndPerDistinctChainWrong)

/-- 'zzlaws_internal_chains_b1.FnModelUsesArcsPointIntoTheirChains': WHATEVER THE INPUT: true; the input reads as it did. -/
def fnModelUsesArcsPointIntoTheirChainsSpec : ChangeSpec := { name := "fnModelUsesArcsPointIntoTheirChains", fn := fun _ => fun
  | [d1, d2, d3, d4, d5] => { results := [.lit (.bool true)], args := [d1, d2, d3, d4, d5] }
  | _ => none }
def fnModelUsesArcsPointIntoTheirChainsRow : OpenClaim := { program := "qxb6603244a", sum := "f298d6af5235c1f533747ec9ccae78b48f689c68c974ca39ccff1e55f4e88e42", func := "example.com/accesslint/accesslint/zzlaws_internal_chains_b1.FnModelUsesArcsPointIntoTheirChains", spec := "fnModelUsesArcsPointIntoTheirChains", plainKeys := false, apart := false }
def FnModelUsesArcsPointIntoTheirChainsSaid : Prop := fnModelUsesArcsPointIntoTheirChainsRow.holds Try.pinned (OpenSpec.ofChange fnModelUsesArcsPointIntoTheirChainsSpec)

/-- ITS FALSE NEIGHBOUR: 'it returns false'. Refute it at one input. -/
def fnModelUsesArcsPointIntoTheirChainsWrong : ChangeSpec := { name := "fnModelUsesArcsPointIntoTheirChains", fn := fun _ => fun
  | [d1, d2, d3, d4, d5] => { results := [.lit (.bool false)], args := [d1, d2, d3, d4, d5] }
  | _ => none }
def FnModelUsesArcsPointIntoTheirChainsWrongFalsely : Prop := fnModelUsesArcsPointIntoTheirChainsRow.holds Try.pinned (OpenSpec.ofChange fnModelUsesArcsPointIntoTheirChainsWrong)

end Rows
end Go.Proofs.Qxb6603244a
