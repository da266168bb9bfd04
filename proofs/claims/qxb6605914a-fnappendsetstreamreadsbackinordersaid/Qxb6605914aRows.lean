/-
  No cell of these rows narrows 'for every input' (looked for: loops, veiled, ifaces, maps, wideKeys, modest, calm, conditions, laid).
  DERIVED. THE GIVEN ROWS OF THIS SEAT. 4 by the template 'for every input the law returns true; each argument reads behind the call as it read before'; 0 by the template 'total and deterministic' (their statements: Qxb6605914aTotals.lean).
  GIVEN WITH THE SEED: the statements are not yours to turn. If you find one false, say at which input.
  Laid BY PROGRAM, IN A SANDBOX (cutbox-rows.mjs): the forced cells as the released guide's own fill.sh prints them over the translation 7624ed2906a3cf84… (all of the seat's roots in one cut). By AI agents, Wed Nov 11 2026. No macro, syntax, notation, axiom, sorry.
-/
import Derived.Test.Qxb6605914aChecked
import GoSem.Claim
import GoSem.ClaimJoined
import GoSem.ClaimMapViews
import Derived.JoinedTies
import Derived.KernelRfl
namespace Go.Proofs.Qxb6605914a
/- THE CELL 'sum', in the pinned program and in every row, IS THE sha256 OF THE DUMP (.gsa) THAT Qxb6605914aProg.lean LOADS. Nothing in Lean hashes anything: it is a label: what it is worth is what the hold of that sum in a sandbox is worth. -/
noncomputable def Try.pinned : Pinned := { name := "qxb6605914a", sum := "7624ed2906a3cf84990604e4de5f14bc5a64a2223f25d493bd199d9e13c8d593", checked := Try.checked }
namespace Rows
def none {H : Type} : Left H := { results := [], args := [] }

/-- 'zzlaws_internal_workload_b1.FnAppendVersionMatchesChainSpec': WHATEVER THE INPUT: true; the input reads as it did. -/
def fnAppendVersionMatchesChainSpecSpec : ChangeSpec := { name := "fnAppendVersionMatchesChainSpec", fn := fun _ => fun
  | [d1, d2, d3, d4, d5] => { results := [.lit (.bool true)], args := [d1, d2, d3, d4, d5] }
  | _ => none }
def fnAppendVersionMatchesChainSpecRow : OpenClaim := { program := "qxb6605914a", sum := "7624ed2906a3cf84990604e4de5f14bc5a64a2223f25d493bd199d9e13c8d593", func := "example.com/heartwood/heartwood/zzlaws_internal_workload_b1.FnAppendVersionMatchesChainSpec", spec := "fnAppendVersionMatchesChainSpec", unfollowed := true, recurses := true, named := ["encoding/binary.BigEndian"], apart := false }
def FnAppendVersionMatchesChainSpecSaid : Prop := fnAppendVersionMatchesChainSpecRow.holds Try.pinned (OpenSpec.ofChange fnAppendVersionMatchesChainSpecSpec)

/-- ITS FALSE NEIGHBOUR: 'it returns false'. Refute it at one input. -/
def fnAppendVersionMatchesChainSpecWrong : ChangeSpec := { name := "fnAppendVersionMatchesChainSpec", fn := fun _ => fun
  | [d1, d2, d3, d4, d5] => { results := [.lit (.bool false)], args := [d1, d2, d3, d4, d5] }
  | _ => none }
def FnAppendVersionMatchesChainSpecWrongFalsely : Prop := fnAppendVersionMatchesChainSpecRow.holds Try.pinned (OpenSpec.ofChange fnAppendVersionMatchesChainSpecWrong)

/-- 'zzlaws_internal_workload_b1.FnAppendVersionKeysFollowWalkersValuesFollowVersion': WHATEVER THE INPUT: true; the input reads as it did. -/
def fnAppendVersionKeysFollowWalkersValuesFollowVersionSpec : ChangeSpec := { name := "fnAppendVersionKeysFollowWalkersValuesFollowVersion", fn := fun _ => fun
  | [d1, d2, d3, d4, d5, d6, d7, d8] => { results := [.lit (.bool true)], args := [d1, d2, d3, d4, d5, d6, d7, d8] }
  | _ => none }
def fnAppendVersionKeysFollowWalkersValuesFollowVersionRow : OpenClaim := { program := "qxb6605914a", sum := "7624ed2906a3cf84990604e4de5f14bc5a64a2223f25d493bd199d9e13c8d593", func := "example.com/heartwood/heartwood/zzlaws_internal_workload_b1.FnAppendVersionKeysFollowWalkersValuesFollowVersion", spec := "fnAppendVersionKeysFollowWalkersValuesFollowVersion", unfollowed := true, recurses := true, named := ["encoding/binary.BigEndian"], apart := false }
def FnAppendVersionKeysFollowWalkersValuesFollowVersionSaid : Prop := fnAppendVersionKeysFollowWalkersValuesFollowVersionRow.holds Try.pinned (OpenSpec.ofChange fnAppendVersionKeysFollowWalkersValuesFollowVersionSpec)

/-- ITS FALSE NEIGHBOUR: 'it returns false'. Refute it at one input. -/
def fnAppendVersionKeysFollowWalkersValuesFollowVersionWrong : ChangeSpec := { name := "fnAppendVersionKeysFollowWalkersValuesFollowVersion", fn := fun _ => fun
  | [d1, d2, d3, d4, d5, d6, d7, d8] => { results := [.lit (.bool false)], args := [d1, d2, d3, d4, d5, d6, d7, d8] }
  | _ => none }
def FnAppendVersionKeysFollowWalkersValuesFollowVersionWrongFalsely : Prop := fnAppendVersionKeysFollowWalkersValuesFollowVersionRow.holds Try.pinned (OpenSpec.ofChange fnAppendVersionKeysFollowWalkersValuesFollowVersionWrong)

/-- 'zzlaws_internal_workload_b1.FnAppendSetKeepsPrefixAndReadsBack': WHATEVER THE INPUT: true; the input reads as it did. -/
def fnAppendSetKeepsPrefixAndReadsBackSpec : ChangeSpec := { name := "fnAppendSetKeepsPrefixAndReadsBack", fn := fun _ => fun
  | [d1, d2, d3] => { results := [.lit (.bool true)], args := [d1, d2, d3] }
  | _ => none }
def fnAppendSetKeepsPrefixAndReadsBackRow : OpenClaim := { program := "qxb6605914a", sum := "7624ed2906a3cf84990604e4de5f14bc5a64a2223f25d493bd199d9e13c8d593", func := "example.com/heartwood/heartwood/zzlaws_internal_workload_b1.FnAppendSetKeepsPrefixAndReadsBack", spec := "fnAppendSetKeepsPrefixAndReadsBack", apart := false }
def FnAppendSetKeepsPrefixAndReadsBackSaid : Prop := fnAppendSetKeepsPrefixAndReadsBackRow.holds Try.pinned (OpenSpec.ofChange fnAppendSetKeepsPrefixAndReadsBackSpec)

/-- ITS FALSE NEIGHBOUR: 'it returns false'. Refute it at one input. -/
def fnAppendSetKeepsPrefixAndReadsBackWrong : ChangeSpec := { name := "fnAppendSetKeepsPrefixAndReadsBack", fn := fun _ => fun
  | [d1, d2, d3] => { results := [.lit (.bool false)], args := [d1, d2, d3] }
  | _ => none }
def FnAppendSetKeepsPrefixAndReadsBackWrongFalsely : Prop := fnAppendSetKeepsPrefixAndReadsBackRow.holds Try.pinned (OpenSpec.ofChange fnAppendSetKeepsPrefixAndReadsBackWrong)

/-- 'zzlaws_internal_workload_b1.FnAppendSetStreamReadsBackInOrder': WHATEVER THE INPUT: true; the input reads as it did. -/
def fnAppendSetStreamReadsBackInOrderSpec : ChangeSpec := { name := "fnAppendSetStreamReadsBackInOrder", fn := fun _ => fun
  | [d1, d2] => { results := [.lit (.bool true)], args := [d1, d2] }
  | _ => none }
def fnAppendSetStreamReadsBackInOrderRow : OpenClaim := { program := "qxb6605914a", sum := "7624ed2906a3cf84990604e4de5f14bc5a64a2223f25d493bd199d9e13c8d593", func := "example.com/heartwood/heartwood/zzlaws_internal_workload_b1.FnAppendSetStreamReadsBackInOrder", spec := "fnAppendSetStreamReadsBackInOrder", apart := false }
def FnAppendSetStreamReadsBackInOrderSaid : Prop := fnAppendSetStreamReadsBackInOrderRow.holds Try.pinned (OpenSpec.ofChange fnAppendSetStreamReadsBackInOrderSpec)

/-- ITS FALSE NEIGHBOUR: 'it returns false'. Refute it at one input. -/
def fnAppendSetStreamReadsBackInOrderWrong : ChangeSpec := { name := "fnAppendSetStreamReadsBackInOrder", fn := fun _ => fun
  | [d1, d2] => { results := [.lit (.bool false)], args := [d1, d2] }
  | _ => none }
def FnAppendSetStreamReadsBackInOrderWrongFalsely : Prop := fnAppendSetStreamReadsBackInOrderRow.holds Try.pinned (OpenSpec.ofChange fnAppendSetStreamReadsBackInOrderWrong)

end Rows
end Go.Proofs.Qxb6605914a
