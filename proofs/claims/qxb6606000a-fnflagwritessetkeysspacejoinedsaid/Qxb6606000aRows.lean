/-
  No cell of these rows narrows 'for every input' (looked for: loops, veiled, ifaces, maps, wideKeys, modest, calm, conditions, laid).
  DERIVED. THE GIVEN ROWS OF THIS SEAT. 1 by the template 'for every input the law returns true; each argument reads behind the call as it read before'; 0 by the template 'total and deterministic' (their statements: Qxb6606000aTotals.lean).
  GIVEN WITH THE SEED: the statements are not yours to turn. If you find one false, say at which input.
  Laid BY PROGRAM, IN A SANDBOX (cutbox-rows.mjs): the forced cells as the released guide's own fill.sh prints them over the translation 20352954033153c1… (all of the seat's roots in one cut). By AI agents, Wed Nov 11 2026. No macro, syntax, notation, axiom, sorry.
-/
import Derived.Test.Qxb6606000aChecked
import GoSem.Claim
import GoSem.ClaimJoined
import GoSem.ClaimMapViews
import Derived.JoinedTies
import Derived.KernelRfl
namespace Go.Proofs.Qxb6606000a
/- THE CELL 'sum', in the pinned program and in every row, IS THE sha256 OF THE DUMP (.gsa) THAT Qxb6606000aProg.lean LOADS. Nothing in Lean hashes anything: it is a label: what it is worth is what the hold of that sum in a sandbox is worth. -/
noncomputable def Try.pinned : Pinned := { name := "qxb6606000a", sum := "20352954033153c1df28a37f99a610fef3f61b453fb659a37bf1ee7dbb5517fb", checked := Try.checked }
namespace Rows
def none {H : Type} : Left H := { results := [], args := [] }

/-- 'zzlaws_internal_wire_b1.FnFlagWritesSetKeysSpaceJoined': WHATEVER THE INPUT: true; the input reads as it did. -/
def fnFlagWritesSetKeysSpaceJoinedSpec : ChangeSpec := { name := "fnFlagWritesSetKeysSpaceJoined", fn := fun _ => fun
  | [d1, d2, d3, d4] => { results := [.lit (.bool true)], args := [d1, d2, d3, d4] }
  | _ => none }
def fnFlagWritesSetKeysSpaceJoinedRow : OpenClaim := { program := "qxb6606000a", sum := "20352954033153c1df28a37f99a610fef3f61b453fb659a37bf1ee7dbb5517fb", func := "example.com/allvote/allvote/zzlaws_internal_wire_b1.FnFlagWritesSetKeysSpaceJoined", spec := "fnFlagWritesSetKeysSpaceJoined", apart := false }
def FnFlagWritesSetKeysSpaceJoinedSaid : Prop := fnFlagWritesSetKeysSpaceJoinedRow.holds Try.pinned (OpenSpec.ofChange fnFlagWritesSetKeysSpaceJoinedSpec)

/-- ITS FALSE NEIGHBOUR: 'it returns false'. Refute it at one input. -/
def fnFlagWritesSetKeysSpaceJoinedWrong : ChangeSpec := { name := "fnFlagWritesSetKeysSpaceJoined", fn := fun _ => fun
  | [d1, d2, d3, d4] => { results := [.lit (.bool false)], args := [d1, d2, d3, d4] }
  | _ => none }
def FnFlagWritesSetKeysSpaceJoinedWrongFalsely : Prop := fnFlagWritesSetKeysSpaceJoinedRow.holds Try.pinned (OpenSpec.ofChange fnFlagWritesSetKeysSpaceJoinedWrong)

end Rows
end Go.Proofs.Qxb6606000a
