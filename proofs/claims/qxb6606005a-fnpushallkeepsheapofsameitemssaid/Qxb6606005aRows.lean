/-
  No cell of these rows narrows 'for every input' (looked for: loops, veiled, ifaces, maps, wideKeys, modest, calm, conditions, laid).
  DERIVED. THE GIVEN ROWS OF THIS SEAT. 5 by the template 'for every input the law returns true; each argument reads behind the call as it read before'; 0 by the template 'total and deterministic' (their statements: Qxb6606005aTotals.lean).
  GIVEN WITH THE SEED: the statements are not yours to turn. If you find one false, say at which input.
  Laid BY PROGRAM, IN A SANDBOX (cutbox-rows.mjs): the forced cells as the released guide's own fill.sh prints them over the translation ee352b05286391a6… (all of the seat's roots in one cut). By AI agents, Wed Nov 11 2026. No macro, syntax, notation, axiom, sorry.
-/
import Derived.Test.Qxb6606005aChecked
import GoSem.Claim
import GoSem.ClaimJoined
import GoSem.ClaimMapViews
import Derived.JoinedTies
import Derived.KernelRfl
namespace Go.Proofs.Qxb6606005a
/- THE CELL 'sum', in the pinned program and in every row, IS THE sha256 OF THE DUMP (.gsa) THAT Qxb6606005aProg.lean LOADS. Nothing in Lean hashes anything: it is a label: what it is worth is what the hold of that sum in a sandbox is worth. -/
noncomputable def Try.pinned : Pinned := { name := "qxb6606005a", sum := "ee352b05286391a61385ff4580e99fefc83fc4de0f7370824595d09c1f436b66", checked := Try.checked }
namespace Rows
def none {H : Type} : Left H := { results := [], args := [] }

/-- 'zzlaws_sim_b1.FnPushSiftsAlongPath': WHATEVER THE INPUT: true; the input reads as it did. -/
def fnPushSiftsAlongPathSpec : ChangeSpec := { name := "fnPushSiftsAlongPath", fn := fun _ => fun
  | [d1, d2, d3] => { results := [.lit (.bool true)], args := [d1, d2, d3] }
  | _ => none }
def fnPushSiftsAlongPathRow : OpenClaim := { program := "qxb6606005a", sum := "ee352b05286391a61385ff4580e99fefc83fc4de0f7370824595d09c1f436b66", func := "example.com/antecedent/antecedent/zzlaws_sim_b1.FnPushSiftsAlongPath", spec := "fnPushSiftsAlongPath", apart := false }
def FnPushSiftsAlongPathSaid : Prop := fnPushSiftsAlongPathRow.holds Try.pinned (OpenSpec.ofChange fnPushSiftsAlongPathSpec)

/-- ITS FALSE NEIGHBOUR: 'it returns false'. Refute it at one input. -/
def fnPushSiftsAlongPathWrong : ChangeSpec := { name := "fnPushSiftsAlongPath", fn := fun _ => fun
  | [d1, d2, d3] => { results := [.lit (.bool false)], args := [d1, d2, d3] }
  | _ => none }
def FnPushSiftsAlongPathWrongFalsely : Prop := fnPushSiftsAlongPathRow.holds Try.pinned (OpenSpec.ofChange fnPushSiftsAlongPathWrong)

/-- 'zzlaws_sim_b1.FnPushAllKeepsHeapOfSameItems': WHATEVER THE INPUT: true; the input reads as it did. -/
def fnPushAllKeepsHeapOfSameItemsSpec : ChangeSpec := { name := "fnPushAllKeepsHeapOfSameItems", fn := fun _ => fun
  | [d] => { results := [.lit (.bool true)], args := [d] }
  | _ => none }
def fnPushAllKeepsHeapOfSameItemsRow : OpenClaim := { program := "qxb6606005a", sum := "ee352b05286391a61385ff4580e99fefc83fc4de0f7370824595d09c1f436b66", func := "example.com/antecedent/antecedent/zzlaws_sim_b1.FnPushAllKeepsHeapOfSameItems", spec := "fnPushAllKeepsHeapOfSameItems", apart := false }
def FnPushAllKeepsHeapOfSameItemsSaid : Prop := fnPushAllKeepsHeapOfSameItemsRow.holds Try.pinned (OpenSpec.ofChange fnPushAllKeepsHeapOfSameItemsSpec)

/-- ITS FALSE NEIGHBOUR: 'it returns false'. Refute it at one input. -/
def fnPushAllKeepsHeapOfSameItemsWrong : ChangeSpec := { name := "fnPushAllKeepsHeapOfSameItems", fn := fun _ => fun
  | [d] => { results := [.lit (.bool false)], args := [d] }
  | _ => none }
def FnPushAllKeepsHeapOfSameItemsWrongFalsely : Prop := fnPushAllKeepsHeapOfSameItemsRow.holds Try.pinned (OpenSpec.ofChange fnPushAllKeepsHeapOfSameItemsWrong)

/-- 'zzlaws_sim_b1.FnMeanAddSeriesTotals': WHATEVER THE INPUT: true; the input reads as it did. -/
def fnMeanAddSeriesTotalsSpec : ChangeSpec := { name := "fnMeanAddSeriesTotals", fn := fun _ => fun
  | [d1, d2, d3] => { results := [.lit (.bool true)], args := [d1, d2, d3] }
  | _ => none }
def fnMeanAddSeriesTotalsRow : OpenClaim := { program := "qxb6606005a", sum := "ee352b05286391a61385ff4580e99fefc83fc4de0f7370824595d09c1f436b66", func := "example.com/antecedent/antecedent/zzlaws_sim_b1.FnMeanAddSeriesTotals", spec := "fnMeanAddSeriesTotals", apart := false }
def FnMeanAddSeriesTotalsSaid : Prop := fnMeanAddSeriesTotalsRow.holds Try.pinned (OpenSpec.ofChange fnMeanAddSeriesTotalsSpec)

/-- ITS FALSE NEIGHBOUR: 'it returns false'. Refute it at one input. -/
def fnMeanAddSeriesTotalsWrong : ChangeSpec := { name := "fnMeanAddSeriesTotals", fn := fun _ => fun
  | [d1, d2, d3] => { results := [.lit (.bool false)], args := [d1, d2, d3] }
  | _ => none }
def FnMeanAddSeriesTotalsWrongFalsely : Prop := fnMeanAddSeriesTotalsRow.holds Try.pinned (OpenSpec.ofChange fnMeanAddSeriesTotalsWrong)

/-- 'zzlaws_sim_b1.FnMeanAverageWithinSeries': WHATEVER THE INPUT: true; the input reads as it did. -/
def fnMeanAverageWithinSeriesSpec : ChangeSpec := { name := "fnMeanAverageWithinSeries", fn := fun _ => fun
  | [d] => { results := [.lit (.bool true)], args := [d] }
  | _ => none }
def fnMeanAverageWithinSeriesRow : OpenClaim := { program := "qxb6606005a", sum := "ee352b05286391a61385ff4580e99fefc83fc4de0f7370824595d09c1f436b66", func := "example.com/antecedent/antecedent/zzlaws_sim_b1.FnMeanAverageWithinSeries", spec := "fnMeanAverageWithinSeries", apart := false }
def FnMeanAverageWithinSeriesSaid : Prop := fnMeanAverageWithinSeriesRow.holds Try.pinned (OpenSpec.ofChange fnMeanAverageWithinSeriesSpec)

/-- ITS FALSE NEIGHBOUR: 'it returns false'. Refute it at one input. -/
def fnMeanAverageWithinSeriesWrong : ChangeSpec := { name := "fnMeanAverageWithinSeries", fn := fun _ => fun
  | [d] => { results := [.lit (.bool false)], args := [d] }
  | _ => none }
def FnMeanAverageWithinSeriesWrongFalsely : Prop := fnMeanAverageWithinSeriesRow.holds Try.pinned (OpenSpec.ofChange fnMeanAverageWithinSeriesWrong)

/-- 'zzlaws_sim_b1.FnSettingErrorWithFoldsIntoSetting': WHATEVER THE INPUT: true; the input reads as it did. -/
def fnSettingErrorWithFoldsIntoSettingSpec : ChangeSpec := { name := "fnSettingErrorWithFoldsIntoSetting", fn := fun _ => fun
  | [d1, d2, d3] => { results := [.lit (.bool true)], args := [d1, d2, d3] }
  | _ => none }
def fnSettingErrorWithFoldsIntoSettingRow : OpenClaim := { program := "qxb6606005a", sum := "ee352b05286391a61385ff4580e99fefc83fc4de0f7370824595d09c1f436b66", func := "example.com/antecedent/antecedent/zzlaws_sim_b1.FnSettingErrorWithFoldsIntoSetting", spec := "fnSettingErrorWithFoldsIntoSetting", unfollowed := true, recurses := true, apart := false }
def FnSettingErrorWithFoldsIntoSettingSaid : Prop := fnSettingErrorWithFoldsIntoSettingRow.holds Try.pinned (OpenSpec.ofChange fnSettingErrorWithFoldsIntoSettingSpec)

/-- ITS FALSE NEIGHBOUR: 'it returns false'. Refute it at one input. -/
def fnSettingErrorWithFoldsIntoSettingWrong : ChangeSpec := { name := "fnSettingErrorWithFoldsIntoSetting", fn := fun _ => fun
  | [d1, d2, d3] => { results := [.lit (.bool false)], args := [d1, d2, d3] }
  | _ => none }
def FnSettingErrorWithFoldsIntoSettingWrongFalsely : Prop := fnSettingErrorWithFoldsIntoSettingRow.holds Try.pinned (OpenSpec.ofChange fnSettingErrorWithFoldsIntoSettingWrong)

end Rows
end Go.Proofs.Qxb6606005a
