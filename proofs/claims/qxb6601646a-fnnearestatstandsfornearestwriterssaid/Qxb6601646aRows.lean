/-
  No cell of these rows narrows 'for every input' (looked for: loops, veiled, ifaces, maps, wideKeys, modest, calm, conditions, laid).
  DERIVED. THE GIVEN ROWS OF THIS SEAT. 6 by the template 'for every input the law returns true; each argument reads behind the call as it read before'; 0 by the template 'total and deterministic' (their statements: Qxb6601646aTotals.lean).
  GIVEN WITH THE SEED: the statements are not yours to turn. If you find one false, say at which input.
  Laid BY PROGRAM, IN A SANDBOX (cutbox-rows.mjs): the forced cells as the released guide's own fill.sh prints them over the translation 4eeed4bdaf9a6a3a… (all of the seat's roots in one cut). By AI agents, Wed Nov 11 2026. No macro, syntax, notation, axiom, sorry.
-/
import Derived.Test.Qxb6601646aChecked
import GoSem.Claim
import GoSem.ClaimJoined
import GoSem.ClaimMapViews
import Derived.JoinedTies
import Derived.KernelRfl
namespace Go.Proofs.Qxb6601646a
/- THE CELL 'sum', in the pinned program and in every row, IS THE sha256 OF THE DUMP (.gsa) THAT Qxb6601646aProg.lean LOADS. Nothing in Lean hashes anything: it is a label: what it is worth is what the hold of that sum in a sandbox is worth. -/
noncomputable def Try.pinned : Pinned := { name := "qxb6601646a", sum := "4eeed4bdaf9a6a3adb954fd19bc8dbab8c5a9c353fe35ffb664fb726e4db5dd0", checked := Try.checked }
namespace Rows
def none {H : Type} : Left H := { results := [], args := [] }

/-- 'zzlaws_internal_analysis_b1.FnNearestAtStandsForNearestWriters': WHATEVER THE INPUT: true; the input reads as it did. -/
def fnNearestAtStandsForNearestWritersSpec : ChangeSpec := { name := "fnNearestAtStandsForNearestWriters", fn := fun _ => fun
  | [d1, d2, d3, d4, d5, d6, d7, d8, d9] => { results := [.lit (.bool true)], args := [d1, d2, d3, d4, d5, d6, d7, d8, d9] }
  | _ => none }
def fnNearestAtStandsForNearestWritersRow : OpenClaim := { program := "qxb6601646a", sum := "4eeed4bdaf9a6a3adb954fd19bc8dbab8c5a9c353fe35ffb664fb726e4db5dd0", func := "example.com/serialis/serialis/zzlaws_internal_analysis_b1.FnNearestAtStandsForNearestWriters", spec := "fnNearestAtStandsForNearestWriters", recurses := true, apart := false }
def FnNearestAtStandsForNearestWritersSaid : Prop := fnNearestAtStandsForNearestWritersRow.holds Try.pinned (OpenSpec.ofChange fnNearestAtStandsForNearestWritersSpec)

/-- ITS FALSE NEIGHBOUR: 'it returns false'. Refute it at one input. -/
def fnNearestAtStandsForNearestWritersWrong : ChangeSpec := { name := "fnNearestAtStandsForNearestWriters", fn := fun _ => fun
  | [d1, d2, d3, d4, d5, d6, d7, d8, d9] => { results := [.lit (.bool false)], args := [d1, d2, d3, d4, d5, d6, d7, d8, d9] }
  | _ => none }
def FnNearestAtStandsForNearestWritersWrongFalsely : Prop := fnNearestAtStandsForNearestWritersRow.holds Try.pinned (OpenSpec.ofChange fnNearestAtStandsForNearestWritersWrong)

/-- 'zzlaws_internal_analysis_b1.FnNearestAtAgainChangesNothing': WHATEVER THE INPUT: true; the input reads as it did. -/
def fnNearestAtAgainChangesNothingSpec : ChangeSpec := { name := "fnNearestAtAgainChangesNothing", fn := fun _ => fun
  | [d1, d2, d3, d4, d5, d6, d7, d8, d9] => { results := [.lit (.bool true)], args := [d1, d2, d3, d4, d5, d6, d7, d8, d9] }
  | _ => none }
def fnNearestAtAgainChangesNothingRow : OpenClaim := { program := "qxb6601646a", sum := "4eeed4bdaf9a6a3adb954fd19bc8dbab8c5a9c353fe35ffb664fb726e4db5dd0", func := "example.com/serialis/serialis/zzlaws_internal_analysis_b1.FnNearestAtAgainChangesNothing", spec := "fnNearestAtAgainChangesNothing", recurses := true, apart := false }
def FnNearestAtAgainChangesNothingSaid : Prop := fnNearestAtAgainChangesNothingRow.holds Try.pinned (OpenSpec.ofChange fnNearestAtAgainChangesNothingSpec)

/-- ITS FALSE NEIGHBOUR: 'it returns false'. Refute it at one input. -/
def fnNearestAtAgainChangesNothingWrong : ChangeSpec := { name := "fnNearestAtAgainChangesNothing", fn := fun _ => fun
  | [d1, d2, d3, d4, d5, d6, d7, d8, d9] => { results := [.lit (.bool false)], args := [d1, d2, d3, d4, d5, d6, d7, d8, d9] }
  | _ => none }
def FnNearestAtAgainChangesNothingWrongFalsely : Prop := fnNearestAtAgainChangesNothingRow.holds Try.pinned (OpenSpec.ofChange fnNearestAtAgainChangesNothingWrong)

/-- 'zzlaws_internal_analysis_b1.FnIndexMatchesRankModel': WHATEVER THE INPUT: true; the input reads as it did. -/
def fnIndexMatchesRankModelSpec : ChangeSpec := { name := "fnIndexMatchesRankModel", fn := fun _ => fun
  | [d] => { results := [.lit (.bool true)], args := [d] }
  | _ => none }
def fnIndexMatchesRankModelRow : OpenClaim := { program := "qxb6601646a", sum := "4eeed4bdaf9a6a3adb954fd19bc8dbab8c5a9c353fe35ffb664fb726e4db5dd0", func := "example.com/serialis/serialis/zzlaws_internal_analysis_b1.FnIndexMatchesRankModel", spec := "fnIndexMatchesRankModel", recurses := true, apart := false }
def FnIndexMatchesRankModelSaid : Prop := fnIndexMatchesRankModelRow.holds Try.pinned (OpenSpec.ofChange fnIndexMatchesRankModelSpec)

/-- ITS FALSE NEIGHBOUR: 'it returns false'. Refute it at one input. -/
def fnIndexMatchesRankModelWrong : ChangeSpec := { name := "fnIndexMatchesRankModel", fn := fun _ => fun
  | [d] => { results := [.lit (.bool false)], args := [d] }
  | _ => none }
def FnIndexMatchesRankModelWrongFalsely : Prop := fnIndexMatchesRankModelRow.holds Try.pinned (OpenSpec.ofChange fnIndexMatchesRankModelWrong)

/-- 'zzlaws_internal_analysis_b1.FnIndexTxShiftKeepsAllButNumbers': WHATEVER THE INPUT: true; the input reads as it did. -/
def fnIndexTxShiftKeepsAllButNumbersSpec : ChangeSpec := { name := "fnIndexTxShiftKeepsAllButNumbers", fn := fun _ => fun
  | [d1, d2] => { results := [.lit (.bool true)], args := [d1, d2] }
  | _ => none }
def fnIndexTxShiftKeepsAllButNumbersRow : OpenClaim := { program := "qxb6601646a", sum := "4eeed4bdaf9a6a3adb954fd19bc8dbab8c5a9c353fe35ffb664fb726e4db5dd0", func := "example.com/serialis/serialis/zzlaws_internal_analysis_b1.FnIndexTxShiftKeepsAllButNumbers", spec := "fnIndexTxShiftKeepsAllButNumbers", recurses := true, apart := false }
def FnIndexTxShiftKeepsAllButNumbersSaid : Prop := fnIndexTxShiftKeepsAllButNumbersRow.holds Try.pinned (OpenSpec.ofChange fnIndexTxShiftKeepsAllButNumbersSpec)

/-- ITS FALSE NEIGHBOUR: 'it returns false'. Refute it at one input. -/
def fnIndexTxShiftKeepsAllButNumbersWrong : ChangeSpec := { name := "fnIndexTxShiftKeepsAllButNumbers", fn := fun _ => fun
  | [d1, d2] => { results := [.lit (.bool false)], args := [d1, d2] }
  | _ => none }
def FnIndexTxShiftKeepsAllButNumbersWrongFalsely : Prop := fnIndexTxShiftKeepsAllButNumbersRow.holds Try.pinned (OpenSpec.ofChange fnIndexTxShiftKeepsAllButNumbersWrong)

/-- 'zzlaws_internal_analysis_b1.FnLowestOnCycleIsLeastNodeOnACycle': WHATEVER THE INPUT: true; the input reads as it did. -/
def fnLowestOnCycleIsLeastNodeOnACycleSpec : ChangeSpec := { name := "fnLowestOnCycleIsLeastNodeOnACycle", fn := fun _ => fun
  | [d1, d2, d3] => { results := [.lit (.bool true)], args := [d1, d2, d3] }
  | _ => none }
def fnLowestOnCycleIsLeastNodeOnACycleRow : OpenClaim := { program := "qxb6601646a", sum := "4eeed4bdaf9a6a3adb954fd19bc8dbab8c5a9c353fe35ffb664fb726e4db5dd0", func := "example.com/serialis/serialis/zzlaws_internal_analysis_b1.FnLowestOnCycleIsLeastNodeOnACycle", spec := "fnLowestOnCycleIsLeastNodeOnACycle", unfollowed := true, recurses := true, apart := false }
def FnLowestOnCycleIsLeastNodeOnACycleSaid : Prop := fnLowestOnCycleIsLeastNodeOnACycleRow.holds Try.pinned (OpenSpec.ofChange fnLowestOnCycleIsLeastNodeOnACycleSpec)

/-- ITS FALSE NEIGHBOUR: 'it returns false'. Refute it at one input. -/
def fnLowestOnCycleIsLeastNodeOnACycleWrong : ChangeSpec := { name := "fnLowestOnCycleIsLeastNodeOnACycle", fn := fun _ => fun
  | [d1, d2, d3] => { results := [.lit (.bool false)], args := [d1, d2, d3] }
  | _ => none }
def FnLowestOnCycleIsLeastNodeOnACycleWrongFalsely : Prop := fnLowestOnCycleIsLeastNodeOnACycleRow.holds Try.pinned (OpenSpec.ofChange fnLowestOnCycleIsLeastNodeOnACycleWrong)

/-- 'zzlaws_internal_analysis_b1.FnLowestOnCycleSameOnReversedGraph': WHATEVER THE INPUT: true; the input reads as it did. -/
def fnLowestOnCycleSameOnReversedGraphSpec : ChangeSpec := { name := "fnLowestOnCycleSameOnReversedGraph", fn := fun _ => fun
  | [d1, d2, d3] => { results := [.lit (.bool true)], args := [d1, d2, d3] }
  | _ => none }
def fnLowestOnCycleSameOnReversedGraphRow : OpenClaim := { program := "qxb6601646a", sum := "4eeed4bdaf9a6a3adb954fd19bc8dbab8c5a9c353fe35ffb664fb726e4db5dd0", func := "example.com/serialis/serialis/zzlaws_internal_analysis_b1.FnLowestOnCycleSameOnReversedGraph", spec := "fnLowestOnCycleSameOnReversedGraph", unfollowed := true, recurses := true, apart := false }
def FnLowestOnCycleSameOnReversedGraphSaid : Prop := fnLowestOnCycleSameOnReversedGraphRow.holds Try.pinned (OpenSpec.ofChange fnLowestOnCycleSameOnReversedGraphSpec)

/-- ITS FALSE NEIGHBOUR: 'it returns false'. Refute it at one input. -/
def fnLowestOnCycleSameOnReversedGraphWrong : ChangeSpec := { name := "fnLowestOnCycleSameOnReversedGraph", fn := fun _ => fun
  | [d1, d2, d3] => { results := [.lit (.bool false)], args := [d1, d2, d3] }
  | _ => none }
def FnLowestOnCycleSameOnReversedGraphWrongFalsely : Prop := fnLowestOnCycleSameOnReversedGraphRow.holds Try.pinned (OpenSpec.ofChange fnLowestOnCycleSameOnReversedGraphWrong)

end Rows
end Go.Proofs.Qxb6601646a
