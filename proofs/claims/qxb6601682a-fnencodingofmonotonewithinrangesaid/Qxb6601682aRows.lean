/-
  No cell of these rows narrows 'for every input' (looked for: loops, veiled, ifaces, maps, wideKeys, modest, calm, conditions, laid).
  DERIVED. THE GIVEN ROWS OF THIS SEAT. 3 by the template 'for every input the law returns true; each argument reads behind the call as it read before'; 0 by the template 'total and deterministic' (their statements: Qxb6601682aTotals.lean).
  GIVEN WITH THE SEED: the statements are not yours to turn. If you find one false, say at which input.
  Laid BY PROGRAM, IN A SANDBOX (cutbox-rows.mjs): the forced cells as the released guide's own fill.sh prints them over the translation c9918eeff8a0bb7a… (all of the seat's roots in one cut). By AI agents, Wed Nov 11 2026. No macro, syntax, notation, axiom, sorry.
-/
import Derived.Test.Qxb6601682aChecked
import GoSem.Claim
import GoSem.ClaimJoined
import GoSem.ClaimMapViews
import Derived.JoinedTies
import Derived.KernelRfl
namespace Go.Proofs.Qxb6601682a
/- THE CELL 'sum', in the pinned program and in every row, IS THE sha256 OF THE DUMP (.gsa) THAT Qxb6601682aProg.lean LOADS. Nothing in Lean hashes anything: it is a label: what it is worth is what the hold of that sum in a sandbox is worth. -/
noncomputable def Try.pinned : Pinned := { name := "qxb6601682a", sum := "c9918eeff8a0bb7abdf6486f76a5cb64e2f7bea0fdff8cd9b21918691ef27354", checked := Try.checked }
namespace Rows
def none {H : Type} : Left H := { results := [], args := [] }

/-- 'zzlaws_pkg_tree_b1.FnEncodingOfMonotoneWithinRange': WHATEVER THE INPUT: true; the input reads as it did. -/
def fnEncodingOfMonotoneWithinRangeSpec : ChangeSpec := { name := "fnEncodingOfMonotoneWithinRange", fn := fun _ => fun
  | [d1, d2] => { results := [.lit (.bool true)], args := [d1, d2] }
  | _ => none }
def fnEncodingOfMonotoneWithinRangeRow : OpenClaim := { program := "qxb6601682a", sum := "c9918eeff8a0bb7abdf6486f76a5cb64e2f7bea0fdff8cd9b21918691ef27354", func := "example.com/quorumkeep/quorumkeep/zzlaws_pkg_tree_b1.FnEncodingOfMonotoneWithinRange", spec := "fnEncodingOfMonotoneWithinRange", apart := false }
def FnEncodingOfMonotoneWithinRangeSaid : Prop := fnEncodingOfMonotoneWithinRangeRow.holds Try.pinned (OpenSpec.ofChange fnEncodingOfMonotoneWithinRangeSpec)

/-- ITS FALSE NEIGHBOUR: 'it returns false'. Refute it at one input. -/
def fnEncodingOfMonotoneWithinRangeWrong : ChangeSpec := { name := "fnEncodingOfMonotoneWithinRange", fn := fun _ => fun
  | [d1, d2] => { results := [.lit (.bool false)], args := [d1, d2] }
  | _ => none }
def FnEncodingOfMonotoneWithinRangeWrongFalsely : Prop := fnEncodingOfMonotoneWithinRangeRow.holds Try.pinned (OpenSpec.ofChange fnEncodingOfMonotoneWithinRangeWrong)

/-- 'zzlaws_pkg_tree_b1.FnWatcherWithExact': WHATEVER THE INPUT: true; the input reads as it did. -/
def fnWatcherWithExactSpec : ChangeSpec := { name := "fnWatcherWithExact", fn := fun _ => fun
  | [d1, d2, d3, d4, d5, d6, d7, d8, d9, d10] => { results := [.lit (.bool true)], args := [d1, d2, d3, d4, d5, d6, d7, d8, d9, d10] }
  | _ => none }
def fnWatcherWithExactRow : OpenClaim := { program := "qxb6601682a", sum := "c9918eeff8a0bb7abdf6486f76a5cb64e2f7bea0fdff8cd9b21918691ef27354", func := "example.com/quorumkeep/quorumkeep/zzlaws_pkg_tree_b1.FnWatcherWithExact", spec := "fnWatcherWithExact", inPlace := ["internal/bytealg.abigen_runtime_cmpstring", "slices.overlaps[example.com/quorumkeep/quorumkeep/pkg/tree.callerWatch]"], unfollowed := true, recurses := true, apart := false }
def FnWatcherWithExactSaid : Prop := fnWatcherWithExactRow.holds Try.pinned (OpenSpec.ofChange fnWatcherWithExactSpec)

/-- ITS FALSE NEIGHBOUR: 'it returns false'. Refute it at one input. -/
def fnWatcherWithExactWrong : ChangeSpec := { name := "fnWatcherWithExact", fn := fun _ => fun
  | [d1, d2, d3, d4, d5, d6, d7, d8, d9, d10] => { results := [.lit (.bool false)], args := [d1, d2, d3, d4, d5, d6, d7, d8, d9, d10] }
  | _ => none }
def FnWatcherWithExactWrongFalsely : Prop := fnWatcherWithExactRow.holds Try.pinned (OpenSpec.ofChange fnWatcherWithExactWrong)

/-- 'zzlaws_pkg_tree_b1.FnWatcherWithOrderFree': WHATEVER THE INPUT: true; the input reads as it did. -/
def fnWatcherWithOrderFreeSpec : ChangeSpec := { name := "fnWatcherWithOrderFree", fn := fun _ => fun
  | [d1, d2, d3, d4, d5, d6, d7, d8, d9] => { results := [.lit (.bool true)], args := [d1, d2, d3, d4, d5, d6, d7, d8, d9] }
  | _ => none }
def fnWatcherWithOrderFreeRow : OpenClaim := { program := "qxb6601682a", sum := "c9918eeff8a0bb7abdf6486f76a5cb64e2f7bea0fdff8cd9b21918691ef27354", func := "example.com/quorumkeep/quorumkeep/zzlaws_pkg_tree_b1.FnWatcherWithOrderFree", spec := "fnWatcherWithOrderFree", inPlace := ["internal/bytealg.abigen_runtime_cmpstring", "slices.overlaps[example.com/quorumkeep/quorumkeep/pkg/tree.callerWatch]"], unfollowed := true, recurses := true, apart := false }
def FnWatcherWithOrderFreeSaid : Prop := fnWatcherWithOrderFreeRow.holds Try.pinned (OpenSpec.ofChange fnWatcherWithOrderFreeSpec)

/-- ITS FALSE NEIGHBOUR: 'it returns false'. Refute it at one input. -/
def fnWatcherWithOrderFreeWrong : ChangeSpec := { name := "fnWatcherWithOrderFree", fn := fun _ => fun
  | [d1, d2, d3, d4, d5, d6, d7, d8, d9] => { results := [.lit (.bool false)], args := [d1, d2, d3, d4, d5, d6, d7, d8, d9] }
  | _ => none }
def FnWatcherWithOrderFreeWrongFalsely : Prop := fnWatcherWithOrderFreeRow.holds Try.pinned (OpenSpec.ofChange fnWatcherWithOrderFreeWrong)

end Rows
end Go.Proofs.Qxb6601682a
