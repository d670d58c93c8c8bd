/-
  No cell of these rows narrows 'for every input' (looked for: loops, veiled, ifaces, maps, wideKeys, modest, calm, conditions, laid).
  DERIVED. THE GIVEN ROWS OF THIS SEAT. 3 by the template 'for every input the law returns true; each argument reads behind the call as it read before'; 0 by the template 'total and deterministic' (their statements: Qxb6601704aTotals.lean).
  GIVEN WITH THE SEED: the statements are not yours to turn. If you find one false, say at which input.
  Laid BY PROGRAM, IN A SANDBOX (cutbox-rows.mjs): the forced cells as the released guide's own fill.sh prints them over the translation e26b0d10fef212f0… (all of the seat's roots in one cut). By AI agents, Wed Nov 11 2026. No macro, syntax, notation, axiom, sorry.
-/
import Derived.Test.Qxb6601704aChecked
import GoSem.Claim
import GoSem.ClaimJoined
import GoSem.ClaimMapViews
import Derived.JoinedTies
import Derived.KernelRfl
namespace Go.Proofs.Qxb6601704a
/- THE CELL 'sum', in the pinned program and in every row, IS THE sha256 OF THE DUMP (.gsa) THAT Qxb6601704aProg.lean LOADS. Nothing in Lean hashes anything: it is a label: what it is worth is what the hold of that sum in a sandbox is worth. -/
noncomputable def Try.pinned : Pinned := { name := "qxb6601704a", sum := "e26b0d10fef212f00848838ffc2d772f3ffc40a489ed9fb9b02b7c214957a8f0", checked := Try.checked }
namespace Rows
def none {H : Type} : Left H := { results := [], args := [] }

/-- 'zzlaws_root_b1.FnEscapeCanonicalAndDecodesBack': WHATEVER THE INPUT: true; the input reads as it did. -/
def fnEscapeCanonicalAndDecodesBackSpec : ChangeSpec := { name := "fnEscapeCanonicalAndDecodesBack", fn := fun _ => fun
  | [d] => { results := [.lit (.bool true)], args := [d] }
  | _ => none }
def fnEscapeCanonicalAndDecodesBackRow : OpenClaim := { program := "qxb6601704a", sum := "e26b0d10fef212f00848838ffc2d772f3ffc40a489ed9fb9b02b7c214957a8f0", func := "example.com/hashward/hashward/zzlaws_root_b1.FnEscapeCanonicalAndDecodesBack", spec := "fnEscapeCanonicalAndDecodesBack", apart := false }
def FnEscapeCanonicalAndDecodesBackSaid : Prop := fnEscapeCanonicalAndDecodesBackRow.holds Try.pinned (OpenSpec.ofChange fnEscapeCanonicalAndDecodesBackSpec)

/-- ITS FALSE NEIGHBOUR: 'it returns false'. Refute it at one input. -/
def fnEscapeCanonicalAndDecodesBackWrong : ChangeSpec := { name := "fnEscapeCanonicalAndDecodesBack", fn := fun _ => fun
  | [d] => { results := [.lit (.bool false)], args := [d] }
  | _ => none }
def FnEscapeCanonicalAndDecodesBackWrongFalsely : Prop := fnEscapeCanonicalAndDecodesBackRow.holds Try.pinned (OpenSpec.ofChange fnEscapeCanonicalAndDecodesBackWrong)

/-- 'zzlaws_root_b1.FnEscapeConcatenation': WHATEVER THE INPUT: true; the input reads as it did. -/
def fnEscapeConcatenationSpec : ChangeSpec := { name := "fnEscapeConcatenation", fn := fun _ => fun
  | [d1, d2] => { results := [.lit (.bool true)], args := [d1, d2] }
  | _ => none }
def fnEscapeConcatenationRow : OpenClaim := { program := "qxb6601704a", sum := "e26b0d10fef212f00848838ffc2d772f3ffc40a489ed9fb9b02b7c214957a8f0", func := "example.com/hashward/hashward/zzlaws_root_b1.FnEscapeConcatenation", spec := "fnEscapeConcatenation", apart := false }
def FnEscapeConcatenationSaid : Prop := fnEscapeConcatenationRow.holds Try.pinned (OpenSpec.ofChange fnEscapeConcatenationSpec)

/-- ITS FALSE NEIGHBOUR: 'it returns false'. Refute it at one input. -/
def fnEscapeConcatenationWrong : ChangeSpec := { name := "fnEscapeConcatenation", fn := fun _ => fun
  | [d1, d2] => { results := [.lit (.bool false)], args := [d1, d2] }
  | _ => none }
def FnEscapeConcatenationWrongFalsely : Prop := fnEscapeConcatenationRow.holds Try.pinned (OpenSpec.ofChange fnEscapeConcatenationWrong)

/-- 'zzlaws_root_b1.FnSortPrefixesIsMergeSort': WHATEVER THE INPUT: true; the input reads as it did. -/
def fnSortPrefixesIsMergeSortSpec : ChangeSpec := { name := "fnSortPrefixesIsMergeSort", fn := fun _ => fun
  | [d1, d2] => { results := [.lit (.bool true)], args := [d1, d2] }
  | _ => none }
def fnSortPrefixesIsMergeSortRow : OpenClaim := { program := "qxb6601704a", sum := "e26b0d10fef212f00848838ffc2d772f3ffc40a489ed9fb9b02b7c214957a8f0", func := "example.com/hashward/hashward/zzlaws_root_b1.FnSortPrefixesIsMergeSort", spec := "fnSortPrefixesIsMergeSort", apart := false }
def FnSortPrefixesIsMergeSortSaid : Prop := fnSortPrefixesIsMergeSortRow.holds Try.pinned (OpenSpec.ofChange fnSortPrefixesIsMergeSortSpec)

/-- ITS FALSE NEIGHBOUR: 'it returns false'. Refute it at one input. -/
def fnSortPrefixesIsMergeSortWrong : ChangeSpec := { name := "fnSortPrefixesIsMergeSort", fn := fun _ => fun
  | [d1, d2] => { results := [.lit (.bool false)], args := [d1, d2] }
  | _ => none }
def FnSortPrefixesIsMergeSortWrongFalsely : Prop := fnSortPrefixesIsMergeSortRow.holds Try.pinned (OpenSpec.ofChange fnSortPrefixesIsMergeSortWrong)

end Rows
end Go.Proofs.Qxb6601704a
