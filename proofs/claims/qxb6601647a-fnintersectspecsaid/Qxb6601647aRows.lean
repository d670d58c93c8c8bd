/-
  No cell of these rows narrows 'for every input' (looked for: loops, veiled, ifaces, maps, wideKeys, modest, calm, conditions, laid).
  DERIVED. THE GIVEN ROWS OF THIS SEAT. 6 by the template 'for every input the law returns true; each argument reads behind the call as it read before'; 0 by the template 'total and deterministic' (their statements: Qxb6601647aTotals.lean).
  GIVEN WITH THE SEED: the statements are not yours to turn. If you find one false, say at which input.
  Laid BY PROGRAM, IN A SANDBOX (cutbox-rows.mjs): the forced cells as the released guide's own fill.sh prints them over the translation e6e350404492f84c… (all of the seat's roots in one cut). By AI agents, Wed Nov 11 2026. No macro, syntax, notation, axiom, sorry.
-/
import Derived.Test.Qxb6601647aChecked
import GoSem.Claim
import GoSem.ClaimJoined
import GoSem.ClaimMapViews
import Derived.JoinedTies
import Derived.KernelRfl
namespace Go.Proofs.Qxb6601647a
/- THE CELL 'sum', in the pinned program and in every row, IS THE sha256 OF THE DUMP (.gsa) THAT Qxb6601647aProg.lean LOADS. Nothing in Lean hashes anything: it is a label: what it is worth is what the hold of that sum in a sandbox is worth. -/
noncomputable def Try.pinned : Pinned := { name := "qxb6601647a", sum := "e6e350404492f84cf0c2a4c1f48dcfbc8d225b19e84c1df07818d9e0c5009e1e", checked := Try.checked }
namespace Rows
def none {H : Type} : Left H := { results := [], args := [] }

/-- 'zzlaws_pkg_decision_b1.FnMatchBankSpec': WHATEVER THE INPUT: true; the input reads as it did. -/
def fnMatchBankSpecSpec : ChangeSpec := { name := "fnMatchBankSpec", fn := fun _ => fun
  | [d1, d2] => { results := [.lit (.bool true)], args := [d1, d2] }
  | _ => none }
def fnMatchBankSpecRow : OpenClaim := { program := "qxb6601647a", sum := "e6e350404492f84cf0c2a4c1f48dcfbc8d225b19e84c1df07818d9e0c5009e1e", func := "example.com/portcullis/portcullis/zzlaws_pkg_decision_b1.FnMatchBankSpec", spec := "fnMatchBankSpec", apart := false }
def FnMatchBankSpecSaid : Prop := fnMatchBankSpecRow.holds Try.pinned (OpenSpec.ofChange fnMatchBankSpecSpec)

/-- ITS FALSE NEIGHBOUR: 'it returns false'. Refute it at one input. -/
def fnMatchBankSpecWrong : ChangeSpec := { name := "fnMatchBankSpec", fn := fun _ => fun
  | [d1, d2] => { results := [.lit (.bool false)], args := [d1, d2] }
  | _ => none }
def FnMatchBankSpecWrongFalsely : Prop := fnMatchBankSpecRow.holds Try.pinned (OpenSpec.ofChange fnMatchBankSpecWrong)

/-- 'zzlaws_pkg_decision_b1.FnMatchBankSelf': WHATEVER THE INPUT: true; the input reads as it did. -/
def fnMatchBankSelfSpec : ChangeSpec := { name := "fnMatchBankSelf", fn := fun _ => fun
  | [d] => { results := [.lit (.bool true)], args := [d] }
  | _ => none }
def fnMatchBankSelfRow : OpenClaim := { program := "qxb6601647a", sum := "e6e350404492f84cf0c2a4c1f48dcfbc8d225b19e84c1df07818d9e0c5009e1e", func := "example.com/portcullis/portcullis/zzlaws_pkg_decision_b1.FnMatchBankSelf", spec := "fnMatchBankSelf", apart := false }
def FnMatchBankSelfSaid : Prop := fnMatchBankSelfRow.holds Try.pinned (OpenSpec.ofChange fnMatchBankSelfSpec)

/-- ITS FALSE NEIGHBOUR: 'it returns false'. Refute it at one input. -/
def fnMatchBankSelfWrong : ChangeSpec := { name := "fnMatchBankSelf", fn := fun _ => fun
  | [d] => { results := [.lit (.bool false)], args := [d] }
  | _ => none }
def FnMatchBankSelfWrongFalsely : Prop := fnMatchBankSelfRow.holds Try.pinned (OpenSpec.ofChange fnMatchBankSelfWrong)

/-- 'zzlaws_pkg_decision_b1.FnMatchBankExtend': WHATEVER THE INPUT: true; the input reads as it did. -/
def fnMatchBankExtendSpec : ChangeSpec := { name := "fnMatchBankExtend", fn := fun _ => fun
  | [d1, d2, d3] => { results := [.lit (.bool true)], args := [d1, d2, d3] }
  | _ => none }
def fnMatchBankExtendRow : OpenClaim := { program := "qxb6601647a", sum := "e6e350404492f84cf0c2a4c1f48dcfbc8d225b19e84c1df07818d9e0c5009e1e", func := "example.com/portcullis/portcullis/zzlaws_pkg_decision_b1.FnMatchBankExtend", spec := "fnMatchBankExtend", apart := false }
def FnMatchBankExtendSaid : Prop := fnMatchBankExtendRow.holds Try.pinned (OpenSpec.ofChange fnMatchBankExtendSpec)

/-- ITS FALSE NEIGHBOUR: 'it returns false'. Refute it at one input. -/
def fnMatchBankExtendWrong : ChangeSpec := { name := "fnMatchBankExtend", fn := fun _ => fun
  | [d1, d2, d3] => { results := [.lit (.bool false)], args := [d1, d2, d3] }
  | _ => none }
def FnMatchBankExtendWrongFalsely : Prop := fnMatchBankExtendRow.holds Try.pinned (OpenSpec.ofChange fnMatchBankExtendWrong)

/-- 'zzlaws_pkg_decision_b1.FnIntersectSpec': WHATEVER THE INPUT: true; the input reads as it did. -/
def fnIntersectSpecSpec : ChangeSpec := { name := "fnIntersectSpec", fn := fun _ => fun
  | [d1, d2] => { results := [.lit (.bool true)], args := [d1, d2] }
  | _ => none }
def fnIntersectSpecRow : OpenClaim := { program := "qxb6601647a", sum := "e6e350404492f84cf0c2a4c1f48dcfbc8d225b19e84c1df07818d9e0c5009e1e", func := "example.com/portcullis/portcullis/zzlaws_pkg_decision_b1.FnIntersectSpec", spec := "fnIntersectSpec", recurses := true, apart := false }
def FnIntersectSpecSaid : Prop := fnIntersectSpecRow.holds Try.pinned (OpenSpec.ofChange fnIntersectSpecSpec)

/-- ITS FALSE NEIGHBOUR: 'it returns false'. Refute it at one input. -/
def fnIntersectSpecWrong : ChangeSpec := { name := "fnIntersectSpec", fn := fun _ => fun
  | [d1, d2] => { results := [.lit (.bool false)], args := [d1, d2] }
  | _ => none }
def FnIntersectSpecWrongFalsely : Prop := fnIntersectSpecRow.holds Try.pinned (OpenSpec.ofChange fnIntersectSpecWrong)

/-- 'zzlaws_pkg_decision_b1.FnIntersectCommutes': WHATEVER THE INPUT: true; the input reads as it did. -/
def fnIntersectCommutesSpec : ChangeSpec := { name := "fnIntersectCommutes", fn := fun _ => fun
  | [d1, d2] => { results := [.lit (.bool true)], args := [d1, d2] }
  | _ => none }
def fnIntersectCommutesRow : OpenClaim := { program := "qxb6601647a", sum := "e6e350404492f84cf0c2a4c1f48dcfbc8d225b19e84c1df07818d9e0c5009e1e", func := "example.com/portcullis/portcullis/zzlaws_pkg_decision_b1.FnIntersectCommutes", spec := "fnIntersectCommutes", recurses := true, apart := false }
def FnIntersectCommutesSaid : Prop := fnIntersectCommutesRow.holds Try.pinned (OpenSpec.ofChange fnIntersectCommutesSpec)

/-- ITS FALSE NEIGHBOUR: 'it returns false'. Refute it at one input. -/
def fnIntersectCommutesWrong : ChangeSpec := { name := "fnIntersectCommutes", fn := fun _ => fun
  | [d1, d2] => { results := [.lit (.bool false)], args := [d1, d2] }
  | _ => none }
def FnIntersectCommutesWrongFalsely : Prop := fnIntersectCommutesRow.holds Try.pinned (OpenSpec.ofChange fnIntersectCommutesWrong)

/-- 'zzlaws_pkg_decision_b1.FnIntersectAssociative': WHATEVER THE INPUT: true; the input reads as it did. -/
def fnIntersectAssociativeSpec : ChangeSpec := { name := "fnIntersectAssociative", fn := fun _ => fun
  | [d1, d2, d3] => { results := [.lit (.bool true)], args := [d1, d2, d3] }
  | _ => none }
def fnIntersectAssociativeRow : OpenClaim := { program := "qxb6601647a", sum := "e6e350404492f84cf0c2a4c1f48dcfbc8d225b19e84c1df07818d9e0c5009e1e", func := "example.com/portcullis/portcullis/zzlaws_pkg_decision_b1.FnIntersectAssociative", spec := "fnIntersectAssociative", recurses := true, apart := false }
def FnIntersectAssociativeSaid : Prop := fnIntersectAssociativeRow.holds Try.pinned (OpenSpec.ofChange fnIntersectAssociativeSpec)

/-- ITS FALSE NEIGHBOUR: 'it returns false'. Refute it at one input. -/
def fnIntersectAssociativeWrong : ChangeSpec := { name := "fnIntersectAssociative", fn := fun _ => fun
  | [d1, d2, d3] => { results := [.lit (.bool false)], args := [d1, d2, d3] }
  | _ => none }
def FnIntersectAssociativeWrongFalsely : Prop := fnIntersectAssociativeRow.holds Try.pinned (OpenSpec.ofChange fnIntersectAssociativeWrong)

end Rows
end Go.Proofs.Qxb6601647a
