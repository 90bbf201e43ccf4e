/-
  No cell of these rows narrows 'for every input' (looked for: loops, veiled, ifaces, maps, wideKeys, modest, calm, conditions, laid).
  DERIVED. THE GIVEN ROWS OF THIS SEAT. 5 by the template 'for every input the law returns true; each argument reads behind the call as it read before'; 0 by the template 'total and deterministic' (their statements: Qxb6601744aTotals.lean).
  GIVEN WITH THE SEED: the statements are not yours to turn. If you find one false, say at which input.
  Laid BY PROGRAM, IN A SANDBOX (cutbox-rows.mjs): the forced cells as the released guide's own fill.sh prints them over the translation 2fdc64467db2d51a… (all of the seat's roots in one cut). By AI agents, Wed Nov 11 2026. No macro, syntax, notation, axiom, sorry.
-/
import Derived.Test.Qxb6601744aChecked
import GoSem.Claim
import GoSem.ClaimJoined
import GoSem.ClaimMapViews
import Derived.JoinedTies
import Derived.KernelRfl
namespace Go.Proofs.Qxb6601744a
/- THE CELL 'sum', in the pinned program and in every row, IS THE sha256 OF THE DUMP (.gsa) THAT Qxb6601744aProg.lean LOADS. Nothing in Lean hashes anything: it is a label: what it is worth is what the hold of that sum in a sandbox is worth. -/
noncomputable def Try.pinned : Pinned := { name := "qxb6601744a", sum := "2fdc64467db2d51a47a0e069728e2073a7a9765a94fc0aef69a559b9b6222cb6", checked := Try.checked }
namespace Rows
def none {H : Type} : Left H := { results := [], args := [] }

/-- 'zzlaws_internal_figure_b1.FnAbsMatchesBranchFreeModel': WHATEVER THE INPUT: true; the input reads as it did. -/
def fnAbsMatchesBranchFreeModelSpec : ChangeSpec := { name := "fnAbsMatchesBranchFreeModel", fn := fun _ => fun
  | [d] => { results := [.lit (.bool true)], args := [d] }
  | _ => none }
def fnAbsMatchesBranchFreeModelRow : OpenClaim := { program := "qxb6601744a", sum := "2fdc64467db2d51a47a0e069728e2073a7a9765a94fc0aef69a559b9b6222cb6", func := "example.com/zhaoshu/zhaoshu/zzlaws_internal_figure_b1.FnAbsMatchesBranchFreeModel", spec := "fnAbsMatchesBranchFreeModel", apart := false }
def FnAbsMatchesBranchFreeModelSaid : Prop := fnAbsMatchesBranchFreeModelRow.holds Try.pinned (OpenSpec.ofChange fnAbsMatchesBranchFreeModelSpec)

/-- ITS FALSE NEIGHBOUR: 'it returns false'. Refute it at one input. -/
def fnAbsMatchesBranchFreeModelWrong : ChangeSpec := { name := "fnAbsMatchesBranchFreeModel", fn := fun _ => fun
  | [d] => { results := [.lit (.bool false)], args := [d] }
  | _ => none }
def FnAbsMatchesBranchFreeModelWrongFalsely : Prop := fnAbsMatchesBranchFreeModelRow.holds Try.pinned (OpenSpec.ofChange fnAbsMatchesBranchFreeModelWrong)

/-- 'zzlaws_internal_figure_b1.FnAbsBoundZeroAndSymmetry': WHATEVER THE INPUT: true; the input reads as it did. -/
def fnAbsBoundZeroAndSymmetrySpec : ChangeSpec := { name := "fnAbsBoundZeroAndSymmetry", fn := fun _ => fun
  | [d] => { results := [.lit (.bool true)], args := [d] }
  | _ => none }
def fnAbsBoundZeroAndSymmetryRow : OpenClaim := { program := "qxb6601744a", sum := "2fdc64467db2d51a47a0e069728e2073a7a9765a94fc0aef69a559b9b6222cb6", func := "example.com/zhaoshu/zhaoshu/zzlaws_internal_figure_b1.FnAbsBoundZeroAndSymmetry", spec := "fnAbsBoundZeroAndSymmetry", apart := false }
def FnAbsBoundZeroAndSymmetrySaid : Prop := fnAbsBoundZeroAndSymmetryRow.holds Try.pinned (OpenSpec.ofChange fnAbsBoundZeroAndSymmetrySpec)

/-- ITS FALSE NEIGHBOUR: 'it returns false'. Refute it at one input. -/
def fnAbsBoundZeroAndSymmetryWrong : ChangeSpec := { name := "fnAbsBoundZeroAndSymmetry", fn := fun _ => fun
  | [d] => { results := [.lit (.bool false)], args := [d] }
  | _ => none }
def FnAbsBoundZeroAndSymmetryWrongFalsely : Prop := fnAbsBoundZeroAndSymmetryRow.holds Try.pinned (OpenSpec.ofChange fnAbsBoundZeroAndSymmetryWrong)

/-- 'zzlaws_internal_figure_b1.FnAbsMonotoneOnEachSide': WHATEVER THE INPUT: true; the input reads as it did. -/
def fnAbsMonotoneOnEachSideSpec : ChangeSpec := { name := "fnAbsMonotoneOnEachSide", fn := fun _ => fun
  | [d1, d2] => { results := [.lit (.bool true)], args := [d1, d2] }
  | _ => none }
def fnAbsMonotoneOnEachSideRow : OpenClaim := { program := "qxb6601744a", sum := "2fdc64467db2d51a47a0e069728e2073a7a9765a94fc0aef69a559b9b6222cb6", func := "example.com/zhaoshu/zhaoshu/zzlaws_internal_figure_b1.FnAbsMonotoneOnEachSide", spec := "fnAbsMonotoneOnEachSide", apart := false }
def FnAbsMonotoneOnEachSideSaid : Prop := fnAbsMonotoneOnEachSideRow.holds Try.pinned (OpenSpec.ofChange fnAbsMonotoneOnEachSideSpec)

/-- ITS FALSE NEIGHBOUR: 'it returns false'. Refute it at one input. -/
def fnAbsMonotoneOnEachSideWrong : ChangeSpec := { name := "fnAbsMonotoneOnEachSide", fn := fun _ => fun
  | [d1, d2] => { results := [.lit (.bool false)], args := [d1, d2] }
  | _ => none }
def FnAbsMonotoneOnEachSideWrongFalsely : Prop := fnAbsMonotoneOnEachSideRow.holds Try.pinned (OpenSpec.ofChange fnAbsMonotoneOnEachSideWrong)

/-- 'zzlaws_internal_figure_b1.FnSignedAbsRoundTrip': WHATEVER THE INPUT: true; the input reads as it did. -/
def fnSignedAbsRoundTripSpec : ChangeSpec := { name := "fnSignedAbsRoundTrip", fn := fun _ => fun
  | [d] => { results := [.lit (.bool true)], args := [d] }
  | _ => none }
def fnSignedAbsRoundTripRow : OpenClaim := { program := "qxb6601744a", sum := "2fdc64467db2d51a47a0e069728e2073a7a9765a94fc0aef69a559b9b6222cb6", func := "example.com/zhaoshu/zhaoshu/zzlaws_internal_figure_b1.FnSignedAbsRoundTrip", spec := "fnSignedAbsRoundTrip", apart := false }
def FnSignedAbsRoundTripSaid : Prop := fnSignedAbsRoundTripRow.holds Try.pinned (OpenSpec.ofChange fnSignedAbsRoundTripSpec)

/-- ITS FALSE NEIGHBOUR: 'it returns false'. Refute it at one input. -/
def fnSignedAbsRoundTripWrong : ChangeSpec := { name := "fnSignedAbsRoundTrip", fn := fun _ => fun
  | [d] => { results := [.lit (.bool false)], args := [d] }
  | _ => none }
def FnSignedAbsRoundTripWrongFalsely : Prop := fnSignedAbsRoundTripRow.holds Try.pinned (OpenSpec.ofChange fnSignedAbsRoundTripWrong)

/-- 'zzlaws_internal_figure_b1.FnSignedInvertedByAbs': WHATEVER THE INPUT: true; the input reads as it did. -/
def fnSignedInvertedByAbsSpec : ChangeSpec := { name := "fnSignedInvertedByAbs", fn := fun _ => fun
  | [d1, d2] => { results := [.lit (.bool true)], args := [d1, d2] }
  | _ => none }
def fnSignedInvertedByAbsRow : OpenClaim := { program := "qxb6601744a", sum := "2fdc64467db2d51a47a0e069728e2073a7a9765a94fc0aef69a559b9b6222cb6", func := "example.com/zhaoshu/zhaoshu/zzlaws_internal_figure_b1.FnSignedInvertedByAbs", spec := "fnSignedInvertedByAbs", apart := false }
def FnSignedInvertedByAbsSaid : Prop := fnSignedInvertedByAbsRow.holds Try.pinned (OpenSpec.ofChange fnSignedInvertedByAbsSpec)

/-- ITS FALSE NEIGHBOUR: 'it returns false'. Refute it at one input. -/
def fnSignedInvertedByAbsWrong : ChangeSpec := { name := "fnSignedInvertedByAbs", fn := fun _ => fun
  | [d1, d2] => { results := [.lit (.bool false)], args := [d1, d2] }
  | _ => none }
def FnSignedInvertedByAbsWrongFalsely : Prop := fnSignedInvertedByAbsRow.holds Try.pinned (OpenSpec.ofChange fnSignedInvertedByAbsWrong)

end Rows
end Go.Proofs.Qxb6601744a
