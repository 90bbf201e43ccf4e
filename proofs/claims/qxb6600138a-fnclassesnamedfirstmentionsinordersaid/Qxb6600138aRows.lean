/-
  No cell of these rows narrows 'for every input' (looked for: loops, veiled, ifaces, maps, wideKeys, modest, calm, conditions, laid).
  DERIVED. THE GIVEN ROWS OF THIS SEAT. 8 by the template 'for every input the law returns true; each argument reads behind the call as it read before'; 0 by the template 'total and deterministic' (their statements: Qxb6600138aTotals.lean).
  GIVEN WITH THE SEED: the statements are not yours to turn. If you find one false, say at which input.
  Laid BY PROGRAM, IN A SANDBOX (cutbox-rows.mjs): the forced cells as the released guide's own fill.sh prints them over the translation 7af291e91ed1d83e… (all of the seat's roots in one cut). By AI agents, Wed Nov 11 2026. No macro, syntax, notation, axiom, sorry.
-/
import Derived.Test.Qxb6600138aChecked
import GoSem.Claim
import GoSem.ClaimJoined
import GoSem.ClaimMapViews
import Derived.JoinedTies
import Derived.KernelRfl
namespace Go.Proofs.Qxb6600138a
/- THE CELL 'sum', in the pinned program and in every row, IS THE sha256 OF THE DUMP (.gsa) THAT Qxb6600138aProg.lean LOADS. Nothing in Lean hashes anything: it is a label: what it is worth is what the hold of that sum in a sandbox is worth. -/
noncomputable def Try.pinned : Pinned := { name := "qxb6600138a", sum := "7af291e91ed1d83e104c93edaf59b5c9944df60a0e62c92f1788d0e96f09ebc0", checked := Try.checked }
namespace Rows
def none {H : Type} : Left H := { results := [], args := [] }

/-- 'zzlaws_root_b1.FnGB18030DecodesDocumentedAreasExactly': WHATEVER THE INPUT: true; the input reads as it did. -/
def fnGB18030DecodesDocumentedAreasExactlySpec : ChangeSpec := { name := "fnGB18030DecodesDocumentedAreasExactly", fn := fun _ => fun
  | [d1, d2] => { results := [.lit (.bool true)], args := [d1, d2] }
  | _ => none }
def fnGB18030DecodesDocumentedAreasExactlyRow : OpenClaim := { program := "qxb6600138a", sum := "7af291e91ed1d83e104c93edaf59b5c9944df60a0e62c92f1788d0e96f09ebc0", func := "example.com/zhaomu/zhaomu/zzlaws_root_b1.FnGB18030DecodesDocumentedAreasExactly", spec := "fnGB18030DecodesDocumentedAreasExactly", apart := false }
def FnGB18030DecodesDocumentedAreasExactlySaid : Prop := fnGB18030DecodesDocumentedAreasExactlyRow.holds Try.pinned (OpenSpec.ofChange fnGB18030DecodesDocumentedAreasExactlySpec)

/-- ITS FALSE NEIGHBOUR: 'it returns false'. Refute it at one input. -/
def fnGB18030DecodesDocumentedAreasExactlyWrong : ChangeSpec := { name := "fnGB18030DecodesDocumentedAreasExactly", fn := fun _ => fun
  | [d1, d2] => { results := [.lit (.bool false)], args := [d1, d2] }
  | _ => none }
def FnGB18030DecodesDocumentedAreasExactlyWrongFalsely : Prop := fnGB18030DecodesDocumentedAreasExactlyRow.holds Try.pinned (OpenSpec.ofChange fnGB18030DecodesDocumentedAreasExactlyWrong)

/-- 'zzlaws_root_b1.FnGB18030ReachesEveryUserDefinedRune': WHATEVER THE INPUT: true; the input reads as it did. -/
def fnGB18030ReachesEveryUserDefinedRuneSpec : ChangeSpec := { name := "fnGB18030ReachesEveryUserDefinedRune", fn := fun _ => fun
  | [d] => { results := [.lit (.bool true)], args := [d] }
  | _ => none }
def fnGB18030ReachesEveryUserDefinedRuneRow : OpenClaim := { program := "qxb6600138a", sum := "7af291e91ed1d83e104c93edaf59b5c9944df60a0e62c92f1788d0e96f09ebc0", func := "example.com/zhaomu/zhaomu/zzlaws_root_b1.FnGB18030ReachesEveryUserDefinedRune", spec := "fnGB18030ReachesEveryUserDefinedRune", apart := false }
def FnGB18030ReachesEveryUserDefinedRuneSaid : Prop := fnGB18030ReachesEveryUserDefinedRuneRow.holds Try.pinned (OpenSpec.ofChange fnGB18030ReachesEveryUserDefinedRuneSpec)

/-- ITS FALSE NEIGHBOUR: 'it returns false'. Refute it at one input. -/
def fnGB18030ReachesEveryUserDefinedRuneWrong : ChangeSpec := { name := "fnGB18030ReachesEveryUserDefinedRune", fn := fun _ => fun
  | [d] => { results := [.lit (.bool false)], args := [d] }
  | _ => none }
def FnGB18030ReachesEveryUserDefinedRuneWrongFalsely : Prop := fnGB18030ReachesEveryUserDefinedRuneRow.holds Try.pinned (OpenSpec.ofChange fnGB18030ReachesEveryUserDefinedRuneWrong)

/-- 'zzlaws_root_b1.FnGB18030AnswersOnlyPrivateUseOfTwoBytes': WHATEVER THE INPUT: true; the input reads as it did. -/
def fnGB18030AnswersOnlyPrivateUseOfTwoBytesSpec : ChangeSpec := { name := "fnGB18030AnswersOnlyPrivateUseOfTwoBytes", fn := fun _ => fun
  | [d] => { results := [.lit (.bool true)], args := [d] }
  | _ => none }
def fnGB18030AnswersOnlyPrivateUseOfTwoBytesRow : OpenClaim := { program := "qxb6600138a", sum := "7af291e91ed1d83e104c93edaf59b5c9944df60a0e62c92f1788d0e96f09ebc0", func := "example.com/zhaomu/zhaomu/zzlaws_root_b1.FnGB18030AnswersOnlyPrivateUseOfTwoBytes", spec := "fnGB18030AnswersOnlyPrivateUseOfTwoBytes", apart := false }
def FnGB18030AnswersOnlyPrivateUseOfTwoBytesSaid : Prop := fnGB18030AnswersOnlyPrivateUseOfTwoBytesRow.holds Try.pinned (OpenSpec.ofChange fnGB18030AnswersOnlyPrivateUseOfTwoBytesSpec)

/-- ITS FALSE NEIGHBOUR: 'it returns false'. Refute it at one input. -/
def fnGB18030AnswersOnlyPrivateUseOfTwoBytesWrong : ChangeSpec := { name := "fnGB18030AnswersOnlyPrivateUseOfTwoBytes", fn := fun _ => fun
  | [d] => { results := [.lit (.bool false)], args := [d] }
  | _ => none }
def FnGB18030AnswersOnlyPrivateUseOfTwoBytesWrongFalsely : Prop := fnGB18030AnswersOnlyPrivateUseOfTwoBytesRow.holds Try.pinned (OpenSpec.ofChange fnGB18030AnswersOnlyPrivateUseOfTwoBytesWrong)

/-- 'zzlaws_root_b1.FnEachClassRefersToEachInTurn': WHATEVER THE INPUT: true; the input reads as it did. -/
def fnEachClassRefersToEachInTurnSpec : ChangeSpec := { name := "fnEachClassRefersToEachInTurn", fn := fun _ => fun
  | [d] => { results := [.lit (.bool true)], args := [d] }
  | _ => none }
def fnEachClassRefersToEachInTurnRow : OpenClaim := { program := "qxb6600138a", sum := "7af291e91ed1d83e104c93edaf59b5c9944df60a0e62c92f1788d0e96f09ebc0", func := "example.com/zhaomu/zhaomu/zzlaws_root_b1.FnEachClassRefersToEachInTurn", spec := "fnEachClassRefersToEachInTurn", apart := false }
def FnEachClassRefersToEachInTurnSaid : Prop := fnEachClassRefersToEachInTurnRow.holds Try.pinned (OpenSpec.ofChange fnEachClassRefersToEachInTurnSpec)

/-- ITS FALSE NEIGHBOUR: 'it returns false'. Refute it at one input. -/
def fnEachClassRefersToEachInTurnWrong : ChangeSpec := { name := "fnEachClassRefersToEachInTurn", fn := fun _ => fun
  | [d] => { results := [.lit (.bool false)], args := [d] }
  | _ => none }
def FnEachClassRefersToEachInTurnWrongFalsely : Prop := fnEachClassRefersToEachInTurnRow.holds Try.pinned (OpenSpec.ofChange fnEachClassRefersToEachInTurnWrong)

/-- 'zzlaws_root_b1.FnEachClassReferencesAreCellsOfTheirOwn': WHATEVER THE INPUT: true; the input reads as it did. -/
def fnEachClassReferencesAreCellsOfTheirOwnSpec : ChangeSpec := { name := "fnEachClassReferencesAreCellsOfTheirOwn", fn := fun _ => fun
  | [d] => { results := [.lit (.bool true)], args := [d] }
  | _ => none }
def fnEachClassReferencesAreCellsOfTheirOwnRow : OpenClaim := { program := "qxb6600138a", sum := "7af291e91ed1d83e104c93edaf59b5c9944df60a0e62c92f1788d0e96f09ebc0", func := "example.com/zhaomu/zhaomu/zzlaws_root_b1.FnEachClassReferencesAreCellsOfTheirOwn", spec := "fnEachClassReferencesAreCellsOfTheirOwn", apart := false }
def FnEachClassReferencesAreCellsOfTheirOwnSaid : Prop := fnEachClassReferencesAreCellsOfTheirOwnRow.holds Try.pinned (OpenSpec.ofChange fnEachClassReferencesAreCellsOfTheirOwnSpec)

/-- ITS FALSE NEIGHBOUR: 'it returns false'. Refute it at one input. -/
def fnEachClassReferencesAreCellsOfTheirOwnWrong : ChangeSpec := { name := "fnEachClassReferencesAreCellsOfTheirOwn", fn := fun _ => fun
  | [d] => { results := [.lit (.bool false)], args := [d] }
  | _ => none }
def FnEachClassReferencesAreCellsOfTheirOwnWrongFalsely : Prop := fnEachClassReferencesAreCellsOfTheirOwnRow.holds Try.pinned (OpenSpec.ofChange fnEachClassReferencesAreCellsOfTheirOwnWrong)

/-- 'zzlaws_root_b1.FnClassesNamedFirstMentionsInOrder': WHATEVER THE INPUT: true; the input reads as it did. -/
def fnClassesNamedFirstMentionsInOrderSpec : ChangeSpec := { name := "fnClassesNamedFirstMentionsInOrder", fn := fun _ => fun
  | [d1, d2] => { results := [.lit (.bool true)], args := [d1, d2] }
  | _ => none }
def fnClassesNamedFirstMentionsInOrderRow : OpenClaim := { program := "qxb6600138a", sum := "7af291e91ed1d83e104c93edaf59b5c9944df60a0e62c92f1788d0e96f09ebc0", func := "example.com/zhaomu/zhaomu/zzlaws_root_b1.FnClassesNamedFirstMentionsInOrder", spec := "fnClassesNamedFirstMentionsInOrder", apart := false }
def FnClassesNamedFirstMentionsInOrderSaid : Prop := fnClassesNamedFirstMentionsInOrderRow.holds Try.pinned (OpenSpec.ofChange fnClassesNamedFirstMentionsInOrderSpec)

/-- ITS FALSE NEIGHBOUR: 'it returns false'. Refute it at one input. -/
def fnClassesNamedFirstMentionsInOrderWrong : ChangeSpec := { name := "fnClassesNamedFirstMentionsInOrder", fn := fun _ => fun
  | [d1, d2] => { results := [.lit (.bool false)], args := [d1, d2] }
  | _ => none }
def FnClassesNamedFirstMentionsInOrderWrongFalsely : Prop := fnClassesNamedFirstMentionsInOrderRow.holds Try.pinned (OpenSpec.ofChange fnClassesNamedFirstMentionsInOrderWrong)

/-- 'zzlaws_root_b1.FnClassesNamedIgnoresRepeatedMentions': WHATEVER THE INPUT: true; the input reads as it did. -/
def fnClassesNamedIgnoresRepeatedMentionsSpec : ChangeSpec := { name := "fnClassesNamedIgnoresRepeatedMentions", fn := fun _ => fun
  | [d1, d2] => { results := [.lit (.bool true)], args := [d1, d2] }
  | _ => none }
def fnClassesNamedIgnoresRepeatedMentionsRow : OpenClaim := { program := "qxb6600138a", sum := "7af291e91ed1d83e104c93edaf59b5c9944df60a0e62c92f1788d0e96f09ebc0", func := "example.com/zhaomu/zhaomu/zzlaws_root_b1.FnClassesNamedIgnoresRepeatedMentions", spec := "fnClassesNamedIgnoresRepeatedMentions", apart := false }
def FnClassesNamedIgnoresRepeatedMentionsSaid : Prop := fnClassesNamedIgnoresRepeatedMentionsRow.holds Try.pinned (OpenSpec.ofChange fnClassesNamedIgnoresRepeatedMentionsSpec)

/-- ITS FALSE NEIGHBOUR: 'it returns false'. Refute it at one input. -/
def fnClassesNamedIgnoresRepeatedMentionsWrong : ChangeSpec := { name := "fnClassesNamedIgnoresRepeatedMentions", fn := fun _ => fun
  | [d1, d2] => { results := [.lit (.bool false)], args := [d1, d2] }
  | _ => none }
def FnClassesNamedIgnoresRepeatedMentionsWrongFalsely : Prop := fnClassesNamedIgnoresRepeatedMentionsRow.holds Try.pinned (OpenSpec.ofChange fnClassesNamedIgnoresRepeatedMentionsWrong)

/-- 'zzlaws_root_b1.FnClassesNamedGrowsByPrefix': WHATEVER THE INPUT: true; the input reads as it did. -/
def fnClassesNamedGrowsByPrefixSpec : ChangeSpec := { name := "fnClassesNamedGrowsByPrefix", fn := fun _ => fun
  | [d1, d2, d3] => { results := [.lit (.bool true)], args := [d1, d2, d3] }
  | _ => none }
def fnClassesNamedGrowsByPrefixRow : OpenClaim := { program := "qxb6600138a", sum := "7af291e91ed1d83e104c93edaf59b5c9944df60a0e62c92f1788d0e96f09ebc0", func := "example.com/zhaomu/zhaomu/zzlaws_root_b1.FnClassesNamedGrowsByPrefix", spec := "fnClassesNamedGrowsByPrefix", apart := false }
def FnClassesNamedGrowsByPrefixSaid : Prop := fnClassesNamedGrowsByPrefixRow.holds Try.pinned (OpenSpec.ofChange fnClassesNamedGrowsByPrefixSpec)

/-- ITS FALSE NEIGHBOUR: 'it returns false'. Refute it at one input. -/
def fnClassesNamedGrowsByPrefixWrong : ChangeSpec := { name := "fnClassesNamedGrowsByPrefix", fn := fun _ => fun
  | [d1, d2, d3] => { results := [.lit (.bool false)], args := [d1, d2, d3] }
  | _ => none }
def FnClassesNamedGrowsByPrefixWrongFalsely : Prop := fnClassesNamedGrowsByPrefixRow.holds Try.pinned (OpenSpec.ofChange fnClassesNamedGrowsByPrefixWrong)

end Rows
end Go.Proofs.Qxb6600138a
