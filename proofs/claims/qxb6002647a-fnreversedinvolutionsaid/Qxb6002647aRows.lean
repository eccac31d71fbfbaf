/-
  No cell of these rows narrows 'for every input' (looked for: loops, veiled, ifaces, maps, wideKeys, modest, calm, conditions, laid).
  DERIVED. THE GIVEN ROWS OF THIS SEAT. 8 by the template 'for every input the law returns true; each argument reads behind the call as it read before'; 0 by the template 'total and deterministic' (their statements: Qxb6002647aTotals.lean).
  GIVEN WITH THE SEED: the statements are not yours to turn. If you find one false, say at which input.
  Laid BY PROGRAM, IN A SANDBOX (cutbox-rows.mjs): the forced cells as the released guide's own fill.sh prints them over the translation aa5fe00f94832b6f… (all of the seat's roots in one cut). By AI agents, Wed Nov 11 2026. No macro, syntax, notation, axiom, sorry.
-/
import Derived.Test.Qxb6002647aChecked
import GoSem.Claim
import GoSem.ClaimJoined
import GoSem.ClaimMapViews
import Derived.JoinedTies
import Derived.KernelRfl
namespace Go.Proofs.Qxb6002647a
/- THE CELL 'sum', in the pinned program and in every row, IS THE sha256 OF THE DUMP (.gsa) THAT Qxb6002647aProg.lean LOADS. Nothing in Lean hashes anything: it is a label: what it is worth is what the hold of that sum in a sandbox is worth. -/
noncomputable def Try.pinned : Pinned := { name := "qxb6002647a", sum := "aa5fe00f94832b6feabba98e3b97e5acaa2de9efb5007b1a58d90434bba07ba7", checked := Try.checked }
namespace Rows
def none {H : Type} : Left H := { results := [], args := [] }

/-- 'zzlaws_root_b1.FnReversedInvolution': WHATEVER THE INPUT: true; the input reads as it did. -/
def fnReversedInvolutionSpec : ChangeSpec := { name := "fnReversedInvolution", fn := fun _ => fun
  | [d] => { results := [.lit (.bool true)], args := [d] }
  | _ => none }
def fnReversedInvolutionRow : OpenClaim := { program := "qxb6002647a", sum := "aa5fe00f94832b6feabba98e3b97e5acaa2de9efb5007b1a58d90434bba07ba7", func := "example.com/sigilmesh/sigilmesh/zzlaws_root_b1.FnReversedInvolution", spec := "fnReversedInvolution", apart := false }
def FnReversedInvolutionSaid : Prop := fnReversedInvolutionRow.holds Try.pinned (OpenSpec.ofChange fnReversedInvolutionSpec)

/-- ITS FALSE NEIGHBOUR: 'it returns false'. Refute it at one input. -/
def fnReversedInvolutionWrong : ChangeSpec := { name := "fnReversedInvolution", fn := fun _ => fun
  | [d] => { results := [.lit (.bool false)], args := [d] }
  | _ => none }
def FnReversedInvolutionWrongFalsely : Prop := fnReversedInvolutionRow.holds Try.pinned (OpenSpec.ofChange fnReversedInvolutionWrong)

/-- 'zzlaws_root_b1.FnReversedReversesConcatenation': WHATEVER THE INPUT: true; the input reads as it did. -/
def fnReversedReversesConcatenationSpec : ChangeSpec := { name := "fnReversedReversesConcatenation", fn := fun _ => fun
  | [d1, d2] => { results := [.lit (.bool true)], args := [d1, d2] }
  | _ => none }
def fnReversedReversesConcatenationRow : OpenClaim := { program := "qxb6002647a", sum := "aa5fe00f94832b6feabba98e3b97e5acaa2de9efb5007b1a58d90434bba07ba7", func := "example.com/sigilmesh/sigilmesh/zzlaws_root_b1.FnReversedReversesConcatenation", spec := "fnReversedReversesConcatenation", apart := false }
def FnReversedReversesConcatenationSaid : Prop := fnReversedReversesConcatenationRow.holds Try.pinned (OpenSpec.ofChange fnReversedReversesConcatenationSpec)

/-- ITS FALSE NEIGHBOUR: 'it returns false'. Refute it at one input. -/
def fnReversedReversesConcatenationWrong : ChangeSpec := { name := "fnReversedReversesConcatenation", fn := fun _ => fun
  | [d1, d2] => { results := [.lit (.bool false)], args := [d1, d2] }
  | _ => none }
def FnReversedReversesConcatenationWrongFalsely : Prop := fnReversedReversesConcatenationRow.holds Try.pinned (OpenSpec.ofChange fnReversedReversesConcatenationWrong)

/-- 'zzlaws_root_b1.FnReversedReturnsFreshCopy': WHATEVER THE INPUT: true; the input reads as it did. -/
def fnReversedReturnsFreshCopySpec : ChangeSpec := { name := "fnReversedReturnsFreshCopy", fn := fun _ => fun
  | [d] => { results := [.lit (.bool true)], args := [d] }
  | _ => none }
def fnReversedReturnsFreshCopyRow : OpenClaim := { program := "qxb6002647a", sum := "aa5fe00f94832b6feabba98e3b97e5acaa2de9efb5007b1a58d90434bba07ba7", func := "example.com/sigilmesh/sigilmesh/zzlaws_root_b1.FnReversedReturnsFreshCopy", spec := "fnReversedReturnsFreshCopy", apart := false }
def FnReversedReturnsFreshCopySaid : Prop := fnReversedReturnsFreshCopyRow.holds Try.pinned (OpenSpec.ofChange fnReversedReturnsFreshCopySpec)

/-- ITS FALSE NEIGHBOUR: 'it returns false'. Refute it at one input. -/
def fnReversedReturnsFreshCopyWrong : ChangeSpec := { name := "fnReversedReturnsFreshCopy", fn := fun _ => fun
  | [d] => { results := [.lit (.bool false)], args := [d] }
  | _ => none }
def FnReversedReturnsFreshCopyWrongFalsely : Prop := fnReversedReturnsFreshCopyRow.holds Try.pinned (OpenSpec.ofChange fnReversedReturnsFreshCopyWrong)

/-- 'zzlaws_root_b1.FnTokenLifeBoundsAndSubscribeLongest': WHATEVER THE INPUT: true; the input reads as it did. -/
def fnTokenLifeBoundsAndSubscribeLongestSpec : ChangeSpec := { name := "fnTokenLifeBoundsAndSubscribeLongest", fn := fun _ => fun
  | [d] => { results := [.lit (.bool true)], args := [d] }
  | _ => none }
def fnTokenLifeBoundsAndSubscribeLongestRow : OpenClaim := { program := "qxb6002647a", sum := "aa5fe00f94832b6feabba98e3b97e5acaa2de9efb5007b1a58d90434bba07ba7", func := "example.com/sigilmesh/sigilmesh/zzlaws_root_b1.FnTokenLifeBoundsAndSubscribeLongest", spec := "fnTokenLifeBoundsAndSubscribeLongest", apart := false }
def FnTokenLifeBoundsAndSubscribeLongestSaid : Prop := fnTokenLifeBoundsAndSubscribeLongestRow.holds Try.pinned (OpenSpec.ofChange fnTokenLifeBoundsAndSubscribeLongestSpec)

/-- ITS FALSE NEIGHBOUR: 'it returns false'. Refute it at one input. -/
def fnTokenLifeBoundsAndSubscribeLongestWrong : ChangeSpec := { name := "fnTokenLifeBoundsAndSubscribeLongest", fn := fun _ => fun
  | [d] => { results := [.lit (.bool false)], args := [d] }
  | _ => none }
def FnTokenLifeBoundsAndSubscribeLongestWrongFalsely : Prop := fnTokenLifeBoundsAndSubscribeLongestRow.holds Try.pinned (OpenSpec.ofChange fnTokenLifeBoundsAndSubscribeLongestWrong)

/-- 'zzlaws_root_b1.FnTokenLifeSameForEveryOtherType': WHATEVER THE INPUT: true; the input reads as it did. -/
def fnTokenLifeSameForEveryOtherTypeSpec : ChangeSpec := { name := "fnTokenLifeSameForEveryOtherType", fn := fun _ => fun
  | [d1, d2] => { results := [.lit (.bool true)], args := [d1, d2] }
  | _ => none }
def fnTokenLifeSameForEveryOtherTypeRow : OpenClaim := { program := "qxb6002647a", sum := "aa5fe00f94832b6feabba98e3b97e5acaa2de9efb5007b1a58d90434bba07ba7", func := "example.com/sigilmesh/sigilmesh/zzlaws_root_b1.FnTokenLifeSameForEveryOtherType", spec := "fnTokenLifeSameForEveryOtherType", apart := false }
def FnTokenLifeSameForEveryOtherTypeSaid : Prop := fnTokenLifeSameForEveryOtherTypeRow.holds Try.pinned (OpenSpec.ofChange fnTokenLifeSameForEveryOtherTypeSpec)

/-- ITS FALSE NEIGHBOUR: 'it returns false'. Refute it at one input. -/
def fnTokenLifeSameForEveryOtherTypeWrong : ChangeSpec := { name := "fnTokenLifeSameForEveryOtherType", fn := fun _ => fun
  | [d1, d2] => { results := [.lit (.bool false)], args := [d1, d2] }
  | _ => none }
def FnTokenLifeSameForEveryOtherTypeWrongFalsely : Prop := fnTokenLifeSameForEveryOtherTypeRow.holds Try.pinned (OpenSpec.ofChange fnTokenLifeSameForEveryOtherTypeWrong)

/-- 'zzlaws_root_b1.FnOnTimeMatchesWindowModel': WHATEVER THE INPUT: true; the input reads as it did. -/
def fnOnTimeMatchesWindowModelSpec : ChangeSpec := { name := "fnOnTimeMatchesWindowModel", fn := fun _ => fun
  | [d1, d2] => { results := [.lit (.bool true)], args := [d1, d2] }
  | _ => none }
def fnOnTimeMatchesWindowModelRow : OpenClaim := { program := "qxb6002647a", sum := "aa5fe00f94832b6feabba98e3b97e5acaa2de9efb5007b1a58d90434bba07ba7", func := "example.com/sigilmesh/sigilmesh/zzlaws_root_b1.FnOnTimeMatchesWindowModel", spec := "fnOnTimeMatchesWindowModel", apart := false }
def FnOnTimeMatchesWindowModelSaid : Prop := fnOnTimeMatchesWindowModelRow.holds Try.pinned (OpenSpec.ofChange fnOnTimeMatchesWindowModelSpec)

/-- ITS FALSE NEIGHBOUR: 'it returns false'. Refute it at one input. -/
def fnOnTimeMatchesWindowModelWrong : ChangeSpec := { name := "fnOnTimeMatchesWindowModel", fn := fun _ => fun
  | [d1, d2] => { results := [.lit (.bool false)], args := [d1, d2] }
  | _ => none }
def FnOnTimeMatchesWindowModelWrongFalsely : Prop := fnOnTimeMatchesWindowModelRow.holds Try.pinned (OpenSpec.ofChange fnOnTimeMatchesWindowModelWrong)

/-- 'zzlaws_root_b1.FnOnTimeSymmetricAndReflexive': WHATEVER THE INPUT: true; the input reads as it did. -/
def fnOnTimeSymmetricAndReflexiveSpec : ChangeSpec := { name := "fnOnTimeSymmetricAndReflexive", fn := fun _ => fun
  | [d1, d2] => { results := [.lit (.bool true)], args := [d1, d2] }
  | _ => none }
def fnOnTimeSymmetricAndReflexiveRow : OpenClaim := { program := "qxb6002647a", sum := "aa5fe00f94832b6feabba98e3b97e5acaa2de9efb5007b1a58d90434bba07ba7", func := "example.com/sigilmesh/sigilmesh/zzlaws_root_b1.FnOnTimeSymmetricAndReflexive", spec := "fnOnTimeSymmetricAndReflexive", apart := false }
def FnOnTimeSymmetricAndReflexiveSaid : Prop := fnOnTimeSymmetricAndReflexiveRow.holds Try.pinned (OpenSpec.ofChange fnOnTimeSymmetricAndReflexiveSpec)

/-- ITS FALSE NEIGHBOUR: 'it returns false'. Refute it at one input. -/
def fnOnTimeSymmetricAndReflexiveWrong : ChangeSpec := { name := "fnOnTimeSymmetricAndReflexive", fn := fun _ => fun
  | [d1, d2] => { results := [.lit (.bool false)], args := [d1, d2] }
  | _ => none }
def FnOnTimeSymmetricAndReflexiveWrongFalsely : Prop := fnOnTimeSymmetricAndReflexiveRow.holds Try.pinned (OpenSpec.ofChange fnOnTimeSymmetricAndReflexiveWrong)

/-- 'zzlaws_root_b1.FnOnTimeShiftInvariant': WHATEVER THE INPUT: true; the input reads as it did. -/
def fnOnTimeShiftInvariantSpec : ChangeSpec := { name := "fnOnTimeShiftInvariant", fn := fun _ => fun
  | [d1, d2, d3] => { results := [.lit (.bool true)], args := [d1, d2, d3] }
  | _ => none }
def fnOnTimeShiftInvariantRow : OpenClaim := { program := "qxb6002647a", sum := "aa5fe00f94832b6feabba98e3b97e5acaa2de9efb5007b1a58d90434bba07ba7", func := "example.com/sigilmesh/sigilmesh/zzlaws_root_b1.FnOnTimeShiftInvariant", spec := "fnOnTimeShiftInvariant", apart := false }
def FnOnTimeShiftInvariantSaid : Prop := fnOnTimeShiftInvariantRow.holds Try.pinned (OpenSpec.ofChange fnOnTimeShiftInvariantSpec)

/-- ITS FALSE NEIGHBOUR: 'it returns false'. Refute it at one input. -/
def fnOnTimeShiftInvariantWrong : ChangeSpec := { name := "fnOnTimeShiftInvariant", fn := fun _ => fun
  | [d1, d2, d3] => { results := [.lit (.bool false)], args := [d1, d2, d3] }
  | _ => none }
def FnOnTimeShiftInvariantWrongFalsely : Prop := fnOnTimeShiftInvariantRow.holds Try.pinned (OpenSpec.ofChange fnOnTimeShiftInvariantWrong)

end Rows
end Go.Proofs.Qxb6002647a
