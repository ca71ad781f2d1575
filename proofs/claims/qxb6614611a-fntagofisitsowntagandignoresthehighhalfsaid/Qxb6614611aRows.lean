/-
  No cell of these rows narrows 'for every input' (looked for: loops, veiled, ifaces, maps, wideKeys, modest, calm, conditions, laid).
  DERIVED. THE GIVEN ROWS OF THIS SEAT. 4 by the template 'for every input the law returns true; each argument reads behind the call as it read before'; 0 by the template 'total and deterministic' (their statements: Qxb6614611aTotals.lean).
  GIVEN WITH THE SEED: the statements are not yours to turn. If you find one false, say at which input.
  Laid BY PROGRAM, IN A SANDBOX (cutbox-rows.mjs): the forced cells as the released guide's own fill.sh prints them over the translation 0fc7a9a33a7f541c… (all of the seat's roots in one cut). By AI agents, Wed Nov 11 2026. No macro, syntax, notation, axiom, sorry.
-/
import Derived.Test.Qxb6614611aChecked
import GoSem.Claim
import GoSem.ClaimJoined
import GoSem.ClaimMapViews
import Derived.JoinedTies
import Derived.KernelRfl
namespace Go.Proofs.Qxb6614611a
/- THE CELL 'sum', in the pinned program and in every row, IS THE sha256 OF THE DUMP (.gsa) THAT Qxb6614611aProg.lean LOADS. Nothing in Lean hashes anything: it is a label: what it is worth is what the hold of that sum in a sandbox is worth. -/
noncomputable def Try.pinned : Pinned := { name := "qxb6614611a", sum := "0fc7a9a33a7f541cef70accb5e2bd971818739e04f7a097464e7d08d52e74204", checked := Try.checked }
namespace Rows
def none {H : Type} : Left H := { results := [], args := [] }

/-- 'zzlaws_policy_b1.FnTagOfCollidesJustWhenTheHashesAgreeAboveBitZero': WHATEVER THE INPUT: true; the input reads as it did. -/
def fnTagOfCollidesJustWhenTheHashesAgreeAboveBitZeroSpec : ChangeSpec := { name := "fnTagOfCollidesJustWhenTheHashesAgreeAboveBitZero", fn := fun _ => fun
  | [d1, d2] => { results := [.lit (.bool true)], args := [d1, d2] }
  | _ => none }
def fnTagOfCollidesJustWhenTheHashesAgreeAboveBitZeroRow : OpenClaim := { program := "qxb6614611a", sum := "0fc7a9a33a7f541cef70accb5e2bd971818739e04f7a097464e7d08d52e74204", func := "example.com/grantd/grantd/zzlaws_policy_b1.FnTagOfCollidesJustWhenTheHashesAgreeAboveBitZero", spec := "fnTagOfCollidesJustWhenTheHashesAgreeAboveBitZero", apart := false }
def FnTagOfCollidesJustWhenTheHashesAgreeAboveBitZeroSaid : Prop := fnTagOfCollidesJustWhenTheHashesAgreeAboveBitZeroRow.holds Try.pinned (OpenSpec.ofChange fnTagOfCollidesJustWhenTheHashesAgreeAboveBitZeroSpec)

/-- ITS FALSE NEIGHBOUR: 'it returns false'. Refute it at one input. -/
def fnTagOfCollidesJustWhenTheHashesAgreeAboveBitZeroWrong : ChangeSpec := { name := "fnTagOfCollidesJustWhenTheHashesAgreeAboveBitZero", fn := fun _ => fun
  | [d1, d2] => { results := [.lit (.bool false)], args := [d1, d2] }
  | _ => none }
def FnTagOfCollidesJustWhenTheHashesAgreeAboveBitZeroWrongFalsely : Prop := fnTagOfCollidesJustWhenTheHashesAgreeAboveBitZeroRow.holds Try.pinned (OpenSpec.ofChange fnTagOfCollidesJustWhenTheHashesAgreeAboveBitZeroWrong)

/-- 'zzlaws_policy_b1.FnTagOfIsItsOwnTagAndIgnoresTheHighHalf': WHATEVER THE INPUT: true; the input reads as it did. -/
def fnTagOfIsItsOwnTagAndIgnoresTheHighHalfSpec : ChangeSpec := { name := "fnTagOfIsItsOwnTagAndIgnoresTheHighHalf", fn := fun _ => fun
  | [d1, d2] => { results := [.lit (.bool true)], args := [d1, d2] }
  | _ => none }
def fnTagOfIsItsOwnTagAndIgnoresTheHighHalfRow : OpenClaim := { program := "qxb6614611a", sum := "0fc7a9a33a7f541cef70accb5e2bd971818739e04f7a097464e7d08d52e74204", func := "example.com/grantd/grantd/zzlaws_policy_b1.FnTagOfIsItsOwnTagAndIgnoresTheHighHalf", spec := "fnTagOfIsItsOwnTagAndIgnoresTheHighHalf", apart := false }
def FnTagOfIsItsOwnTagAndIgnoresTheHighHalfSaid : Prop := fnTagOfIsItsOwnTagAndIgnoresTheHighHalfRow.holds Try.pinned (OpenSpec.ofChange fnTagOfIsItsOwnTagAndIgnoresTheHighHalfSpec)

/-- ITS FALSE NEIGHBOUR: 'it returns false'. Refute it at one input. -/
def fnTagOfIsItsOwnTagAndIgnoresTheHighHalfWrong : ChangeSpec := { name := "fnTagOfIsItsOwnTagAndIgnoresTheHighHalf", fn := fun _ => fun
  | [d1, d2] => { results := [.lit (.bool false)], args := [d1, d2] }
  | _ => none }
def FnTagOfIsItsOwnTagAndIgnoresTheHighHalfWrongFalsely : Prop := fnTagOfIsItsOwnTagAndIgnoresTheHighHalfRow.holds Try.pinned (OpenSpec.ofChange fnTagOfIsItsOwnTagAndIgnoresTheHighHalfWrong)

/-- 'zzlaws_policy_b1.FnPathsKeepsItsListAtAnyCutOfTheAttributeFiles': WHATEVER THE INPUT: true; the input reads as it did. -/
def fnPathsKeepsItsListAtAnyCutOfTheAttributeFilesSpec : ChangeSpec := { name := "fnPathsKeepsItsListAtAnyCutOfTheAttributeFiles", fn := fun _ => fun
  | [d1, d2, d3] => { results := [.lit (.bool true)], args := [d1, d2, d3] }
  | _ => none }
def fnPathsKeepsItsListAtAnyCutOfTheAttributeFilesRow : OpenClaim := { program := "qxb6614611a", sum := "0fc7a9a33a7f541cef70accb5e2bd971818739e04f7a097464e7d08d52e74204", func := "example.com/grantd/grantd/zzlaws_policy_b1.FnPathsKeepsItsListAtAnyCutOfTheAttributeFiles", spec := "fnPathsKeepsItsListAtAnyCutOfTheAttributeFiles", apart := false }
def FnPathsKeepsItsListAtAnyCutOfTheAttributeFilesSaid : Prop := fnPathsKeepsItsListAtAnyCutOfTheAttributeFilesRow.holds Try.pinned (OpenSpec.ofChange fnPathsKeepsItsListAtAnyCutOfTheAttributeFilesSpec)

/-- ITS FALSE NEIGHBOUR: 'it returns false'. Refute it at one input. -/
def fnPathsKeepsItsListAtAnyCutOfTheAttributeFilesWrong : ChangeSpec := { name := "fnPathsKeepsItsListAtAnyCutOfTheAttributeFiles", fn := fun _ => fun
  | [d1, d2, d3] => { results := [.lit (.bool false)], args := [d1, d2, d3] }
  | _ => none }
def FnPathsKeepsItsListAtAnyCutOfTheAttributeFilesWrongFalsely : Prop := fnPathsKeepsItsListAtAnyCutOfTheAttributeFilesRow.holds Try.pinned (OpenSpec.ofChange fnPathsKeepsItsListAtAnyCutOfTheAttributeFilesWrong)

/-- 'zzlaws_policy_b1.FnPathsGivesAFreshListEachTime': WHATEVER THE INPUT: true; the input reads as it did. -/
def fnPathsGivesAFreshListEachTimeSpec : ChangeSpec := { name := "fnPathsGivesAFreshListEachTime", fn := fun _ => fun
  | [d1, d2] => { results := [.lit (.bool true)], args := [d1, d2] }
  | _ => none }
def fnPathsGivesAFreshListEachTimeRow : OpenClaim := { program := "qxb6614611a", sum := "0fc7a9a33a7f541cef70accb5e2bd971818739e04f7a097464e7d08d52e74204", func := "example.com/grantd/grantd/zzlaws_policy_b1.FnPathsGivesAFreshListEachTime", spec := "fnPathsGivesAFreshListEachTime", apart := false }
def FnPathsGivesAFreshListEachTimeSaid : Prop := fnPathsGivesAFreshListEachTimeRow.holds Try.pinned (OpenSpec.ofChange fnPathsGivesAFreshListEachTimeSpec)

/-- ITS FALSE NEIGHBOUR: 'it returns false'. Refute it at one input. -/
def fnPathsGivesAFreshListEachTimeWrong : ChangeSpec := { name := "fnPathsGivesAFreshListEachTime", fn := fun _ => fun
  | [d1, d2] => { results := [.lit (.bool false)], args := [d1, d2] }
  | _ => none }
def FnPathsGivesAFreshListEachTimeWrongFalsely : Prop := fnPathsGivesAFreshListEachTimeRow.holds Try.pinned (OpenSpec.ofChange fnPathsGivesAFreshListEachTimeWrong)

end Rows
end Go.Proofs.Qxb6614611a
