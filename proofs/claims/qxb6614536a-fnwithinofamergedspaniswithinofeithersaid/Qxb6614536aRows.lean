/-
  No cell of these rows narrows 'for every input' (looked for: loops, veiled, ifaces, maps, wideKeys, modest, calm, conditions, laid).
  DERIVED. THE GIVEN ROWS OF THIS SEAT. 2 by the template 'for every input the law returns true; each argument reads behind the call as it read before'; 0 by the template 'total and deterministic' (their statements: Qxb6614536aTotals.lean).
  GIVEN WITH THE SEED: the statements are not yours to turn. If you find one false, say at which input.
  Laid BY PROGRAM, IN A SANDBOX (cutbox-rows.mjs): the forced cells as the released guide's own fill.sh prints them over the translation 4f9ae17976f54bb3… (all of the seat's roots in one cut). By AI agents, Wed Nov 11 2026. No macro, syntax, notation, axiom, sorry.
-/
import Derived.Test.Qxb6614536aChecked
import GoSem.Claim
import GoSem.ClaimJoined
import GoSem.ClaimMapViews
import Derived.JoinedTies
import Derived.KernelRfl
namespace Go.Proofs.Qxb6614536a
/- THE CELL 'sum', in the pinned program and in every row, IS THE sha256 OF THE DUMP (.gsa) THAT Qxb6614536aProg.lean LOADS. Nothing in Lean hashes anything: it is a label: what it is worth is what the hold of that sum in a sandbox is worth. -/
noncomputable def Try.pinned : Pinned := { name := "qxb6614536a", sum := "4f9ae17976f54bb3f9a7c517197ae0b8a253c8f803029c05f7826da43829f275", checked := Try.checked }
namespace Rows
def none {H : Type} : Left H := { results := [], args := [] }

/-- 'zzlaws_internal_lock_b1.FnWithinRefusesExactlyTheSpanInsideItsBounds': WHATEVER THE INPUT: true; the input reads as it did. -/
def fnWithinRefusesExactlyTheSpanInsideItsBoundsSpec : ChangeSpec := { name := "fnWithinRefusesExactlyTheSpanInsideItsBounds", fn := fun _ => fun
  | [d1, d2, d3, d4] => { results := [.lit (.bool true)], args := [d1, d2, d3, d4] }
  | _ => none }
def fnWithinRefusesExactlyTheSpanInsideItsBoundsRow : OpenClaim := { program := "qxb6614536a", sum := "4f9ae17976f54bb3f9a7c517197ae0b8a253c8f803029c05f7826da43829f275", func := "example.com/ferrolho/ferrolho/zzlaws_internal_lock_b1.FnWithinRefusesExactlyTheSpanInsideItsBounds", spec := "fnWithinRefusesExactlyTheSpanInsideItsBounds", apart := false }
def FnWithinRefusesExactlyTheSpanInsideItsBoundsSaid : Prop := fnWithinRefusesExactlyTheSpanInsideItsBoundsRow.holds Try.pinned (OpenSpec.ofChange fnWithinRefusesExactlyTheSpanInsideItsBoundsSpec)

/-- ITS FALSE NEIGHBOUR: 'it returns false'. Refute it at one input. -/
def fnWithinRefusesExactlyTheSpanInsideItsBoundsWrong : ChangeSpec := { name := "fnWithinRefusesExactlyTheSpanInsideItsBounds", fn := fun _ => fun
  | [d1, d2, d3, d4] => { results := [.lit (.bool false)], args := [d1, d2, d3, d4] }
  | _ => none }
def FnWithinRefusesExactlyTheSpanInsideItsBoundsWrongFalsely : Prop := fnWithinRefusesExactlyTheSpanInsideItsBoundsRow.holds Try.pinned (OpenSpec.ofChange fnWithinRefusesExactlyTheSpanInsideItsBoundsWrong)

/-- 'zzlaws_internal_lock_b1.FnWithinOfAMergedSpanIsWithinOfEither': WHATEVER THE INPUT: true; the input reads as it did. -/
def fnWithinOfAMergedSpanIsWithinOfEitherSpec : ChangeSpec := { name := "fnWithinOfAMergedSpanIsWithinOfEither", fn := fun _ => fun
  | [d1, d2, d3, d4, d5, d6, d7, d8, d9] => { results := [.lit (.bool true)], args := [d1, d2, d3, d4, d5, d6, d7, d8, d9] }
  | _ => none }
def fnWithinOfAMergedSpanIsWithinOfEitherRow : OpenClaim := { program := "qxb6614536a", sum := "4f9ae17976f54bb3f9a7c517197ae0b8a253c8f803029c05f7826da43829f275", func := "example.com/ferrolho/ferrolho/zzlaws_internal_lock_b1.FnWithinOfAMergedSpanIsWithinOfEither", spec := "fnWithinOfAMergedSpanIsWithinOfEither", apart := false }
def FnWithinOfAMergedSpanIsWithinOfEitherSaid : Prop := fnWithinOfAMergedSpanIsWithinOfEitherRow.holds Try.pinned (OpenSpec.ofChange fnWithinOfAMergedSpanIsWithinOfEitherSpec)

/-- ITS FALSE NEIGHBOUR: 'it returns false'. Refute it at one input. -/
def fnWithinOfAMergedSpanIsWithinOfEitherWrong : ChangeSpec := { name := "fnWithinOfAMergedSpanIsWithinOfEither", fn := fun _ => fun
  | [d1, d2, d3, d4, d5, d6, d7, d8, d9] => { results := [.lit (.bool false)], args := [d1, d2, d3, d4, d5, d6, d7, d8, d9] }
  | _ => none }
def FnWithinOfAMergedSpanIsWithinOfEitherWrongFalsely : Prop := fnWithinOfAMergedSpanIsWithinOfEitherRow.holds Try.pinned (OpenSpec.ofChange fnWithinOfAMergedSpanIsWithinOfEitherWrong)

end Rows
end Go.Proofs.Qxb6614536a
