/-
  No cell of these rows narrows 'for every input' (looked for: loops, veiled, ifaces, maps, wideKeys, modest, calm, conditions, laid).
  DERIVED. THE GIVEN ROWS OF THIS SEAT. 2 by the template 'for every input the law returns true; each argument reads behind the call as it read before'; 0 by the template 'total and deterministic' (their statements: Qxb6614423aTotals.lean).
  GIVEN WITH THE SEED: the statements are not yours to turn. If you find one false, say at which input.
  Laid BY PROGRAM, IN A SANDBOX (cutbox-rows.mjs): the forced cells as the released guide's own fill.sh prints them over the translation 66f724078fca3cd6… (all of the seat's roots in one cut). By AI agents, Wed Nov 11 2026. No macro, syntax, notation, axiom, sorry.
-/
import Derived.Test.Qxb6614423aChecked
import GoSem.Claim
import GoSem.ClaimJoined
import GoSem.ClaimMapViews
import Derived.JoinedTies
import Derived.KernelRfl
namespace Go.Proofs.Qxb6614423a
/- THE CELL 'sum', in the pinned program and in every row, IS THE sha256 OF THE DUMP (.gsa) THAT Qxb6614423aProg.lean LOADS. Nothing in Lean hashes anything: it is a label: what it is worth is what the hold of that sum in a sandbox is worth. -/
noncomputable def Try.pinned : Pinned := { name := "qxb6614423a", sum := "66f724078fca3cd6ca645e9cb216e561deb5f93bc8e2ae020ba3b9c454bd51dc", checked := Try.checked }
namespace Rows
def none {H : Type} : Left H := { results := [], args := [] }

/-- 'zzlaws_protocol_b1.FnPutHeaderComplement': WHATEVER THE INPUT: true; the input reads as it did. -/
def fnPutHeaderComplementSpec : ChangeSpec := { name := "fnPutHeaderComplement", fn := fun _ => fun
  | [d1, d2, d3] => { results := [.lit (.bool true)], args := [d1, d2, d3] }
  | _ => none }
def fnPutHeaderComplementRow : OpenClaim := { program := "qxb6614423a", sum := "66f724078fca3cd6ca645e9cb216e561deb5f93bc8e2ae020ba3b9c454bd51dc", func := "example.com/pipewright/pipewright/zzlaws_protocol_b1.FnPutHeaderComplement", spec := "fnPutHeaderComplement", named := ["encoding/binary.BigEndian"], apart := false }
def FnPutHeaderComplementSaid : Prop := fnPutHeaderComplementRow.holds Try.pinned (OpenSpec.ofChange fnPutHeaderComplementSpec)

/-- ITS FALSE NEIGHBOUR: 'it returns false'. Refute it at one input. -/
def fnPutHeaderComplementWrong : ChangeSpec := { name := "fnPutHeaderComplement", fn := fun _ => fun
  | [d1, d2, d3] => { results := [.lit (.bool false)], args := [d1, d2, d3] }
  | _ => none }
def FnPutHeaderComplementWrongFalsely : Prop := fnPutHeaderComplementRow.holds Try.pinned (OpenSpec.ofChange fnPutHeaderComplementWrong)

/-- 'zzlaws_protocol_b1.FnPutHeaderOrdersAsLength': WHATEVER THE INPUT: true; the input reads as it did. -/
def fnPutHeaderOrdersAsLengthSpec : ChangeSpec := { name := "fnPutHeaderOrdersAsLength", fn := fun _ => fun
  | [d1, d2, d3, d4] => { results := [.lit (.bool true)], args := [d1, d2, d3, d4] }
  | _ => none }
def fnPutHeaderOrdersAsLengthRow : OpenClaim := { program := "qxb6614423a", sum := "66f724078fca3cd6ca645e9cb216e561deb5f93bc8e2ae020ba3b9c454bd51dc", func := "example.com/pipewright/pipewright/zzlaws_protocol_b1.FnPutHeaderOrdersAsLength", spec := "fnPutHeaderOrdersAsLength", named := ["encoding/binary.BigEndian"], apart := false }
def FnPutHeaderOrdersAsLengthSaid : Prop := fnPutHeaderOrdersAsLengthRow.holds Try.pinned (OpenSpec.ofChange fnPutHeaderOrdersAsLengthSpec)

/-- ITS FALSE NEIGHBOUR: 'it returns false'. Refute it at one input. -/
def fnPutHeaderOrdersAsLengthWrong : ChangeSpec := { name := "fnPutHeaderOrdersAsLength", fn := fun _ => fun
  | [d1, d2, d3, d4] => { results := [.lit (.bool false)], args := [d1, d2, d3, d4] }
  | _ => none }
def FnPutHeaderOrdersAsLengthWrongFalsely : Prop := fnPutHeaderOrdersAsLengthRow.holds Try.pinned (OpenSpec.ofChange fnPutHeaderOrdersAsLengthWrong)

end Rows
end Go.Proofs.Qxb6614423a
