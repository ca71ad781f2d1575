/-
  No cell of these rows narrows 'for every input' (looked for: loops, veiled, ifaces, maps, wideKeys, modest, calm, conditions, laid).
  DERIVED. THE GIVEN ROWS OF THIS SEAT. 1 by the template 'for every input the law returns true; each argument reads behind the call as it read before'; 0 by the template 'total and deterministic' (their statements: Qxb6605766aTotals.lean).
  GIVEN WITH THE SEED: the statements are not yours to turn. If you find one false, say at which input.
  Laid BY PROGRAM, IN A SANDBOX (cutbox-rows.mjs): the forced cells as the released guide's own fill.sh prints them over the translation d8d1d1951e23579a… (all of the seat's roots in one cut). By AI agents, Wed Nov 11 2026. No macro, syntax, notation, axiom, sorry.
-/
import Derived.Test.Qxb6605766aChecked
import GoSem.Claim
import GoSem.ClaimJoined
import GoSem.ClaimMapViews
import Derived.JoinedTies
import Derived.KernelRfl
namespace Go.Proofs.Qxb6605766a
/- THE CELL 'sum', in the pinned program and in every row, IS THE sha256 OF THE DUMP (.gsa) THAT Qxb6605766aProg.lean LOADS. Nothing in Lean hashes anything: it is a label: what it is worth is what the hold of that sum in a sandbox is worth. -/
noncomputable def Try.pinned : Pinned := { name := "qxb6605766a", sum := "d8d1d1951e23579aa50f06e37cb01b10751929d37184d021b3596471dbe215dc", checked := Try.checked }
namespace Rows
def none {H : Type} : Left H := { results := [], args := [] }

/-- 'zzlaws_root_b1.FnSQLTokenIsNameFirstByte': WHATEVER THE INPUT: true; the input reads as it did. -/
def fnSQLTokenIsNameFirstByteSpec : ChangeSpec := { name := "fnSQLTokenIsNameFirstByte", fn := fun _ => fun
  | [d1, d2, d3] => { results := [.lit (.bool true)], args := [d1, d2, d3] }
  | _ => none }
def fnSQLTokenIsNameFirstByteRow : OpenClaim := { program := "qxb6605766a", sum := "d8d1d1951e23579aa50f06e37cb01b10751929d37184d021b3596471dbe215dc", func := "example.com/westminster/westminster/zzlaws_root_b1.FnSQLTokenIsNameFirstByte", spec := "fnSQLTokenIsNameFirstByte", apart := false }
def FnSQLTokenIsNameFirstByteSaid : Prop := fnSQLTokenIsNameFirstByteRow.holds Try.pinned (OpenSpec.ofChange fnSQLTokenIsNameFirstByteSpec)

/-- ITS FALSE NEIGHBOUR: 'it returns false'. Refute it at one input. -/
def fnSQLTokenIsNameFirstByteWrong : ChangeSpec := { name := "fnSQLTokenIsNameFirstByte", fn := fun _ => fun
  | [d1, d2, d3] => { results := [.lit (.bool false)], args := [d1, d2, d3] }
  | _ => none }
def FnSQLTokenIsNameFirstByteWrongFalsely : Prop := fnSQLTokenIsNameFirstByteRow.holds Try.pinned (OpenSpec.ofChange fnSQLTokenIsNameFirstByteWrong)

end Rows
end Go.Proofs.Qxb6605766a
