/-
  No cell of these rows narrows 'for every input' (looked for: loops, veiled, ifaces, maps, wideKeys, modest, calm, conditions, laid).
  DERIVED. THE GIVEN ROWS OF THIS SEAT. 1 by the template 'for every input the law returns true; each argument reads behind the call as it read before'; 0 by the template 'total and deterministic' (their statements: Qxb6001825aTotals.lean).
  GIVEN WITH THE SEED: the statements are not yours to turn. If you find one false, say at which input.
  Laid BY PROGRAM, IN A SANDBOX (cutbox-rows.mjs): the forced cells as the released guide's own fill.sh prints them over the translation ed722d4db8f07508… (all of the seat's roots in one cut). By AI agents, Wed Nov 11 2026. No macro, syntax, notation, axiom, sorry.
-/
import Derived.Test.Qxb6001825aChecked
import GoSem.Claim
import GoSem.ClaimJoined
import GoSem.ClaimMapViews
import Derived.JoinedTies
import Derived.KernelRfl
namespace Go.Proofs.Qxb6001825a
/- THE CELL 'sum', in the pinned program and in every row, IS THE sha256 OF THE DUMP (.gsa) THAT Qxb6001825aProg.lean LOADS. Nothing in Lean hashes anything: it is a label: what it is worth is what the hold of that sum in a sandbox is worth. -/
noncomputable def Try.pinned : Pinned := { name := "qxb6001825a", sum := "ed722d4db8f07508fde95c78dd861aad1993a2239285ae96c1c020040b06ee7c", checked := Try.checked }
namespace Rows
def none {H : Type} : Left H := { results := [], args := [] }

/-- 'zzlaws_pkg_api_fielderrors_e1.FnErrAgreesWithStrings': WHATEVER THE INPUT: true; the input reads as it did. -/
def fnErrAgreesWithStringsSpec : ChangeSpec := { name := "fnErrAgreesWithStrings", fn := fun _ => fun
  | [d1, d2, d3] => { results := [.lit (.bool true)], args := [d1, d2, d3] }
  | _ => none }
def fnErrAgreesWithStringsRow : OpenClaim := { program := "qxb6001825a", sum := "ed722d4db8f07508fde95c78dd861aad1993a2239285ae96c1c020040b06ee7c", func := "example.com/loadwarden/loadwarden/zzlaws_pkg_api_fielderrors_e1.FnErrAgreesWithStrings", spec := "fnErrAgreesWithStrings", apart := false }
def FnErrAgreesWithStringsSaid : Prop := fnErrAgreesWithStringsRow.holds Try.pinned (OpenSpec.ofChange fnErrAgreesWithStringsSpec)

/-- ITS FALSE NEIGHBOUR: 'it returns false'. Refute it at one input. -/
def fnErrAgreesWithStringsWrong : ChangeSpec := { name := "fnErrAgreesWithStrings", fn := fun _ => fun
  | [d1, d2, d3] => { results := [.lit (.bool false)], args := [d1, d2, d3] }
  | _ => none }
def FnErrAgreesWithStringsWrongFalsely : Prop := fnErrAgreesWithStringsRow.holds Try.pinned (OpenSpec.ofChange fnErrAgreesWithStringsWrong)

end Rows
end Go.Proofs.Qxb6001825a
