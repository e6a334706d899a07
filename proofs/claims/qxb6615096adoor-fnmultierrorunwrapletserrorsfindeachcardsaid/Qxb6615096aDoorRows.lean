/-
  NARROWER THAN 'FOR EVERY INPUT', by the rows' own cells (each row's printed sentence says how): FnMultiErrorUnwrapLetsErrorsFindEach: laid.
  DERIVED. THE GIVEN ROWS OF THIS SEAT. 1 by the template 'for every input the law returns true; each argument reads behind the call as it read before'; 0 by the template 'total and deterministic' (their statements: Qxb6615096aDoorTotals.lean).
  GIVEN WITH THE SEED: the statements are not yours to turn. If you find one false, say at which input.
  Laid BY PROGRAM, IN A SANDBOX (cutbox-rows.mjs): the forced cells as the released guide's own fill.sh prints them over the translation cef13c6aa3140793… (all of the seat's roots in one cut). By AI agents, Wed Nov 11 2026. No macro, syntax, notation, axiom, sorry.
-/
import Derived.Test.Qxb6615096aDoorChecked
import GoSem.Claim
import GoSem.ClaimJoined
import GoSem.ClaimMapViews
import Derived.JoinedTies
import Derived.KernelRfl
namespace Go.Proofs.Qxb6615096aDoor
/- THE CELL 'sum', in the pinned program and in every row, IS THE sha256 OF THE DUMP (.gsa) THAT Qxb6615096aDoorProg.lean LOADS. Nothing in Lean hashes anything: it is a label: what it is worth is what the hold of that sum in a sandbox is worth. -/
noncomputable def Tryd.pinned : Pinned := { name := "qxb6615096adoor", sum := "cef13c6aa31407933473576ad88cbdcefda47752184de1c9d2cca05b3782ff0f", checked := Tryd.checked }
namespace Rows
def none {H : Type} : Left H := { results := [], args := [] }

/- WHAT THE LISTED PACKAGE-LEVEL VARIABLES READ AS WHEN THE CALL BEGINS. Each datum BY PROGRAM (the guide's laid-datum.mjs) off the statement by which the dump's own 'gosem.cut.vars' lays the variable. In a bare row this is a premise. The card (Qxb6615096aDoorCards.lean) ties it to the program's text. -/
def laid_errors_errorType {H : Type} : DataW H := .iface "internal/reflectlite.rtype" (.agg [.ptr (.lit (.string [101, 114, 114, 111, 114]))])

/-- 'zzlaws_binding_b1.FnMultiErrorUnwrapLetsErrorsFindEach': WHATEVER THE INPUT: true; the input reads as it did. -/
def fnMultiErrorUnwrapLetsErrorsFindEachSpec : ChangeSpec := { name := "fnMultiErrorUnwrapLetsErrorsFindEach", fn := fun _ => fun
  | [d1, d2] => { results := [.lit (.bool true)], args := [d1, d2] }
  | _ => none }
def fnMultiErrorUnwrapLetsErrorsFindEachRow : OpenClaim := { program := "qxb6615096adoor", sum := "cef13c6aa31407933473576ad88cbdcefda47752184de1c9d2cca05b3782ff0f", func := "example.com/pathfen/pathfen/zzlaws_binding_b1.FnMultiErrorUnwrapLetsErrorsFindEach", spec := "fnMultiErrorUnwrapLetsErrorsFindEach", inPlace := ["internal/reflectlite.TypeOf", "internal/reflectlite.ValueOf", "(internal/reflectlite.Value).Type", "(internal/reflectlite.Value).IsNil", "(internal/reflectlite.Value).Elem", "(internal/reflectlite.Value).Set"], unfollowed := true, recurses := true, named := ["errors.errorType"], apart := false, laid := [("errors.errorType", laid_errors_errorType)] }
def FnMultiErrorUnwrapLetsErrorsFindEachSaid : Prop := fnMultiErrorUnwrapLetsErrorsFindEachRow.holds Tryd.pinned (OpenSpec.ofChange fnMultiErrorUnwrapLetsErrorsFindEachSpec)

/-- ITS FALSE NEIGHBOUR: 'it returns false'. Refute it at one input. -/
def fnMultiErrorUnwrapLetsErrorsFindEachWrong : ChangeSpec := { name := "fnMultiErrorUnwrapLetsErrorsFindEach", fn := fun _ => fun
  | [d1, d2] => { results := [.lit (.bool false)], args := [d1, d2] }
  | _ => none }
def FnMultiErrorUnwrapLetsErrorsFindEachWrongFalsely : Prop := fnMultiErrorUnwrapLetsErrorsFindEachRow.holds Tryd.pinned (OpenSpec.ofChange fnMultiErrorUnwrapLetsErrorsFindEachWrong)

end Rows
end Go.Proofs.Qxb6615096aDoor
