/-
  NARROWER THAN 'FOR EVERY INPUT', by the rows' own cells (each row's printed sentence says how): FnNewConfigMatchesLastSetterModel: laid · FnNewConfigRepeatedOptionsChangeNothing: laid.
  DERIVED. THE GIVEN ROWS OF THIS SEAT. 3 by the template 'for every input the law returns true; each argument reads behind the call as it read before'; 0 by the template 'total and deterministic' (their statements: Qxb6615096aFmtTotals.lean).
  GIVEN WITH THE SEED: the statements are not yours to turn. If you find one false, say at which input.
  Laid BY PROGRAM, IN A SANDBOX (cutbox-rows.mjs): the forced cells as the released guide's own fill.sh prints them over the translation 22fb0dfa10a840cc… (all of the seat's roots in one cut). By AI agents, Wed Nov 11 2026. No macro, syntax, notation, axiom, sorry.
-/
import Derived.Test.Qxb6615096aFmtChecked
import GoSem.Claim
import GoSem.ClaimJoined
import GoSem.ClaimMapViews
import Derived.JoinedTies
import Derived.KernelRfl
namespace Go.Proofs.Qxb6615096aFmt
/- THE CELL 'sum', in the pinned program and in every row, IS THE sha256 OF THE DUMP (.gsa) THAT Qxb6615096aFmtProg.lean LOADS. Nothing in Lean hashes anything: it is a label: what it is worth is what the hold of that sum in a sandbox is worth. -/
noncomputable def Tryf.pinned : Pinned := { name := "qxb6615096afmt", sum := "22fb0dfa10a840cc48ab124a7545102d4cfe0308ae59b165dd17c0cd9d090621", checked := Tryf.checked }
namespace Rows
def none {H : Type} : Left H := { results := [], args := [] }

/- WHAT THE LISTED PACKAGE-LEVEL VARIABLES READ AS WHEN THE CALL BEGINS. Each datum BY PROGRAM (the guide's laid-datum.mjs) off the statement by which the dump's own 'gosem.cut.vars' lays the variable. In a bare row this is a premise. The card (Qxb6615096aFmtCards.lean) ties it to the program's text. -/
def laid_example_com_pathfen_pathfen_binding_defaultConfig {H : Type} : DataW H := .agg [.lit (.int .i64 0), .lit (.bool false), .lit (.int .i64 10000), .lit (.bool false), .lit (.int .i64 1048576), .lit (.int .i64 32), .lit (.int .i64 1000), .lit (.int .i64 0)]

/-- 'zzlaws_binding_b1.FnBindErrorUnwrapLetsErrorsIsFindReason': WHATEVER THE INPUT: true; the input reads as it did. -/
def fnBindErrorUnwrapLetsErrorsIsFindReasonSpec : ChangeSpec := { name := "fnBindErrorUnwrapLetsErrorsIsFindReason", fn := fun _ => fun
  | [d1, d2, d3, d4, d5, d6] => { results := [.lit (.bool true)], args := [d1, d2, d3, d4, d5, d6] }
  | _ => none }
def fnBindErrorUnwrapLetsErrorsIsFindReasonRow : OpenClaim := { program := "qxb6615096afmt", sum := "22fb0dfa10a840cc48ab124a7545102d4cfe0308ae59b165dd17c0cd9d090621", func := "example.com/pathfen/pathfen/zzlaws_binding_b1.FnBindErrorUnwrapLetsErrorsIsFindReason", spec := "fnBindErrorUnwrapLetsErrorsIsFindReason", stops := ["fmt.errorf", "fmt.Sprint, its operands' methods called", "fmt.Sprintf"], inPlace := ["internal/reflectlite.TypeOf"], unfollowed := true, recurses := true, apart := false }
/-- NO THEOREM (fmt's text is open here; it may be false): for the released tool's asking of the row's closed facts alone. THE STATEMENT IS 'FnBindErrorUnwrapLetsErrorsIsFindReasonToldSaid' (Qxb6615096aFmtCards.lean). -/
def FnBindErrorUnwrapLetsErrorsIsFindReasonFormAsk : Prop := fnBindErrorUnwrapLetsErrorsIsFindReasonRow.holds Tryf.pinned (OpenSpec.ofChange fnBindErrorUnwrapLetsErrorsIsFindReasonSpec)

/-- ITS FALSE NEIGHBOUR: 'it returns false'. Refute it at one input. -/
def fnBindErrorUnwrapLetsErrorsIsFindReasonWrong : ChangeSpec := { name := "fnBindErrorUnwrapLetsErrorsIsFindReason", fn := fun _ => fun
  | [d1, d2, d3, d4, d5, d6] => { results := [.lit (.bool false)], args := [d1, d2, d3, d4, d5, d6] }
  | _ => none }
def FnBindErrorUnwrapLetsErrorsIsFindReasonWrongFormAsk : Prop := fnBindErrorUnwrapLetsErrorsIsFindReasonRow.holds Tryf.pinned (OpenSpec.ofChange fnBindErrorUnwrapLetsErrorsIsFindReasonWrong)

/-- 'zzlaws_binding_b1.FnNewConfigMatchesLastSetterModel': WHATEVER THE INPUT: true; the input reads as it did. -/
def fnNewConfigMatchesLastSetterModelSpec : ChangeSpec := { name := "fnNewConfigMatchesLastSetterModel", vars := ["example.com/pathfen/pathfen/binding.defaultConfig"], fn := fun _ => fun
  | [d, g1] => { results := [.lit (.bool true)], args := [d], vars := [g1] }
  | _ => none }
def fnNewConfigMatchesLastSetterModelRow : OpenClaim := { program := "qxb6615096afmt", sum := "22fb0dfa10a840cc48ab124a7545102d4cfe0308ae59b165dd17c0cd9d090621", func := "example.com/pathfen/pathfen/zzlaws_binding_b1.FnNewConfigMatchesLastSetterModel", spec := "fnNewConfigMatchesLastSetterModel", stops := ["fmt.errorf", "fmt.Sprint, its operands' methods called", "fmt.Sprintf"], inPlace := ["fmt.errorf"], unfollowed := true, recurses := true, named := ["example.com/pathfen/pathfen/binding.defaultConfig"], apart := false, laid := [("example.com/pathfen/pathfen/binding.defaultConfig", laid_example_com_pathfen_pathfen_binding_defaultConfig)] }
/-- NO THEOREM (fmt's text is open here; it may be false): for the released tool's asking of the row's closed facts alone. THE STATEMENT IS 'FnNewConfigMatchesLastSetterModelToldSaid' (Qxb6615096aFmtCards.lean). -/
def FnNewConfigMatchesLastSetterModelFormAsk : Prop := fnNewConfigMatchesLastSetterModelRow.holds Tryf.pinned (OpenSpec.ofChange fnNewConfigMatchesLastSetterModelSpec)

/-- ITS FALSE NEIGHBOUR: 'it returns false'. Refute it at one input. -/
def fnNewConfigMatchesLastSetterModelWrong : ChangeSpec := { name := "fnNewConfigMatchesLastSetterModel", vars := ["example.com/pathfen/pathfen/binding.defaultConfig"], fn := fun _ => fun
  | [d, g1] => { results := [.lit (.bool false)], args := [d], vars := [g1] }
  | _ => none }
def FnNewConfigMatchesLastSetterModelWrongFormAsk : Prop := fnNewConfigMatchesLastSetterModelRow.holds Tryf.pinned (OpenSpec.ofChange fnNewConfigMatchesLastSetterModelWrong)

/-- 'zzlaws_binding_b1.FnNewConfigRepeatedOptionsChangeNothing': WHATEVER THE INPUT: true; the input reads as it did. -/
def fnNewConfigRepeatedOptionsChangeNothingSpec : ChangeSpec := { name := "fnNewConfigRepeatedOptionsChangeNothing", vars := ["example.com/pathfen/pathfen/binding.defaultConfig"], fn := fun _ => fun
  | [d, g1] => { results := [.lit (.bool true)], args := [d], vars := [g1] }
  | _ => none }
def fnNewConfigRepeatedOptionsChangeNothingRow : OpenClaim := { program := "qxb6615096afmt", sum := "22fb0dfa10a840cc48ab124a7545102d4cfe0308ae59b165dd17c0cd9d090621", func := "example.com/pathfen/pathfen/zzlaws_binding_b1.FnNewConfigRepeatedOptionsChangeNothing", spec := "fnNewConfigRepeatedOptionsChangeNothing", stops := ["fmt.errorf", "fmt.Sprint, its operands' methods called", "fmt.Sprintf"], inPlace := ["fmt.errorf"], unfollowed := true, recurses := true, named := ["example.com/pathfen/pathfen/binding.defaultConfig"], apart := false, laid := [("example.com/pathfen/pathfen/binding.defaultConfig", laid_example_com_pathfen_pathfen_binding_defaultConfig)] }
/-- NO THEOREM (fmt's text is open here; it may be false): for the released tool's asking of the row's closed facts alone. THE STATEMENT IS 'FnNewConfigRepeatedOptionsChangeNothingToldSaid' (Qxb6615096aFmtCards.lean). -/
def FnNewConfigRepeatedOptionsChangeNothingFormAsk : Prop := fnNewConfigRepeatedOptionsChangeNothingRow.holds Tryf.pinned (OpenSpec.ofChange fnNewConfigRepeatedOptionsChangeNothingSpec)

/-- ITS FALSE NEIGHBOUR: 'it returns false'. Refute it at one input. -/
def fnNewConfigRepeatedOptionsChangeNothingWrong : ChangeSpec := { name := "fnNewConfigRepeatedOptionsChangeNothing", vars := ["example.com/pathfen/pathfen/binding.defaultConfig"], fn := fun _ => fun
  | [d, g1] => { results := [.lit (.bool false)], args := [d], vars := [g1] }
  | _ => none }
def FnNewConfigRepeatedOptionsChangeNothingWrongFormAsk : Prop := fnNewConfigRepeatedOptionsChangeNothingRow.holds Tryf.pinned (OpenSpec.ofChange fnNewConfigRepeatedOptionsChangeNothingWrong)

end Rows
end Go.Proofs.Qxb6615096aFmt
