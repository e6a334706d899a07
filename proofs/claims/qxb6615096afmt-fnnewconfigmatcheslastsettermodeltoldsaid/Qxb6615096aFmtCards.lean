/-
  DERIVED. GIVEN WITH THE SEED: THE CARDS: each row of Qxb6615096aFmtRows.lean that lists a variable, with what it lists TIED to the program's text (the seventh form; the later family's looks); each row that meets fmt, with fmt's text TOLD by the authors' own Lean function (tested against real Go, not proved from fmt's source: count such statements apart). THE CARD IS WHAT COUNTS. Prove the row's statement (the work); the ties are given (Qxb6615096aFmtTie.lean); close each card by the builder's one call (the guide's Derived/Test/ToyasCard.lean, 'card_holds'). Laid BY PROGRAM, IN A SANDBOX (cutbox-door.mjs). By AI agents, Wed Nov 11 2026. No macro, syntax, notation, axiom, sorry.
-/
import Derived.Test.Qxb6615096aFmtRows
import GoSem.ClaimSeven
namespace Go.Proofs.Qxb6615096aFmt
namespace Rows

/-- THE TOLD CARD OF 'zzlaws_binding_b1.FnBindErrorUnwrapLetsErrorsIsFindReason'. -/
def fnBindErrorUnwrapLetsErrorsIsFindReasonCard : Claim7 := { stood := { row := fnBindErrorUnwrapLetsErrorsIsFindReasonRow, standIns := [], harness := (true, "2c684e993b63b169414bd32d24abc549caec299a4ab94f17dac72c7ee23a6914"), looks := true }, told := true, goes := false }
def FnBindErrorUnwrapLetsErrorsIsFindReasonToldSaid : Prop := Claim7.holds Tryf.pinned (.plain (OpenSpec.ofChange fnBindErrorUnwrapLetsErrorsIsFindReasonSpec)) fnBindErrorUnwrapLetsErrorsIsFindReasonCard
/-- ITS FALSE NEIGHBOUR. Refute it at one input. -/
def FnBindErrorUnwrapLetsErrorsIsFindReasonToldWrongFalsely : Prop := Claim7.holds Tryf.pinned (.plain (OpenSpec.ofChange fnBindErrorUnwrapLetsErrorsIsFindReasonWrong)) fnBindErrorUnwrapLetsErrorsIsFindReasonCard

/-- THE TOLD AND TIED CARD OF 'zzlaws_binding_b1.FnNewConfigMatchesLastSetterModel'. -/
def fnNewConfigMatchesLastSetterModelCard : Claim7 := { stood := { row := fnNewConfigMatchesLastSetterModelRow, standIns := [], harness := (true, "2c684e993b63b169414bd32d24abc549caec299a4ab94f17dac72c7ee23a6914"), looks := true }, told := true, laidByText := true, laidKinds := [.data], laidTests := true, laidLooks := .later, goes := false }
def FnNewConfigMatchesLastSetterModelToldSaid : Prop := Claim7.holds Tryf.pinned (.plain (OpenSpec.ofChange fnNewConfigMatchesLastSetterModelSpec)) fnNewConfigMatchesLastSetterModelCard
/-- ITS FALSE NEIGHBOUR. Refute it at one input. -/
def FnNewConfigMatchesLastSetterModelToldWrongFalsely : Prop := Claim7.holds Tryf.pinned (.plain (OpenSpec.ofChange fnNewConfigMatchesLastSetterModelWrong)) fnNewConfigMatchesLastSetterModelCard

/-- THE TOLD AND TIED CARD OF 'zzlaws_binding_b1.FnNewConfigRepeatedOptionsChangeNothing'. -/
def fnNewConfigRepeatedOptionsChangeNothingCard : Claim7 := { stood := { row := fnNewConfigRepeatedOptionsChangeNothingRow, standIns := [], harness := (true, "2c684e993b63b169414bd32d24abc549caec299a4ab94f17dac72c7ee23a6914"), looks := true }, told := true, laidByText := true, laidKinds := [.data], laidTests := true, laidLooks := .later, goes := false }
def FnNewConfigRepeatedOptionsChangeNothingToldSaid : Prop := Claim7.holds Tryf.pinned (.plain (OpenSpec.ofChange fnNewConfigRepeatedOptionsChangeNothingSpec)) fnNewConfigRepeatedOptionsChangeNothingCard
/-- ITS FALSE NEIGHBOUR. Refute it at one input. -/
def FnNewConfigRepeatedOptionsChangeNothingToldWrongFalsely : Prop := Claim7.holds Tryf.pinned (.plain (OpenSpec.ofChange fnNewConfigRepeatedOptionsChangeNothingWrong)) fnNewConfigRepeatedOptionsChangeNothingCard
end Rows
end Go.Proofs.Qxb6615096aFmt
