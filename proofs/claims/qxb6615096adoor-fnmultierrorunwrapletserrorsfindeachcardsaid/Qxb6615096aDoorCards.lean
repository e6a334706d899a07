/-
  DERIVED. GIVEN WITH THE SEED: THE CARDS: each row of Qxb6615096aDoorRows.lean that lists a variable, with what it lists TIED to the program's text (the seventh form; the later family's looks); each row that meets fmt, with fmt's text TOLD by the authors' own Lean function (tested against real Go, not proved from fmt's source: count such statements apart). THE CARD IS WHAT COUNTS. Prove the row's statement (the work); the ties are given (Qxb6615096aDoorTie.lean); close each card by the builder's one call (the guide's Derived/Test/ToyasCard.lean, 'card_holds'). Laid BY PROGRAM, IN A SANDBOX (cutbox-door.mjs). By AI agents, Wed Nov 11 2026. No macro, syntax, notation, axiom, sorry.
-/
import Derived.Test.Qxb6615096aDoorRows
import GoSem.ClaimSeven
namespace Go.Proofs.Qxb6615096aDoor
namespace Rows

/-- THE TIED CARD OF 'zzlaws_binding_b1.FnMultiErrorUnwrapLetsErrorsFindEach'. -/
def fnMultiErrorUnwrapLetsErrorsFindEachCard : Claim7 := { stood := { row := fnMultiErrorUnwrapLetsErrorsFindEachRow, standIns := [], harness := (true, "c5a7afcee54cd127df644ee48658a407ab7b509ce46a66cc0d5074cc0fb4c847"), looks := true }, kinds := [], alts := [], laidByText := true, laidKinds := [.handle], laidTests := true, laidLooks := .later }
def FnMultiErrorUnwrapLetsErrorsFindEachCardSaid : Prop := Claim7.holds Tryd.pinned (.plain (OpenSpec.ofChange fnMultiErrorUnwrapLetsErrorsFindEachSpec)) fnMultiErrorUnwrapLetsErrorsFindEachCard
end Rows
end Go.Proofs.Qxb6615096aDoor
