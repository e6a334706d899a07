/-
  DERIVED. GIVEN WITH THE SEED: THE CARDS: each row of Qxb6615014aFmtRows.lean that lists a variable, with what it lists TIED to the program's text (the seventh form; the later family's looks); each row that meets fmt, with fmt's text TOLD by the authors' own Lean function (tested against real Go, not proved from fmt's source: count such statements apart). THE CARD IS WHAT COUNTS. Prove the row's statement (the work); the ties are given (Qxb6615014aFmtTie.lean); close each card by the builder's one call (the guide's Derived/Test/ToyasCard.lean, 'card_holds'). Laid BY PROGRAM, IN A SANDBOX (cutbox-door.mjs). By AI agents, Wed Nov 11 2026. No macro, syntax, notation, axiom, sorry.
-/
import Derived.Test.Qxb6615014aFmtRows
import GoSem.ClaimSeven
namespace Go.Proofs.Qxb6615014aFmt
namespace Rows

/-- THE TOLD CARD OF 'zzlaws_root_b1.FnIntervalReasonJoin'. -/
def fnIntervalReasonJoinCard : Claim7 := { stood := { row := fnIntervalReasonJoinRow, standIns := [], harness := (true, "e7e1ec632c13553128762738717a665ba81c970ec75057d7a1e5c57b8fb02285"), looks := false }, told := true, goes := false }
def FnIntervalReasonJoinToldSaid : Prop := Claim7.holds Tryf.pinned (.plain (OpenSpec.ofChange fnIntervalReasonJoinSpec)) fnIntervalReasonJoinCard
/-- ITS FALSE NEIGHBOUR. Refute it at one input. -/
def FnIntervalReasonJoinToldWrongFalsely : Prop := Claim7.holds Tryf.pinned (.plain (OpenSpec.ofChange fnIntervalReasonJoinWrong)) fnIntervalReasonJoinCard

/-- THE TOLD CARD OF 'zzlaws_root_b1.FnIntervalReasonLimit'. -/
def fnIntervalReasonLimitCard : Claim7 := { stood := { row := fnIntervalReasonLimitRow, standIns := [], harness := (true, "e7e1ec632c13553128762738717a665ba81c970ec75057d7a1e5c57b8fb02285"), looks := false }, told := true, goes := false }
def FnIntervalReasonLimitToldSaid : Prop := Claim7.holds Tryf.pinned (.plain (OpenSpec.ofChange fnIntervalReasonLimitSpec)) fnIntervalReasonLimitCard
/-- ITS FALSE NEIGHBOUR. Refute it at one input. -/
def FnIntervalReasonLimitToldWrongFalsely : Prop := Claim7.holds Tryf.pinned (.plain (OpenSpec.ofChange fnIntervalReasonLimitWrong)) fnIntervalReasonLimitCard
end Rows
end Go.Proofs.Qxb6615014aFmt
