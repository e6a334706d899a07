/-
  No cell of these rows narrows 'for every input' (looked for: loops, veiled, ifaces, maps, wideKeys, modest, calm, conditions, laid).
  DERIVED. THE GIVEN ROWS OF THIS SEAT. 2 by the template 'for every input the law returns true; each argument reads behind the call as it read before'; 0 by the template 'total and deterministic' (their statements: Qxb6615014aFmtTotals.lean).
  GIVEN WITH THE SEED: the statements are not yours to turn. If you find one false, say at which input.
  Laid BY PROGRAM, IN A SANDBOX (cutbox-rows.mjs): the forced cells as the released guide's own fill.sh prints them over the translation e97f810a14331925… (all of the seat's roots in one cut). By AI agents, Wed Nov 11 2026. No macro, syntax, notation, axiom, sorry.
-/
import Derived.Test.Qxb6615014aFmtChecked
import GoSem.Claim
import GoSem.ClaimJoined
import GoSem.ClaimMapViews
import Derived.JoinedTies
import Derived.KernelRfl
namespace Go.Proofs.Qxb6615014aFmt
/- THE CELL 'sum', in the pinned program and in every row, IS THE sha256 OF THE DUMP (.gsa) THAT Qxb6615014aFmtProg.lean LOADS. Nothing in Lean hashes anything: it is a label: what it is worth is what the hold of that sum in a sandbox is worth. -/
noncomputable def Tryf.pinned : Pinned := { name := "qxb6615014afmt", sum := "e97f810a14331925903f985de18d82a5ad93e729fd62f3a8247b83ac5f0793ee", checked := Tryf.checked }
namespace Rows
def none {H : Type} : Left H := { results := [], args := [] }

/-- 'zzlaws_root_b1.FnIntervalReasonJoin': WHATEVER THE INPUT: true; the input reads as it did. -/
def fnIntervalReasonJoinSpec : ChangeSpec := { name := "fnIntervalReasonJoin", fn := fun _ => fun
  | [d1, d2] => { results := [.lit (.bool true)], args := [d1, d2] }
  | _ => none }
def fnIntervalReasonJoinRow : OpenClaim := { program := "qxb6615014afmt", sum := "e97f810a14331925903f985de18d82a5ad93e729fd62f3a8247b83ac5f0793ee", func := "example.com/attestor/attestor/zzlaws_root_b1.FnIntervalReasonJoin", spec := "fnIntervalReasonJoin", stops := ["fmt.Sprintf"], inPlace := ["fmt.Sprintf"], apart := false }
/-- NO THEOREM (fmt's text is open here; it may be false): for the released tool's asking of the row's closed facts alone. THE STATEMENT IS 'FnIntervalReasonJoinToldSaid' (Qxb6615014aFmtCards.lean). -/
def FnIntervalReasonJoinFormAsk : Prop := fnIntervalReasonJoinRow.holds Tryf.pinned (OpenSpec.ofChange fnIntervalReasonJoinSpec)

/-- ITS FALSE NEIGHBOUR: 'it returns false'. Refute it at one input. -/
def fnIntervalReasonJoinWrong : ChangeSpec := { name := "fnIntervalReasonJoin", fn := fun _ => fun
  | [d1, d2] => { results := [.lit (.bool false)], args := [d1, d2] }
  | _ => none }
def FnIntervalReasonJoinWrongFormAsk : Prop := fnIntervalReasonJoinRow.holds Tryf.pinned (OpenSpec.ofChange fnIntervalReasonJoinWrong)

/-- 'zzlaws_root_b1.FnIntervalReasonLimit': WHATEVER THE INPUT: true; the input reads as it did. -/
def fnIntervalReasonLimitSpec : ChangeSpec := { name := "fnIntervalReasonLimit", fn := fun _ => fun
  | [d] => { results := [.lit (.bool true)], args := [d] }
  | _ => none }
def fnIntervalReasonLimitRow : OpenClaim := { program := "qxb6615014afmt", sum := "e97f810a14331925903f985de18d82a5ad93e729fd62f3a8247b83ac5f0793ee", func := "example.com/attestor/attestor/zzlaws_root_b1.FnIntervalReasonLimit", spec := "fnIntervalReasonLimit", stops := ["fmt.Sprintf"], inPlace := ["fmt.Sprintf"], apart := false }
/-- NO THEOREM (fmt's text is open here; it may be false): for the released tool's asking of the row's closed facts alone. THE STATEMENT IS 'FnIntervalReasonLimitToldSaid' (Qxb6615014aFmtCards.lean). -/
def FnIntervalReasonLimitFormAsk : Prop := fnIntervalReasonLimitRow.holds Tryf.pinned (OpenSpec.ofChange fnIntervalReasonLimitSpec)

/-- ITS FALSE NEIGHBOUR: 'it returns false'. Refute it at one input. -/
def fnIntervalReasonLimitWrong : ChangeSpec := { name := "fnIntervalReasonLimit", fn := fun _ => fun
  | [d] => { results := [.lit (.bool false)], args := [d] }
  | _ => none }
def FnIntervalReasonLimitWrongFormAsk : Prop := fnIntervalReasonLimitRow.holds Tryf.pinned (OpenSpec.ofChange fnIntervalReasonLimitWrong)

end Rows
end Go.Proofs.Qxb6615014aFmt
