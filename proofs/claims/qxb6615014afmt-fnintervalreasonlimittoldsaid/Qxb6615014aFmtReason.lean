/-
  The walk of intervalReason (functions 6 and 8): for every F, what comes back is F's text for this reading.
-/
import Derived.Test.Qxb6615014aFmtFacts
import Derived.Test.Qxb6615014aFmtNum
import Derived.Test.Qxb6615014aFmtStr
import Derived.WalkKit
import Derived.WalkSpells
import Derived.WalkLawsBesides
namespace Go.Proofs.Qxb6615014aFmt
open Go.RowKit Go.Extern.Stop Go.Stop Go.Extern Go.Lib

theorem hide {p : Prop} (h : p) : Hid p := h

def fmtL : List UInt8 := [37, 115, 32, 105, 115, 32, 110, 111, 116, 32, 97, 32, 119, 104, 111, 108, 101, 32, 110, 117, 109, 98, 101, 114, 32, 111, 102, 32, 115, 101, 99, 111, 110, 100, 115, 32, 102, 114, 111, 109, 32, 48, 44, 32, 102, 111, 114, 32, 110, 111, 32, 104, 101, 97, 114, 116, 98, 101, 97, 116, 115, 44, 32, 116, 111, 32, 37, 100]

def reading (g : List UInt8) : List (List UInt8) :=
  [[37, 115, 32, 105, 115, 32, 110, 111, 116, 32, 97, 32, 119, 104, 111, 108, 101, 32, 110, 117, 109, 98, 101, 114, 32, 111, 102, 32, 115, 101, 99, 111, 110, 100, 115, 32, 102, 114, 111, 109, 32, 48, 44, 32, 102, 111, 114, 32, 110, 111, 32, 104, 101, 97, 114, 116, 98, 101, 97, 116, 115, 44, 32, 116, 111, 32, 37, 100], Tryf.shape9, FmtStop.pack g, Tryf.shape3, digits 8 9223372036]

/-- The text behind the given one, but for the numeral. -/
def midL : List UInt8 := [32, 105, 115, 32, 110, 111, 116, 32, 97, 32, 119, 104, 111, 108, 101, 32, 110, 117, 109, 98, 101, 114, 32, 111, 102, 32, 115, 101, 99, 111, 110, 100, 115, 32, 102, 114, 111, 109, 32, 48, 44, 32, 102, 111, 114, 32, 110, 111, 32, 104, 101, 97, 114, 116, 98, 101, 97, 116, 115, 44, 32, 116, 111, 32]

set_option maxHeartbeats 400000 in
theorem reason_any (F : Interp) (g : ByteArray) (w : World) (hF : F.answers w.tape) :
    Calls Tryf.prog 6 #[.string g] w fun e w' => e = .returned (.string (FmtStop.textOf (F "fmt.Sprintf" (reading g.data.toList) 0))) ∧ w' = (w.alloc (.cells #[.iface 9 (.string g), .iface 3 (.int .i64 9223372036)] 20)).drew := by
  have hF' := answers_open hF
  go_enter Tryf.func6, Tryf.ntmps6
  go_wp2
  go_ret
  exact ⟨rfl, rfl⟩
end Go.Proofs.Qxb6615014aFmt
