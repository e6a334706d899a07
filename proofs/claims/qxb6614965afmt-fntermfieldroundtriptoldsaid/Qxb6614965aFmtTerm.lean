import Derived.Test.Qxb6614965aFmtParse
namespace Go.Proofs.Qxb6614965aFmt
open Go.RowKit Go.Extern.Stop Go.Stop Go.Extern Go.Lib

def reading (k : Int) : List (List UInt8) :=
  [[118, 97, 108, 117, 97, 116, 105, 111, 110, 46, 116, 101, 114, 109, 115, 91, 37, 100, 93], Tryf.shape3, digits 8 (k % 18446744073709551616).toNat]

set_option maxHeartbeats 400000 in
theorem term_top (F : Interp) (k : Int) (b : Nat) (fld : ByteArray) (w : World) (hF : F.answers w.tape) (hb : b < w.heap.size) (hc : w.cell? ⟨b, 11, none⟩ = some (.string fld)) (hf : fld.toList.isEmpty = true) :
    Calls Tryf.prog 6 #[.pointer (some ⟨b, 0, none⟩), .int .i64 k] w fun e w' => e = .returned (.string (FmtStop.textOf (F "fmt.Sprintf" (reading k) 0))) ∧ w' = (w.alloc (.cells #[.iface 3 (.int .i64 k)] 20)).drew := by
  have hF' := answers_open hF
  go_enter Tryf.func6, Tryf.ntmps6
  go_wp2
  go_ret
  exact ⟨rfl, rfl⟩
set_option maxHeartbeats 400000 in
theorem term_dot (F : Interp) (k : Int) (b : Nat) (fld : ByteArray) (w : World) (hF : F.answers w.tape) (hb : b < w.heap.size) (hc : w.cell? ⟨b, 11, none⟩ = some (.string fld)) (hf : fld.toList.isEmpty = false) (hsz : fld.size ≤ 1048576) (htx : (FmtStop.textOf (F "fmt.Sprintf" (reading k) 0)).size ≤ 100) :
    Calls Tryf.prog 6 #[.pointer (some ⟨b, 0, none⟩), .int .i64 k] w fun e w' => e = .returned (.string (fld ++ ⟨#[46]⟩ ++ FmtStop.textOf (F "fmt.Sprintf" (reading k) 0))) ∧ w' = (w.alloc (.cells #[.iface 3 (.int .i64 k)] 20)).drew := by
  have hF' := answers_open hF
  unfold reading at htx
  go_enter Tryf.func6, Tryf.ntmps6
  go_wp2
  go_ret
  exact ⟨rfl, rfl⟩
end Go.Proofs.Qxb6614965aFmt
