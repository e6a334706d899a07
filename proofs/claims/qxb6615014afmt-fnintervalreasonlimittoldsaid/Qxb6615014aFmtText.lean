/-
  What fmt.Sprintf's text is told to be for this format (the kit's FmtText), and the closed facts of the told cards of this seat.
-/
import Derived.Test.Qxb6615014aFmtRows
import Derived.Test.Qxb6615014aFmtCards
import Derived.Test.Qxb6615014aFmtReason
import Derived.ProofKit
import Derived.Stop.JoinedAt
import Derived.Stop.Texts
import Derived.Stop.JoinedTold
import Derived.Stop.FmtTextKit
import Derived.SizedLaws
import Derived.SevenToldRow
namespace Go.Proofs.Qxb6615014aFmt
open Go.ChangeShapes Go.WideShapes Go.ChangeAt Go.RowKit Go.Kit
open Go.Extern.Stop Go.Stop Go.Extern

theorem own : ownKnob Tryf.prog.godebug = none := by kernel_rfl

theorem t_parse : (FmtText.parse [37, 115, 32, 105, 115, 32, 110, 111, 116, 32, 97, 32, 119, 104, 111, 108, 101, 32, 110, 117, 109, 98, 101, 114, 32, 111, 102, 32, 115, 101, 99, 111, 110, 100, 115, 32, 102, 114, 111, 109, 32, 48, 44, 32, 102, 111, 114, 32, 110, 111, 32, 104, 101, 97, 114, 116, 98, 101, 97, 116, 115, 44, 32, 116, 111, 32, 37, 100]).map FmtText.glue = some [.verb {} 115, .lit [32, 105, 115, 32, 110, 111, 116, 32, 97, 32, 119, 104, 111, 108, 101, 32, 110, 117, 109, 98, 101, 114, 32, 111, 102, 32, 115, 101, 99, 111, 110, 100, 115, 32, 102, 114, 111, 109, 32, 48, 44, 32, 102, 111, 114, 32, 110, 111, 32, 104, 101, 97, 114, 116, 98, 101, 97, 116, 115, 44, 32, 116, 111, 32], .verb {} 100] := by rfl

/-- The text behind the given one. -/
def tailL : List UInt8 := midL ++ Lib.decDigits 9223372036

theorem tail_len : tailL.length = 64 + Lib.nDigits 9223372036 := by
  unfold tailL
  rw [List.length_append, Lib.decDigits_length]
  rfl

theorem tail_bounds : 65 ≤ tailL.length ∧ tailL.length ≤ 83 := by
  rw [tail_len]
  have h1 := Num.nDigits_le19 9223372036 (by decide)
  have h2 := Lib.nDigits_pos 9223372036
  omega

theorem t_gen (g : List UInt8) (hg : g.length < 2 ^ 64) (n : Int) (hw : (Lit.int .i64 n).wf = true) :
    FmtText.text "fmt.Sprintf" [[37, 115, 32, 105, 115, 32, 110, 111, 116, 32, 97, 32, 119, 104, 111, 108, 101, 32, 110, 117, 109, 98, 101, 114, 32, 111, 102, 32, 115, 101, 99, 111, 110, 100, 115, 32, 102, 114, 111, 109, 32, 48, 44, 32, 102, 111, 114, 32, 110, 111, 32, 104, 101, 97, 114, 116, 98, 101, 97, 116, 115, 44, 32, 116, 111, 32, 37, 100], Tryf.shape9, FmtStop.pack g, Tryf.shape3, digits 8 (n % 18446744073709551616).toNat] = some (g ++ (midL ++ Lib.itoa n)) := by
  have hi := FmtText.operand_int_at (sh := Tryf.shape3) (k := .i64) rfl rfl n hw
  have hn := FmtText.operand_str_at (sh := Tryf.shape9) rfl rfl g hg
  rw [FmtText.text_sprintf_glued t_parse (FmtText.operands_cons hn (FmtText.operands_cons hi FmtText.operands_nil))]
  simp [FmtText.render, FmtText.printArg_s_str, FmtText.printArg_d _ _ hw, midL]

theorem mod_num : ((9223372036 : Int) % 18446744073709551616).toNat = 9223372036 := by omega

theorem itoa_num : Lib.itoa 9223372036 = Lib.decDigits 9223372036 := by
  unfold Lib.itoa
  rw [if_neg (by omega)]
  exact congrArg Lib.decDigits (by omega)

theorem t_text (g : List UInt8) (hg : g.length < 2 ^ 64) : FmtText.text "fmt.Sprintf" (reading g) = some (g ++ tailL) := by
  have h := t_gen g hg 9223372036 (by decide)
  rw [mod_num, itoa_num] at h
  exact h

theorem text_is (F : Interp) (g : ByteArray) (hg : g.size ≤ 1048576) : FmtStop.textOf (F.told "fmt.Sprintf" (reading g.data.toList) 0) = g ++ ⟨tailL.toArray⟩ := by
  have hz : g.data.toList.length ≤ 1048576 := by rw [← Str.size_list]; exact hg
  have hb := tail_bounds
  have ht := told_string F (t_text g.data.toList (by omega)) (by rw [List.length_append]; omega)
  apply Str.bytes_ext
  rw [textOf_list, ht, Str.app_list]

theorem stops : Tryf.pinned.checked.prog.stops = ["fmt.Sprintf"] := by kernel_rfl
theorem stopKnobs : Tryf.pinned.checked.prog.stopKnobs = [] := by kernel_rfl
theorem laidOut : laidOutB Tryf.pinned.checked.prog = true := by kernel_rfl
theorem quiet (os : Os) : Stop.quiet Tryf.pinned.checked.prog os := by
  intro k hk
  rw [stopKnobs] at hk
  cases hk

end Go.Proofs.Qxb6615014aFmt
