/-
  The walk of FnIntervalReasonJoin.
-/
import Derived.Test.Qxb6615014aFmtReason
namespace Go.Proofs.Qxb6615014aFmt
open Go.RowKit Go.Extern.Stop Go.Stop Go.Extern Go.Lib

set_option maxHeartbeats 400000 in
theorem join_long (a b : ByteArray) (w : World) (h : ¬ a.size + b.size ≤ 1048576) (ha : a.size ≤ 9223372036854775807) (hb : b.size ≤ 9223372036854775807):
    Calls Tryf.prog 3 #[.string a, .string b] w fun e w' => e = .returned (.bool true) ∧ w' = w := by
  by_cases h1 : a.size ≤ 1048576
  · by_cases h2 : b.size ≤ 1048576
    · go_enter Tryf.func3, Tryf.ntmps3
      go_wp2
      go_ret
      exact ⟨rfl, rfl⟩
    · go_enter Tryf.func3, Tryf.ntmps3
      go_wp2
      go_ret
      exact ⟨rfl, rfl⟩
  · go_enter Tryf.func3, Tryf.ntmps3
    go_wp2
    go_ret
    exact ⟨rfl, rfl⟩

theorem ext_l (a b : ByteArray) (n : Nat) (hn : n = a.size) : (a ++ b).extract 0 n = a := by
  apply Str.bytes_ext
  rw [Str.ext_list, Str.app_list, hn, Str.size_list]; simp

set_option maxHeartbeats 400000 in
theorem join_ok (F : Interp) (a b S : ByteArray) (w : World) (h : a.size + b.size ≤ 1048576) (hF : F.answers w.tape) (h1 : 1 ≤ S.size) (h2 : S.size ≤ 100)
    (hab : FmtStop.textOf (F "fmt.Sprintf" (reading (a ++ b).data.toList) 0) = a ++ (b ++ S)) (hbb : FmtStop.textOf (F "fmt.Sprintf" (reading b.data.toList) 0) = b ++ S) :
    Calls Tryf.prog 3 #[.string a, .string b] w fun e w' => e = .returned (.bool true) ∧ Grown w w' := by
  have HA := hide hab
  have HB := hide hbb
  clear hab hbb
  go_enter Tryf.func3, Tryf.ntmps3
  go_wp2_with (first | (go_at_call 5; go_in))
  refine (reason_any F (a ++ b) _ (by exact hF)).mono ?_
  rintro e w1 ⟨rfl, rfl⟩
  rw [HA.out]
  go_wp2_with fail
  refine (reason_any F b _ (by exact hF)).mono ?_
  rintro e w1 ⟨rfl, rfl⟩
  rw [HB.out]
  have hs : (b ++ S).size = b.size + S.size := by simp
  have he := ext_l b S b.size rfl
  go_wp2
  go_ret
  exact ⟨rfl, by repeat (first | exact Grown.refl _ | apply Grown.drew | apply Grown.alloc)⟩
end Go.Proofs.Qxb6615014aFmt
