/-
  zzOptions on an empty slice, and the given function on a slice past its bound.
-/
import Derived.Test.Qxb6615096aFmtOptions
namespace Go.Proofs.Qxb6615096aFmt
open Go.RowKit Go.Extern.Stop Go.Stop Go.Extern Go.Deep

set_option maxRecDepth 100000 in
set_option maxHeartbeats 1600000 in
theorem options_nil (ao : Option Addr) (len cap : Nat) (O : Nat → Opt) (w : World) (h0 : len = 0) :
    Calls Tryf.prog 13 #[.slice ao len cap] w fun e w' => e = .returned (.slice (some ⟨w.heap.size, 0, none⟩) len len) ∧ (∃ bx, Opts w' w.heap.size len len O bx) ∧ Below w.heap.size w w' := by
  have H0 := hide h0
  have hl : len ≤ 65536 := by omega
  clear h0
  have hmk := run_make_row' (P := Tryf.prog) 31 55 .nilFunc 8 Tryf.underlying31 info55 rfl .i64 .i64 len (by omega) (by omega)
  go_enter Tryf.func13, Tryf.ntmps13
  go_wp2
  clear hmk
  go_loopw [10] (fun i wr => i = .int .i64 len ∧ (∃ bx, Opts wr w.heap.size len len O bx) ∧ Below w.heap.size w wr) (fun _ _ => 0)
  case atStart => exact ⟨by rw [H0.out]; rfl, ⟨_, by have h := opts_start w len O; rw [H0.out] at h ⊢; exact h⟩, (Below.refl _ _).alloc (Nat.le_refl _) _⟩
  case round =>
    obtain ⟨rfl, ⟨bx, hP⟩, hbel⟩ := hrel
    have HP := hide hP
    have HBE := hide hbel
    clear hP hbel
    go_wp2
    go_ret
    exact ⟨rfl, ⟨bx, HP.out⟩, HBE.out⟩

set_option maxRecDepth 100000 in
set_option maxHeartbeats 1600000 in
theorem main_long (ao : Option Addr) (len cap : Nat) (w : World) (hl : 65536 < len) :
    Calls Tryf.prog 4 #[.slice ao len cap] w fun e w' => e = .returned (.bool true) ∧ Below w.heap.size w w' := by
  by_cases h : len ≤ 1048576
  · go_enter Tryf.func4, Tryf.ntmps4
    go_wp2
    go_ret
    exact ⟨rfl, Below.refl _ _⟩
  · go_enter Tryf.func4, Tryf.ntmps4
    go_wp2
    go_ret
    exact ⟨rfl, Below.refl _ _⟩
end Go.Proofs.Qxb6615096aFmt
