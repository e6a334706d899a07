/-
  The two screens of the law: zzBytes (function 4) and zzBindsTooBig (function 5): each returns a bool, and nothing that was there turns.
-/
import Derived.Test.Qxb6615096aDoorIs
namespace Go.Proofs.Qxb6615096aDoor
open Go.RowKit Go.Extern.Stop Go.Stop Go.Extern

/-- It returned a bool. -/
def RetBool (e : Ending) : Prop := ∃ r, e = .returned (.bool r)
theorem RetBool.mk (r : Bool) : RetBool (.returned (.bool r)) := ⟨r, rfl⟩

set_option maxRecDepth 100000 in
set_option maxHeartbeats 1600000 in
theorem bytes_row (b off len cap : Nat) (k : Int) (sf : Nat → Nat → ByteArray) (w : World) (hlen : len ≤ 9223372036854775807)
    (hc : ∀ i j, i < len → j < 6 → w.cell? ⟨b, off + i * 6 + j, none⟩ = some (.string (sf i j))) :
    Calls Tryd.prog 4 #[.slice (some ⟨b, off, none⟩) len cap, .int .i64 k] w fun e w' => RetBool e ∧ w' = w := by
  have HC := hide hc
  clear hc
  by_cases hl : len ≤ 1048576
  · go_enter Tryd.func4, Tryd.ntmps4
    go_wp2
    go_loop [5, 6] (fun z i => ∃ (k : Nat) (y : Int), k ≤ len ∧ i = .int .i64 k ∧ z = .int .i64 y) (fun _ i => len - (intOf i).toNat)
    case atStart => exact ⟨0, _, Nat.zero_le _, rfl, rfl⟩
    case round =>
      obtain ⟨k, y, hk, rfl, rfl⟩ := hrel
      by_cases hlt : k < len
      · have c0 := HC.out k 0 hlt (by omega)
        have c1 := HC.out k 1 hlt (by omega)
        have c2 := HC.out k 2 hlt (by omega)
        have c3 := HC.out k 3 hlt (by omega)
        have c4 := HC.out k 4 hlt (by omega)
        have c5 := HC.out k 5 hlt (by omega)
        rw [Nat.add_zero] at c0
        go_wp2
        all_goals try (go_ret; exact ⟨RetBool.mk _, rfl⟩)
        go_round
        case rel => exact ⟨k + 1, _, hlt, by go_num, rfl⟩
        case measure => simp [intOf]; omega
      · go_wp2
        go_ret
        exact ⟨RetBool.mk _, rfl⟩
  · go_enter Tryd.func4, Tryd.ntmps4
    go_wp2
    go_ret
    exact ⟨RetBool.mk _, rfl⟩

theorem bytes_nil (ao : Option Addr) (k : Int) (cap : Nat) (w : World) :
    Calls Tryd.prog 4 #[.slice ao 0 cap, .int .i64 k] w fun e w' => RetBool e ∧ w' = w := by
  go_enter Tryd.func4, Tryd.ntmps4
  go_wp2
  refine wp_loop_rounds 1 ?_
  rw [rounds_succ]
  go_wp2
  go_ret
  exact ⟨RetBool.mk _, rfl⟩
end Go.Proofs.Qxb6615096aDoor
