/-
  zzBindsTooBig (function 5): it returns a bool (true where the list is longer than 65536), and nothing that was there turns.
-/
import Derived.Test.Qxb6615096aDoorBytes
namespace Go.Proofs.Qxb6615096aDoor
open Go.RowKit Go.Extern.Stop Go.Stop Go.Extern

set_option maxRecDepth 100000 in
set_option maxHeartbeats 1600000 in
theorem big_row (b off len cap : Nat) (sf : Nat → Nat → ByteArray) (w : World) (hl : len ≤ 65536) (hb : b < w.heap.size)
    (hc : ∀ i j, i < len → j < 6 → w.cell? ⟨b, off + i * 6 + j, none⟩ = some (.string (sf i j))) :
    Calls Tryd.prog 5 #[.slice (some ⟨b, off, none⟩) len cap] w fun e w' => RetBool e ∧ Below w.heap.size w w' := by
  have HC := hide hc
  clear hc
  go_enter Tryd.func5, Tryd.ntmps5
  go_wp2
  go_loopw [3, 11] (fun z i wr => ∃ (k : Nat) (y : Int), k ≤ len ∧ i = .int .i64 k ∧ z = .int .i64 y ∧ Below w.heap.size w wr) (fun _ i _ => len - (intOf i).toNat)
  case atStart => exact ⟨0, _, Nat.zero_le _, rfl, rfl, Below.refl _ _⟩
  case round =>
    obtain ⟨k, y, hk, rfl, rfl, hbel⟩ := hrel
    have HBE := hide hbel
    have hx : Hid (∀ j, j < 6 → k < len → wr.cell? ⟨b, off + k * 6 + j, none⟩ = some (.string (sf k j))) := fun j hj hlt => (hbel.cell (p := ⟨b, off + k * 6 + j, none⟩) hb).trans (HC.out k j hlt hj)
    have hbr : b < wr.heap.size := Nat.lt_of_lt_of_le hb hbel.size
    clear hbel
    by_cases hlt : k < len
    · have c0 := hx.out 0 (by omega) hlt
      have c1 := hx.out 1 (by omega) hlt
      have c2 := hx.out 2 (by omega) hlt
      have c3 := hx.out 3 (by omega) hlt
      have c4 := hx.out 4 (by omega) hlt
      have c5 := hx.out 5 (by omega) hlt
      rw [Nat.add_zero] at c0
      go_wp2
      all_goals try (go_ret; exact ⟨RetBool.mk _, HBE.out.alloc HBE.out.size _⟩)
      go_roundw
      case rel => exact ⟨k + 1, _, hlt, by go_num, rfl, HBE.out.alloc HBE.out.size _⟩
      case measure => simp [intOf]; omega
    · go_wp2
      go_ret
      exact ⟨RetBool.mk _, HBE.out⟩

set_option maxHeartbeats 400000 in
theorem big_long (ao : Option Addr) (len cap : Nat) (w : World) (hlen : len ≤ 9223372036854775807) (hl : ¬ len ≤ 65536) :
    Calls Tryd.prog 5 #[.slice ao len cap] w fun e w' => e = .returned (.bool true) ∧ w' = w := by
  have h1 : (65536 : Int) < (len : Int) := by omega
  clear hl
  go_enter Tryd.func5, Tryd.ntmps5
  go_wp2
  go_ret
  exact ⟨rfl, rfl⟩

theorem big_nil (ao : Option Addr) (cap : Nat) (w : World) :
    Calls Tryd.prog 5 #[.slice ao 0 cap] w fun e w' => RetBool e ∧ w' = w := by
  go_enter Tryd.func5, Tryd.ntmps5
  go_wp2
  refine wp_loop_rounds 1 ?_
  rw [rounds_succ]
  go_wp2
  go_ret
  exact ⟨RetBool.mk _, rfl⟩
end Go.Proofs.Qxb6615096aDoor
