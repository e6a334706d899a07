/-
  (*MultiError).Unwrap (function 39): a new row of errors, each the *BindError of the list; nothing that was there turns.
-/
import Derived.Test.Qxb6615096aDoorIs
import Derived.Deep.OwnRows
namespace Go.Proofs.Qxb6615096aDoor
open Go.RowKit Go.Extern.Stop Go.Stop Go.Extern

theorem info38 : (Tryd.prog.info? 38).map (fun i => (i.zero, i.size, i.bytes)) = some (some .nilIface, 1, 16) := by kernel_rfl

/-- The first k cells are filled. -/
def filled (pf : Nat → Nat) (k j : Nat) : Value := if j < k then .iface 31 (.pointer (some ⟨pf j, 0, none⟩)) else .nilIface

theorem filled_new (pf : Nat → Nat) (k : Nat) : filled pf k k = .nilIface := by simp [filled]
theorem filled_zero (pf : Nat → Nat) (j : Nat) : Value.nilIface = filled pf 0 j := by simp [filled]
theorem filled_step (pf : Nat → Nat) (k j : Nat) : (if j = k then .iface 31 (.pointer (some ⟨pf k, 0, none⟩)) else filled pf k j) = filled pf (k + 1) j := by
  unfold filled
  by_cases h : j = k
  · subst h; simp
  · by_cases h2 : j < k
    · rw [if_neg h, if_pos h2, if_pos (by omega)]
    · rw [if_neg h, if_neg h2, if_neg (by omega)]
theorem filled_full (pf : Nat → Nat) (n j : Nat) (h : j < n) : filled pf n j = .iface 31 (.pointer (some ⟨pf j, 0, none⟩)) := by simp [filled, h]

theorem unwrap_step {w wr : World} {g n k : Nat} {pf : Nat → Nat} (hrow : wr.rowIs g 38 n (filled pf k)) (hb : Below g w wr) :
    (wr.setCell ⟨g, k, none⟩ (.iface 31 (.pointer (some ⟨pf k, 0, none⟩)))).rowIs g 38 n (filled pf (k + 1)) ∧ Below g w (wr.setCell ⟨g, k, none⟩ (.iface 31 (.pointer (some ⟨pf k, 0, none⟩)))) :=
  ⟨(hrow.set k _).congr fun j _ => filled_step pf k j, hb.setCell (Nat.le_refl _) _⟩

set_option maxHeartbeats 800000 in
theorem unwrap_multi (m L n : Nat) (pf : Nat → Nat) (w : World) (hm : w.cell? ⟨m, 0, none⟩ = some (.slice (some ⟨L, 0, none⟩) n n)) (hml : m < w.heap.size)
    (hL : w.rowIs L 31 n (fun i => .pointer (some ⟨pf i, 0, none⟩))) (hn : n ≤ 65536) :
    Calls Tryd.prog 39 #[.pointer (some ⟨m, 0, none⟩)] w fun e w' => e = .returned (.slice (some ⟨w.heap.size, 0, none⟩) n n) ∧ w'.rowIs w.heap.size 38 n (fun i => .iface 31 (.pointer (some ⟨pf i, 0, none⟩))) ∧ Below w.heap.size w w' := by
  have hLlt := hL.lt
  have hmk := run_make_row' (P := Tryd.prog) 71 38 .nilIface 16 Tryd.underlying71 info38 rfl .i64 .i64 n (by omega) (by omega)
  go_enter Tryd.func39, Tryd.ntmps39
  go_wp2
  clear hmk
  go_loopw [17] (fun i wr => ∃ k : Nat, k ≤ n ∧ i = .int .i64 k ∧ wr.rowIs w.heap.size 38 n (filled pf k) ∧ Below w.heap.size w wr) (fun i _ => n - (intOf i).toNat)
  case atStart => exact ⟨0, Nat.zero_le _, rfl, (World.rowIs_made w .nilIface n 38).congr (fun j _ => filled_zero pf j), (Below.refl _ _).alloc (Nat.le_refl _) _⟩
  case round =>
    obtain ⟨k, hk, rfl, hrow, hb⟩ := hrel
    by_cases hlt : k < n
    · have hc1 : wr.cell? ⟨L, k, none⟩ = some (.pointer (some ⟨pf k, 0, none⟩)) := (hb.cell (p := ⟨L, k, none⟩) hLlt).trans (hL.cell hlt)
      have hc2 : wr.cell? ⟨w.heap.size, k, none⟩ = some .nilIface := (hrow.cell hlt).trans (by rw [filled_new])
      have hf2 := hrow.frozen k
      have R := hide (unwrap_step hrow hb)
      clear hrow hb
      go_wp2
      go_roundw
      case rel => exact ⟨k + 1, hlt, by go_num, R.out.1, R.out.2⟩
      case measure => simp [intOf]; omega
    · go_wp2
      go_ret
      exact ⟨rfl, hrow.congr (fun j hj => by rw [show k = n by omega]; exact filled_full pf n j hj), hb⟩
end Go.Proofs.Qxb6615096aDoor
