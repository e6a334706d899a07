/-
  errors.Is(the MultiError, the reason of its k-th BindError): true.
-/
import Derived.Test.Qxb6615096aDoorUnwrap
namespace Go.Proofs.Qxb6615096aDoor
open Go.RowKit Go.Extern.Stop Go.Stop Go.Extern

/-- The MultiError at m over the list at L of n BindErrors, the i-th at 'pf i', its reason at 'qf i'. -/
structure Built (w : World) (m L n : Nat) (pf qf : Nat → Nat) : Prop where
  multi : w.cell? ⟨m, 0, none⟩ = some (.slice (some ⟨L, 0, none⟩) n n)
  mlt : m < w.heap.size
  row : w.rowIs L 31 n (fun i => .pointer (some ⟨pf i, 0, none⟩))
  plt : ∀ i, i < n → pf i < w.heap.size
  reason : ∀ i, i < n → w.cell? ⟨pf i, 5, none⟩ = some (.iface 59 (.pointer (some ⟨qf i, 0, none⟩)))
  qlt : ∀ i, i < n → qf i < w.heap.size
  box : ∀ i, i < n → ∃ c, w.heap[qf i]? = some (.cells c 61 (0, 0))

theorem Built.keep {w w' : World} {m L n : Nat} {pf qf : Nat → Nat} (h : Built w m L n pf qf) (hb : Below w.heap.size w w') : Built w' m L n pf qf where
  multi := (hb.cell (p := ⟨m, 0, none⟩) h.mlt).trans h.multi
  mlt := Nat.lt_of_lt_of_le h.mlt hb.size
  row := h.row.of_block (hb.block L h.row.lt)
  plt := fun i hi => Nat.lt_of_lt_of_le (h.plt i hi) hb.size
  reason := fun i hi => (hb.cell (p := ⟨pf i, 5, none⟩) (h.plt i hi)).trans (h.reason i hi)
  qlt := fun i hi => Nat.lt_of_lt_of_le (h.qlt i hi) hb.size
  box := fun i hi => by
    obtain ⟨c, hc⟩ := h.box i hi
    exact ⟨c, (hb.block _ (h.qlt i hi)).trans hc⟩

set_option maxHeartbeats 1600000 in
theorem is_multi (m L n k : Nat) (pf qf : Nat → Nat) (w : World) (hB : Built w m L n pf qf) (hk : k < n) (hn : n ≤ 65536) :
    Calls Tryd.prog 14 #[.iface 27 (.pointer (some ⟨m, 0, none⟩)), .iface 59 (.pointer (some ⟨qf k, 0, none⟩)), .bool true] w fun e w' => e = .returned (.bool true) ∧ Below w.heap.size w w' := by
  have nM := noIsM
  have uM := noUnwrapM
  have vM := hasUnwrapsM
  have mM := methodUnwrapM
  have hne : ∀ v u : Value, (binOp .eql 38 (.iface 27 v) (.iface 59 u)).run Tryd.prog w = .ok (.bool false) w := fun v u => run_eql_iface_types 27 59 v u Tryd.underlying38 (by decide) w
  go_enter Tryd.func14, Tryd.ntmps14
  go_wp2
  refine wp_loop_rounds 1 ?_
  rw [rounds_succ]
  go_wp2_with fail
  refine (unwrap_multi m L n pf _ hB.multi hB.mlt hB.row hn).mono ?_
  rintro e w1 ⟨rfl, hrow, hb⟩
  have hB1 := hB.keep hb
  have HB1 := hide hB1
  have HR := hide hrow
  have HBL := hide hb
  generalize w.heap.size = g at HR ⊢
  clear hB hB1 hrow hb hne
  go_wp2
  go_loop [45] (fun i => ∃ j : Nat, j ≤ k ∧ i = .int .i64 j) (fun i => n - (intOf i).toNat)
  case atStart => exact ⟨0, Nat.zero_le _, rfl⟩
  case round =>
    obtain ⟨j, hj, rfl⟩ := hrel
    have hjn : j < n := by omega
    have hc := HR.out.cell hjn
    have hpj := HB1.out.reason j hjn
    by_cases hq : qf j = qf k
    · rw [hq] at hpj
      go_wp2_with fail
      refine (is_bind_same (pf j) (qf k) _ hpj).mono ?_
      rintro e w2 ⟨rfl, rfl⟩
      go_wp2
      go_ret
      exact ⟨rfl, HBL.out⟩
    · obtain ⟨cq, hbq⟩ := HB1.out.box j hjn
      obtain ⟨ct, hbt⟩ := HB1.out.box k hk
      have Hbq := hide hbq
      have Hbt := hide hbt
      have Hq := hide hq
      have hjk : j < k := by
        rcases Nat.lt_or_ge j k with h | h
        · exact h
        · exact absurd (congrArg qf (show j = k by omega)) hq
      clear hbq hbt hq
      go_wp2_with fail
      refine (is_bind_other (pf j) (qf j) (qf k) cq ct _ hpj Hq.out Hbq.out Hbt.out).mono ?_
      rintro e w2 ⟨rfl, rfl⟩
      go_wp2
      go_round
      case rel => exact ⟨j + 1, hjk, by go_num⟩
      case measure => simp [intOf]; omega

set_option maxHeartbeats 800000 in
/-- ZZmultiHasReason(m, list[k]) (function 7): errors.Is over it. -/
theorem has_reason (m L n k : Nat) (pf qf : Nat → Nat) (w : World) (hB : Built w m L n pf qf) (hk : k < n) (hn : n ≤ 65536) :
    Calls Tryd.prog 7 #[.pointer (some ⟨m, 0, none⟩), .pointer (some ⟨pf k, 0, none⟩)] w fun e w' => e = .returned (.bool true) ∧ Below w.heap.size w w' := by
  have c13 := call13_59
  have c48 := call48_59
  have mR := isMethodComparable
  have hr := hB.reason k hk
  have HB := hide hB
  clear hB
  go_enter Tryd.func7, Tryd.ntmps7
  go_wp2_with (first | (go_at_call 10; go_in))
  refine (is_multi m L n k pf qf _ HB.out hk hn).mono ?_
  rintro e w1 ⟨rfl, hb⟩
  have H := hide hb
  clear hb
  go_wp2
  go_ret
  exact ⟨rfl, H.out⟩
end Go.Proofs.Qxb6615096aDoor
