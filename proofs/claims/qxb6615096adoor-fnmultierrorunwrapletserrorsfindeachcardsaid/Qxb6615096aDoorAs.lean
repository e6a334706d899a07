/-
  errors.As(the MultiError, a *BindError variable): it sets the variable to the first of the list.
-/
import Derived.Test.Qxb6615096aDoorAsFacts
import Derived.Test.Qxb6615096aDoorIsMulti
namespace Go.Proofs.Qxb6615096aDoor
open Go.RowKit Go.Extern.Stop Go.Stop Go.Extern

set_option maxHeartbeats 1600000 in
/-- errors.as at the BindError at e: the variable at t is set. -/
theorem as_bind (e t a : Addr) (old tgt : Value) (w : World) (ha : w.cell? a = some (.pointer (some t))) (ht : w.cell? t = some old) (hf : w.frozen? t = false) (hal : a.block < w.heap.size) (htl : t.block < w.heap.size) :
    Calls Tryd.prog 18 #[.iface 31 (.pointer (some e)), tgt, .agg #[.pointer (some ⟨1, 42, none⟩), .pointer (some a), .int .u64 150], .iface 63 (.agg #[.pointer (some ⟨1, 31, none⟩)])] w
      fun ev w' => ev = .returned (.bool true) ∧ w' = ((w.alloc (.cells #[.pointer (some ⟨1, 42, none⟩), .pointer (some a), .int .u64 150] 52)).alloc (.cells #[.pointer (some e)] 31)).setCell t (.pointer (some e)) := by
  have tO := call13_31
  have mA := methodAssignableTo
  have a31 := call47_31
  have v31 := call15_31 e
  have ha1 : (w.alloc (.cells #[.pointer (some ⟨1, 42, none⟩), .pointer (some a), .int .u64 150] 52)).cell? a = some (.pointer (some t)) := by
    rw [World.cell?_alloc_lt _ _ a hal]; exact ha
  have el := call19_42 a t (w.alloc (.cells #[.pointer (some ⟨1, 42, none⟩), .pointer (some a), .int .u64 150] 52)) ha1
  have st := call20_31 t ⟨w.heap.size + 1, 0, none⟩ e old ((w.alloc (.cells #[.pointer (some ⟨1, 42, none⟩), .pointer (some a), .int .u64 150] 52)).alloc (.cells #[.pointer (some e)] 31))
    (by rw [World.cell?_alloc_at _ _ _ _ (by simp)]; rfl)
    (by rw [World.cell?_alloc_lt _ _ t (by simp; omega), World.cell?_alloc_lt _ _ t htl]; exact ht)
    (by rw [World.frozen?_alloc_old _ _ t (by simp; omega), World.frozen?_alloc_old _ _ t (Nat.ne_of_lt htl)]; exact hf)
  clear ha1 ha ht hf
  go_enter Tryd.func18, Tryd.ntmps18
  go_wp2
  refine wp_loop_rounds 1 ?_
  rw [rounds_succ]
  go_wp2
  go_ret
  exact ⟨rfl, rfl⟩

set_option maxHeartbeats 1600000 in
/-- errors.as at the MultiError: the variable at t is set to the first of the list. -/
theorem as_multi (m L n : Nat) (pf qf : Nat → Nat) (T : Nat) (a : Addr) (tgt : Value) (w : World) (hB : Built w m L n pf qf) (h0 : 0 < n) (hn : n ≤ 65536)
    (ha : w.cell? a = some (.pointer (some ⟨T, 0, none⟩))) (ht : w.cell? ⟨T, 0, none⟩ = some (.pointer none)) (hf : w.frozen? ⟨T, 0, none⟩ = false) (hal : a.block < w.heap.size) (htl : T < w.heap.size) :
    Calls Tryd.prog 18 #[.iface 27 (.pointer (some ⟨m, 0, none⟩)), tgt, .agg #[.pointer (some ⟨1, 42, none⟩), .pointer (some a), .int .u64 150], .iface 63 (.agg #[.pointer (some ⟨1, 31, none⟩)])] w
      fun ev w' => ev = .returned (.bool true) ∧ w'.cell? ⟨T, 0, none⟩ = some (.pointer (some ⟨pf 0, 0, none⟩)) ∧ Below T w w' := by
  have tO := call13_27
  have mA := methodAssignableTo
  have a27 := call47_27
  have nM := noAsM
  have uM := noUnwrapM
  have vM := hasUnwrapsM
  have mM := methodUnwrapM
  have hb0 : Below w.heap.size w (w.alloc (.cells #[.pointer (some ⟨1, 42, none⟩), .pointer (some a), .int .u64 150] 52)) := (Below.refl _ _).alloc (Nat.le_refl _) _
  have hB0 := hide (hB.keep hb0)
  have HB0 := hide hb0
  have HA := hide ha
  have HT := hide ht
  have HF := hide hf
  clear hB hb0 ha ht hf
  go_enter Tryd.func18, Tryd.ntmps18
  go_wp2
  refine wp_loop_rounds 1 ?_
  rw [rounds_succ]
  go_wp2_with fail
  refine (unwrap_multi m L n pf _ hB0.out.multi hB0.out.mlt hB0.out.row hn).mono ?_
  rintro e w1 ⟨rfl, hrow, hb⟩
  have hbx : Below (w.heap.size + 1) (w.alloc (.cells #[.pointer (some ⟨1, 42, none⟩), .pointer (some a), .int .u64 150] 52)) w1 := hb.mono (by simp)
  have hsz : w.heap.size + 1 ≤ w1.heap.size := by have := hb.size; simpa using this
  have hw1 : Below w.heap.size w w1 := HB0.out.trans (hbx.mono (by omega))
  have c0 : w1.cell? ⟨w.heap.size + 1, 0, none⟩ = some (.iface 31 (.pointer (some ⟨pf 0, 0, none⟩))) := by have := hrow.cell h0; simpa using this
  have b0 : w1.cell? ⟨w.heap.size, 0, none⟩ = some (.pointer (some ⟨1, 42, none⟩)) := (hbx.cell (p := ⟨w.heap.size, 0, none⟩) (by simp)).trans (by simp)
  have b1 : w1.cell? ⟨w.heap.size, 1, none⟩ = some (.pointer (some a)) := (hbx.cell (p := ⟨w.heap.size, 1, none⟩) (by simp)).trans (by simp)
  have b2 : w1.cell? ⟨w.heap.size, 2, none⟩ = some (.int .u64 150) := (hbx.cell (p := ⟨w.heap.size, 2, none⟩) (by simp)).trans (by simp)
  have hlt1 : w.heap.size < w1.heap.size := by omega
  have hal1 : a.block < w1.heap.size := by omega
  have htl1 : T < w1.heap.size := by omega
  have ha1 := hide ((hw1.cell hal).trans HA.out)
  have ht1 := hide ((hw1.cell (p := ⟨T, 0, none⟩) htl).trans HT.out)
  have hf1 := hide ((hw1.frozen (p := ⟨T, 0, none⟩) htl).trans HF.out)
  have HW := hide hw1
  rw [World.size_alloc]
  clear hb hrow hbx HA HT HF HB0 hB0 hw1
  go_wp2
  refine wp_loop_rounds 1 ?_
  rw [rounds_succ]
  go_wp2_with fail
  refine (as_bind ⟨pf 0, 0, none⟩ ⟨T, 0, none⟩ a (.pointer none) tgt _ ha1.out ht1.out hf1.out hal1 htl1).mono ?_
  rintro e w2 ⟨rfl, rfl⟩
  go_wp2
  go_ret
  refine ⟨rfl, ?_, ?_⟩
  · rw [World.cell?_alloc_lt _ _ ⟨T, 0, none⟩ (by simp [World.setCell]; omega), World.cell?_alloc_lt _ _ ⟨T, 0, none⟩ (by simp [World.setCell]; omega)]
    exact World.cell?_setCell_same _ _ _ ht1.out
  · have hbel : Below T w w1 := HW.out.mono (Nat.le_of_lt htl)
    exact ((hbel.setCell (p := ⟨T, 0, none⟩) (Nat.le_refl _) _).alloc (by simp [World.setCell]; omega) _).alloc (by simp [World.setCell]; omega) _

set_option maxHeartbeats 1600000 in
/-- ZZmultiAsFirst(m) (function 8): the first of the list. -/
theorem as_first (m L n : Nat) (pf qf : Nat → Nat) (w : World) (hB : Built w m L n pf qf) (h0 : 0 < n) (hn : n ≤ 65536)
    (hg : w.cell? ⟨0, 0, none⟩ = some (.iface 63 (.agg #[.pointer (some ⟨1, 38, none⟩)]))) :
    Calls Tryd.prog 8 #[.pointer (some ⟨m, 0, none⟩)] w fun e w' => e = .returned (.pointer (some ⟨pf 0, 0, none⟩)) ∧ Below w.heap.size w w' := by
  have hlt : 0 < w.heap.size := by have := hB.mlt; omega
  have v42 := call15_42 ⟨w.heap.size, 0, none⟩
  have f16 := call16_42
  have mK := methodKind
  have mE := methodElem
  have mI := methodImplements
  have k42 := call35_42
  have k31 := call35_31
  have e42 := call49_42
  have i31 := call50_31
  have n17 := call17_42 ⟨w.heap.size + 1, 0, none⟩ ⟨w.heap.size, 0, none⟩ (((w.alloc (.cells #[.pointer none] 31)).alloc (.cells #[.pointer (some ⟨w.heap.size, 0, none⟩)] 42)).alloc (.cells #[.pointer (some ⟨1, 42, none⟩), .pointer (some ⟨w.heap.size + 1, 0, none⟩), .int .u64 150] 52))
    (by rw [World.cell?_alloc_lt _ _ ⟨w.heap.size + 1, 0, none⟩ (by simp), World.cell?_alloc_at _ _ _ _ (by simp)]; rfl)
  have HB := hide hB
  clear hB
  go_enter Tryd.func8, Tryd.ntmps8
  go_wp2_with (first | (go_at_call 11; go_in))
  have hb3 : Below w.heap.size w (((w.alloc (.cells #[.pointer none] 31)).alloc (.cells #[.pointer (some ⟨w.heap.size, 0, none⟩)] 42)).alloc (.cells #[.pointer (some ⟨1, 42, none⟩), .pointer (some ⟨w.heap.size + 1, 0, none⟩), .int .u64 150] 52)) :=
    (((Below.refl _ _).alloc (Nat.le_refl _) _).alloc (by simp) _).alloc (by simp; omega) _
  refine (as_multi m L n pf qf w.heap.size ⟨w.heap.size + 1, 0, none⟩ _ _ (HB.out.keep hb3) h0 hn ?_ ?_ ?_ ?_ ?_).mono ?_
  · rw [World.cell?_alloc_lt _ _ ⟨w.heap.size + 1, 0, none⟩ (by simp), World.cell?_alloc_at _ _ _ _ (by simp)]; rfl
  · rw [World.cell?_alloc_lt _ _ ⟨w.heap.size, 0, none⟩ (by simp; omega), World.cell?_alloc_lt _ _ ⟨w.heap.size, 0, none⟩ (by simp), World.cell?_alloc_at _ _ _ _ rfl]; rfl
  · rw [World.frozen?_alloc_old _ _ ⟨w.heap.size, 0, none⟩ (by simp; omega), World.frozen?_alloc_old _ _ ⟨w.heap.size, 0, none⟩ (by simp), World.frozen?_alloc_at _ _ _ _ rfl]
  · simp
  · simp; omega
  rintro e w1 ⟨rfl, hc, hb⟩
  have H := hide (hb3.trans hb)
  clear hb3 hb n17 v42
  go_wp2
  go_ret
  exact ⟨rfl, H.out⟩
end Go.Proofs.Qxb6615096aDoor
