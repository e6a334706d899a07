/-
  zzBuild (function 6): a new row of new BindErrors, each with a new reason; nothing that was there turns.
-/
import Derived.Test.Qxb6615096aDoorIsMulti
namespace Go.Proofs.Qxb6615096aDoor
open Go.RowKit Go.Extern.Stop Go.Stop Go.Extern Go.Deep

theorem info31 : (Tryd.prog.info? 31).map (fun i => (i.zero, i.size, i.bytes)) = some (some (.pointer none), 1, 8) := by kernel_rfl

/-- The list's cells when k of them are laid. -/
def laidTo (pf : Nat → Nat) (k j : Nat) : Value := if j < k then .pointer (some ⟨pf j, 0, none⟩) else .pointer none

/-- The list at L of n places, the first k of them laid: the i-th BindError at 'pf i', its reason at 'qf i'. -/
structure Part (w : World) (L n k : Nat) (pf qf : Nat → Nat) : Prop where
  row : w.rowIs L 31 n (laidTo pf k)
  plt : ∀ i, i < k → pf i < w.heap.size
  pne : ∀ i, i < k → pf i ≠ L
  reason : ∀ i, i < k → w.cell? ⟨pf i, 5, none⟩ = some (.iface 59 (.pointer (some ⟨qf i, 0, none⟩)))
  qlt : ∀ i, i < k → qf i < w.heap.size
  qne : ∀ i, i < k → qf i ≠ L
  box : ∀ i, i < k → ∃ c, w.heap[qf i]? = some (.cells c 61 (0, 0))

def put (f : Nat → Nat) (k x j : Nat) : Nat := if j = k then x else f j

theorem put_same (f : Nat → Nat) (k x : Nat) : put f k x k = x := by simp [put]
theorem put_other (f : Nat → Nat) (k x j : Nat) (h : j ≠ k) : put f k x j = f j := by simp [put, h]

theorem size_set (w : World) (a : Addr) (v : Value) : (w.setCell a v).heap.size = w.heap.size := by simp [World.setCell]

/-- The world behind a round of zzBuild. -/
theorem step_size (wr : World) (L k : Nat) (v : Value) (o1 o2 o3 : Obj) : ((((wr.setCell ⟨L, k, none⟩ v).alloc o1).alloc o2).alloc o3).heap.size = wr.heap.size + 1 + 1 + 1 := by
  rw [World.size_alloc, World.size_alloc, World.size_alloc, size_set]

theorem step_block (wr : World) (L k : Nat) (v : Value) (o1 o2 o3 : Obj) (x : Nat) (hx : x < wr.heap.size) (hL : x ≠ L) : ((((wr.setCell ⟨L, k, none⟩ v).alloc o1).alloc o2).alloc o3).heap[x]? = wr.heap[x]? := by
  rw [Below.heap_alloc _ _ _ (by rw [World.size_alloc, World.size_alloc, size_set]; omega), Below.heap_alloc _ _ _ (by rw [World.size_alloc, size_set]; omega), Below.heap_alloc _ _ _ (by rw [size_set]; omega), Below.heap_setCell _ _ _ _ hL]

theorem step_new2 (wr : World) (L k : Nat) (v : Value) (o1 o2 o3 : Obj) : ((((wr.setCell ⟨L, k, none⟩ v).alloc o1).alloc o2).alloc o3).heap[wr.heap.size + 1]? = some o2 := by
  rw [Below.heap_alloc _ _ _ (by rw [World.size_alloc, World.size_alloc, size_set]; omega)]
  have h := blk_alloc_new ((wr.setCell ⟨L, k, none⟩ v).alloc o1) o2
  rw [World.size_alloc, size_set] at h
  exact h

theorem step_new3 (wr : World) (L k : Nat) (v : Value) (o1 o2 o3 : Obj) : ((((wr.setCell ⟨L, k, none⟩ v).alloc o1).alloc o2).alloc o3).heap[wr.heap.size + 1 + 1]? = some o3 := by
  have h := blk_alloc_new (((wr.setCell ⟨L, k, none⟩ v).alloc o1).alloc o2) o3
  rw [World.size_alloc, World.size_alloc, size_set] at h
  exact h

theorem laid_step (pf : Nat → Nat) (k x j : Nat) : (if j = k then .pointer (some ⟨x, 0, none⟩) else laidTo pf k j) = laidTo (put pf k x) (k + 1) j := by
  unfold laidTo
  by_cases h : j = k
  · subst h; rw [if_pos rfl, if_pos (by omega), put_same]
  · by_cases h2 : j < k
    · rw [if_neg h, if_pos h2, if_pos (by omega), put_other _ _ _ _ h]
    · rw [if_neg h, if_neg h2, if_neg (by omega)]

theorem build_step {wr : World} {L n k : Nat} {pf qf : Nat → Nat} (h : Part wr L n k pf qf) (o1 : Obj) (c d : Array Value) (hd : d[5]? = some (.iface 59 (.pointer (some ⟨wr.heap.size + 1, 0, none⟩)))) :
    Part ((((wr.setCell ⟨L, k, none⟩ (.pointer (some ⟨wr.heap.size + 1 + 1, 0, none⟩))).alloc o1).alloc (.cells c 61)).alloc (.cells d 40)) L n (k + 1) (put pf k (wr.heap.size + 1 + 1)) (put qf k (wr.heap.size + 1)) where
  row := ((((h.row.set k _).alloc _).alloc _).alloc _).congr fun j _ => laid_step pf k _ j
  plt := fun i hi => by
    rw [step_size]
    by_cases hik : i = k
    · subst hik; rw [put_same]; omega
    · rw [put_other _ _ _ _ hik]; have := h.plt i (by omega); omega
  pne := fun i hi => by
    have hL := h.row.lt
    by_cases hik : i = k
    · subst hik; rw [put_same]; omega
    · rw [put_other _ _ _ _ hik]; exact h.pne i (by omega)
  reason := fun i hi => by
    by_cases hik : i = k
    · subst hik
      rw [put_same, put_same]
      simp only [World.cell?, step_new3]
      simpa using hd
    · rw [put_other _ _ _ _ hik, put_other _ _ _ _ hik]
      exact (World.cell?_of_block (w := wr) (a := ⟨pf i, 5, none⟩) (step_block wr L k _ _ _ _ (pf i) (h.plt i (by omega)) (h.pne i (by omega)))).trans (h.reason i (by omega))
  qlt := fun i hi => by
    rw [step_size]
    by_cases hik : i = k
    · subst hik; rw [put_same]; omega
    · rw [put_other _ _ _ _ hik]; have := h.qlt i (by omega); omega
  qne := fun i hi => by
    have hL := h.row.lt
    by_cases hik : i = k
    · subst hik; rw [put_same]; omega
    · rw [put_other _ _ _ _ hik]; exact h.qne i (by omega)
  box := fun i hi => by
    by_cases hik : i = k
    · subst hik
      exact ⟨c, by rw [put_same]; exact step_new2 wr L i _ _ _ _⟩
    · rw [put_other _ _ _ _ hik]
      obtain ⟨c', hc'⟩ := h.box i (by omega)
      exact ⟨c', (step_block wr L k _ _ _ _ (qf i) (h.qlt i (by omega)) (h.qne i (by omega))).trans hc'⟩

theorem part_start (w : World) (n : Nat) : Part (w.alloc (.cells (madeCells #[.pointer none] n) 31)) w.heap.size n 0 id id where
  row := (World.rowIs_made w (.pointer none) n 31).congr fun j _ => by simp [laidTo]
  plt := fun i hi => absurd hi (by omega)
  pne := fun i hi => absurd hi (by omega)
  reason := fun i hi => absurd hi (by omega)
  qlt := fun i hi => absurd hi (by omega)
  qne := fun i hi => absurd hi (by omega)
  box := fun i hi => absurd hi (by omega)

set_option maxHeartbeats 1600000 in
theorem build_row (b off len cap : Nat) (sf : Nat → Nat → ByteArray) (w : World) (hl : len ≤ 65536) (hb : b < w.heap.size)
    (hc : ∀ i j, i < len → j < 6 → w.cell? ⟨b, off + i * 6 + j, none⟩ = some (.string (sf i j))) :
    Calls Tryd.prog 6 #[.slice (some ⟨b, off, none⟩) len cap] w fun e w' => e = .returned (.slice (some ⟨w.heap.size, 0, none⟩) len len) ∧ (∃ pf qf, Part w' w.heap.size len len pf qf) ∧ Below w.heap.size w w' := by
  have HC := hide hc
  clear hc
  have hmk := run_make_row' (P := Tryd.prog) 25 31 (.pointer none) 8 Tryd.underlying25 info31 rfl .i64 .i64 len (by omega) (by omega)
  go_enter Tryd.func6, Tryd.ntmps6
  go_wp2
  clear hmk
  go_loopw [11] (fun i wr => ∃ k : Nat, k ≤ len ∧ i = .int .i64 k ∧ (∃ pf qf, Part wr w.heap.size len k pf qf) ∧ Below w.heap.size w wr) (fun i _ => len - (intOf i).toNat)
  case atStart => exact ⟨0, Nat.zero_le _, rfl, ⟨_, _, part_start w len⟩, (Below.refl _ _).alloc (Nat.le_refl _) _⟩
  case round =>
    obtain ⟨k, hk, rfl, ⟨pf, qf, hP⟩, hbel⟩ := hrel
    have HP := hide hP
    have HBE := hide hbel
    by_cases hlt : k < len
    · have hx : Hid (∀ j, j < 6 → wr.cell? ⟨b, off + k * 6 + j, none⟩ = some (.string (sf k j))) := fun j hj => (hbel.cell (p := ⟨b, off + k * 6 + j, none⟩) hb).trans (HC.out k j hlt hj)
      have hbr : b < wr.heap.size := Nat.lt_of_lt_of_le hb hbel.size
      have hLr : w.heap.size < wr.heap.size := hP.row.lt
      have hLr1 : w.heap.size < wr.heap.size + 1 := by omega
      have hLr2 : w.heap.size < wr.heap.size + 1 + 1 := by omega
      have hLr3 : w.heap.size < wr.heap.size + 1 + 1 + 1 := by omega
      have hcL : wr.cell? ⟨w.heap.size, k, none⟩ = some (.pointer none) := (hP.row.cell hlt).trans (by simp [laidTo])
      have hfL := hP.row.frozen k
      clear hbel hP
      have c0 := hx.out 0 (by omega)
      have c1 := hx.out 1 (by omega)
      have c2 := hx.out 2 (by omega)
      have c3 := hx.out 3 (by omega)
      have c4 := hx.out 4 (by omega)
      have c5 := hx.out 5 (by omega)
      rw [Nat.add_zero] at c0
      go_wp2
      go_roundw
      case rel => exact ⟨k + 1, hlt, by go_num, ⟨_, _, build_step HP.out _ _ _ rfl⟩, (((HBE.out.setCell (p := ⟨w.heap.size, k, none⟩) (Nat.le_refl _) _).alloc (by rw [size_set]; omega) _).alloc (by rw [World.size_alloc, size_set]; omega) _).alloc (by rw [World.size_alloc, World.size_alloc, size_set]; omega) _⟩
      case measure => simp [intOf]; omega
    · obtain rfl : k = len := by omega
      clear hP hbel
      go_wp2
      go_ret
      exact ⟨rfl, ⟨pf, qf, HP.out⟩, HBE.out⟩
end Go.Proofs.Qxb6615096aDoor
