/-
  The walk of FnMultiErrorUnwrapLetsErrorsFindEach (function 3).
-/
import Derived.Test.Qxb6615096aDoorBuild
import Derived.Test.Qxb6615096aDoorAs
import Derived.Test.Qxb6615096aDoorBig
import Derived.Deep.RegionWith
import Derived.LaidEqlPtr
namespace Go.Proofs.Qxb6615096aDoor
open Go.RowKit Go.Extern.Stop Go.Stop Go.Extern Go.Deep

theorem built_of_part {w : World} {L n : Nat} {pf qf : Nat → Nat} (h : Part w L n n pf qf) : Built (w.alloc (.cells #[.slice (some ⟨L, 0, none⟩) n n] 29)) w.heap.size L n pf qf where
  multi := by simp
  mlt := by simp
  row := (h.row.congr fun i hi => by simp [laidTo, hi]).alloc _
  plt := fun i hi => by have := h.plt i hi; simp; omega
  reason := fun i hi => by
    rw [World.cell?_alloc_lt _ _ ⟨pf i, 5, none⟩ (h.plt i hi)]; exact h.reason i hi
  qlt := fun i hi => by have := h.qlt i hi; simp; omega
  box := fun i hi => by
    obtain ⟨c, hc⟩ := h.box i hi
    exact ⟨c, by rw [Below.heap_alloc _ _ _ (h.qlt i hi)]; exact hc⟩

theorem bindSize : (Tryd.prog.info? 40).isSome = true := by kernel_rfl

/-- What holds in a world behind the two last calls. -/
structure After (w w' : World) (m L n : Nat) (pf qf : Nat → Nat) : Prop where
  built : Built w' m L n pf qf
  handle : w'.cell? ⟨0, 0, none⟩ = some (.iface 63 (.agg #[.pointer (some ⟨1, 38, none⟩)]))
  below : Below w.heap.size w w'

theorem After.keep {w w1 w2 : World} {m L n : Nat} {pf qf : Nat → Nat} (h : After w w1 m L n pf qf) (h0 : 0 < w.heap.size) (hb : Below w1.heap.size w1 w2) : After w w2 m L n pf qf where
  built := h.built.keep hb
  handle := (hb.cell (p := ⟨0, 0, none⟩) (Nat.lt_of_lt_of_le h0 h.below.size)).trans h.handle
  below := h.below.trans (hb.mono h.below.size)

theorem After.first {w w' : World} {m L n : Nat} {pf qf : Nat → Nat} (h : After w w' m L n pf qf) (k : Nat) (hk : k < n) : w'.cell? ⟨L, k, none⟩ = some (.pointer (some ⟨pf k, 0, none⟩)) := h.built.row.cell hk

set_option maxHeartbeats 1600000 in
theorem main_in (b off len cap k : Nat) (sf : Nat → Nat → ByteArray) (w : World) (hl : len ≤ 65536) (hb : b < w.heap.size)
    (hc : ∀ i j, i < len → j < 6 → w.cell? ⟨b, off + i * 6 + j, none⟩ = some (.string (sf i j))) (hk : k < len)
    (hg : w.cell? ⟨0, 0, none⟩ = some (.iface 63 (.agg #[.pointer (some ⟨1, 38, none⟩)]))) :
    Calls Tryd.prog 3 #[.slice (some ⟨b, off, none⟩) len cap, .int .i64 k] w fun e w' => e = .returned (.bool true) ∧ Below w.heap.size w w' := by
  have HC := hide hc
  have HG := hide hg
  clear hc hg
  go_enter Tryd.func3, Tryd.ntmps3
  go_wp2_with fail
  refine (bytes_row b off len cap k sf _ (by omega) HC.out).mono ?_
  rintro e w1 ⟨⟨r, rfl⟩, hw⟩
  obtain rfl := hw.symm
  cases r
  · go_wp2
    go_ret
    exact ⟨rfl, Below.refl _ _⟩
  go_wp2_with fail
  refine (big_row b off len cap sf _ hl hb HC.out).mono ?_
  rintro e w1 ⟨⟨r, rfl⟩, hb1⟩
  have HB1 := hide hb1
  cases r
  rotate_left
  · go_wp2
    go_ret
    exact ⟨rfl, HB1.out⟩
  have hb1' : b < w1.heap.size := Nat.lt_of_lt_of_le hb hb1.size
  have hx1 := hide (fun i j hi hj => (hb1.cell (p := ⟨b, off + i * 6 + j, none⟩) hb).trans (HC.out i j hi hj))
  clear hb1
  go_wp2_with fail
  refine (build_row b off len cap sf _ hl hb1' hx1.out).mono ?_
  rintro e w2 ⟨rfl, ⟨pf, qf, hP⟩, hb2⟩
  have h0 : 0 < w.heap.size := by omega
  have hBel2 : Below w.heap.size w w2 := HB1.out.trans (hb2.mono HB1.out.size)
  have hA3 : After w (w2.alloc (.cells #[.slice (some ⟨w1.heap.size, 0, none⟩) len len] 29)).drew w2.heap.size w1.heap.size len pf qf :=
    ⟨(built_of_part hP).keep (Below.refl _ _).drew, ((hBel2.alloc hBel2.size _).cell (p := ⟨0, 0, none⟩) h0).trans HG.out, (hBel2.alloc hBel2.size _).drew⟩
  have hL2 : w1.heap.size < w2.heap.size := hP.row.lt
  have hcK : w2.cell? ⟨w1.heap.size, k, none⟩ = some (.pointer (some ⟨pf k, 0, none⟩)) := (hP.row.cell hk).trans (by simp [laidTo, hk])
  have HA := hide hA3
  obtain ⟨j, hj⟩ := Option.isSome_iff_exists.1 bindSize
  have heq := fun W : World => run_eql_ptr_same (P := Tryd.prog) W ⟨pf 0, 0, none⟩ Tryd.underlying31 hj
  clear hP hBel2 hb2 hx1 hA3 HB1 HC HG
  have hkI : (k : Int) < (len : Int) := by omega
  have hkI0 : (0 : Int) ≤ (k : Int) := by omega
  have hlI : (0 : Int) < (len : Int) := by omega
  have hlN : 0 < len := by omega
  have H7 := hide (has_reason w2.heap.size w1.heap.size len k pf qf _ HA.out.built hk hl)
  go_wp2
  go_region_with (first
    | (go_at_call 7; refine H7.out.mono ?_; rintro e w4 ⟨rfl, hb4⟩; have HA4 := hide (HA.out.keep h0 hb4); have c4 := HA4.out.first 0 hlN; clear hb4)
    | (go_at_call 8; refine (as_first w2.heap.size w1.heap.size len pf qf _ (by exact HA4.out.built) hlN hl (by exact HA4.out.handle)).mono ?_; rintro e w5 ⟨rfl, hb5⟩; have HA5 := hide (HA4.out.keep h0 hb5); have c5 := HA5.out.first 0 hlN; clear hb5))
  all_goals
    go_wp2
    go_ret
    exact ⟨rfl, HA5.out.below⟩

set_option maxHeartbeats 1600000 in
theorem main_out (b off len cap : Nat) (k : Int) (sf : Nat → Nat → ByteArray) (w : World) (hl : len ≤ 65536) (hb : b < w.heap.size)
    (hc : ∀ i j, i < len → j < 6 → w.cell? ⟨b, off + i * 6 + j, none⟩ = some (.string (sf i j))) (hk : k < 0 ∨ (len : Int) ≤ k) :
    Calls Tryd.prog 3 #[.slice (some ⟨b, off, none⟩) len cap, .int .i64 k] w fun e w' => e = .returned (.bool true) ∧ Below w.heap.size w w' := by
  have HC := hide hc
  clear hc
  go_enter Tryd.func3, Tryd.ntmps3
  go_wp2_with fail
  refine (bytes_row b off len cap k sf _ (by omega) HC.out).mono ?_
  rintro e w1 ⟨⟨r, rfl⟩, hw⟩
  obtain rfl := hw.symm
  cases r
  · go_wp2
    go_ret
    exact ⟨rfl, Below.refl _ _⟩
  go_wp2_with fail
  refine (big_row b off len cap sf _ hl hb HC.out).mono ?_
  rintro e w1 ⟨⟨r, rfl⟩, hb1⟩
  have HB1 := hide hb1
  clear hb1
  cases r
  · rcases hk with hk | hk
    · go_wp2
      go_ret
      exact ⟨rfl, HB1.out⟩
    · have hk0 : ¬ k < 0 := by omega
      go_wp2
      go_ret
      exact ⟨rfl, HB1.out⟩
  · go_wp2
    go_ret
    exact ⟨rfl, HB1.out⟩

set_option maxHeartbeats 1600000 in
theorem main_long (b off len cap : Nat) (k : Int) (sf : Nat → Nat → ByteArray) (w : World) (hlen : len ≤ 9223372036854775807) (hl : ¬ len ≤ 65536)
    (hc : ∀ i j, i < len → j < 6 → w.cell? ⟨b, off + i * 6 + j, none⟩ = some (.string (sf i j))) :
    Calls Tryd.prog 3 #[.slice (some ⟨b, off, none⟩) len cap, .int .i64 k] w fun e w' => e = .returned (.bool true) ∧ Below w.heap.size w w' := by
  have HC := hide hc
  clear hc
  go_enter Tryd.func3, Tryd.ntmps3
  go_wp2_with fail
  refine (bytes_row b off len cap k sf _ hlen HC.out).mono ?_
  rintro e w1 ⟨⟨r, rfl⟩, hw⟩
  obtain rfl := hw.symm
  cases r
  · go_wp2
    go_ret
    exact ⟨rfl, Below.refl _ _⟩
  go_wp2_with fail
  refine (big_long (some ⟨b, off, none⟩) len cap _ hlen hl).mono ?_
  rintro e w1 ⟨rfl, hw⟩
  obtain rfl := hw.symm
  go_wp2
  go_ret
  exact ⟨rfl, Below.refl _ _⟩

set_option maxHeartbeats 1600000 in
theorem main_nil (ao : Option Addr) (cap : Nat) (k : Int) (w : World) :
    Calls Tryd.prog 3 #[.slice ao 0 cap, .int .i64 k] w fun e w' => e = .returned (.bool true) ∧ Below w.heap.size w w' := by
  go_enter Tryd.func3, Tryd.ntmps3
  go_wp2_with fail
  refine (bytes_nil ao k cap _).mono ?_
  rintro e w1 ⟨⟨r, rfl⟩, hw⟩
  obtain rfl := hw.symm
  cases r
  · go_wp2
    go_ret
    exact ⟨rfl, Below.refl _ _⟩
  go_wp2_with fail
  refine (big_nil ao cap _).mono ?_
  rintro e w1 ⟨⟨r, rfl⟩, hw⟩
  obtain rfl := hw.symm
  cases r
  · by_cases hk : k < 0
    · go_wp2
      go_ret
      exact ⟨rfl, Below.refl _ _⟩
    · have hk0 : (0 : Int) ≤ k := by omega
      go_wp2
      go_ret
      exact ⟨rfl, Below.refl _ _⟩
  · go_wp2
    go_ret
    exact ⟨rfl, Below.refl _ _⟩
end Go.Proofs.Qxb6615096aDoor
