/-
  zzCompareBytes on two rows of four bytes.
-/
import Derived.Test.Qxb6615551aWire
import Derived.Deep.QuietTactic
namespace Go.Proofs.Qxb6615551a
open Go.Shelf Go.RowKit

theorem below_drewN {B : Nat} {w w1 : World} (h : Below B w w1) (n : Nat) : Below B w (w1.drewN n) := ⟨h.os, h.tape, h.output, h.size, h.block⟩

def cmp4 (p q : Nat → Int) : Int :=
  if p 0 < q 0 then -1 else if q 0 < p 0 then 1 else if p 1 < q 1 then -1 else if q 1 < p 1 then 1 else
  if p 2 < q 2 then -1 else if q 2 < p 2 then 1 else if p 3 < q 3 then -1 else if q 3 < p 3 then 1 else 0

theorem cmp4_lt {p q : Nat → Int} {k : Nat} (hk : k < 4) (he : ∀ j, j < k → p j = q j) (h : p k < q k) : cmp4 p q = -1 := by
  have e0 := he 0
  have e1 := he 1
  have e2 := he 2
  unfold cmp4
  rcases (show k = 0 ∨ k = 1 ∨ k = 2 ∨ k = 3 by omega) with rfl | rfl | rfl | rfl <;> simp at e0 e1 e2 <;> repeat' (split <;> try omega)
theorem cmp4_gt {p q : Nat → Int} {k : Nat} (hk : k < 4) (he : ∀ j, j < k → p j = q j) (h : q k < p k) : cmp4 p q = 1 := by
  have e0 := he 0
  have e1 := he 1
  have e2 := he 2
  unfold cmp4
  rcases (show k = 0 ∨ k = 1 ∨ k = 2 ∨ k = 3 by omega) with rfl | rfl | rfl | rfl <;> simp at e0 e1 e2 <;> repeat' (split <;> try omega)
theorem cmp4_eq {p q : Nat → Int} (he : ∀ j, j < 4 → p j = q j) : cmp4 p q = 0 := by
  have e0 := he 0 (by omega)
  have e1 := he 1 (by omega)
  have e2 := he 2 (by omega)
  have e3 := he 3 (by omega)
  unfold cmp4
  repeat' (split <;> try omega)

set_option maxHeartbeats 1600000 in
theorem compare4 (ga gc ca cc : Nat) (p q : Nat → Int) (w : World) (hp : ∀ j, j < 4 → w.cell? ⟨ga, j, none⟩ = some (.int .u8 (p j))) (hq : ∀ j, j < 4 → w.cell? ⟨gc, j, none⟩ = some (.int .u8 (q j))) :
    Calls Try.prog 11 #[.slice (some ⟨ga, 0, none⟩) 4 ca, .slice (some ⟨gc, 0, none⟩) 4 cc] w fun e w' => e = .returned (.int .i64 (cmp4 p q)) ∧ Below w.heap.size w w' := by
  have HP := hide hp
  have HQ := hide hq
  clear hp hq
  go_enter Try.func11, Try.ntmps11
  have hga : ga < w.heap.size := World.block_lt_of_cell? w _ (HP.out 0 (by omega))
  have hgc : gc < w.heap.size := World.block_lt_of_cell? w _ (HQ.out 0 (by omega))
  have HGA := hide hga
  have HGC := hide hgc
  clear hga hgc
  go_wp2
  go_loopw [6] (fun i wr => ∃ k : Nat, k ≤ 4 ∧ i = .int .i64 k ∧ (∀ j, j < k → p j = q j) ∧ Below w.heap.size w wr) (fun i _ => 4 - (intOf i).toNat)
  case atStart => exact ⟨0, by omega, rfl, fun j hj => by omega, Below.refl _ _⟩
  case round =>
    obtain ⟨k, hk, rfl, he, hb⟩ := hrel
    have HE := hide he
    have HB := hide hb
    clear he hb
    by_cases h4 : k = 4
    · subst h4
      have HR := hide (cmp4_eq HE.out)
      go_wp2
      go_ret
      exact ⟨by rw [HR.out]; rfl, HB.out⟩
    · have hk4 : k < 4 := by omega
      have c0 := (HB.out.cell (p := ⟨ga, k, none⟩) HGA.out).trans (HP.out k hk4)
      have c1 := (HB.out.cell (p := ⟨gc, k, none⟩) HGC.out).trans (HQ.out k hk4)
      have hki : (k : Int) < 4 := by omega
      clear h4 hk
      rcases Int.lt_trichotomy (p k) (q k) with h | h | h
      · have HR := hide (cmp4_lt hk4 HE.out h)
        go_wp2
        go_quiet (fail)
        go_wp2
        go_ret
        exact ⟨by rw [HR.out]; rfl, below_drewN HB.out _⟩
      · have HH := hide h
        rw [h] at c0
        clear h
        go_wp2
        go_quiet (fail)
        go_wp2
        go_quiet (fail)
        go_wp2
        go_roundw
        case rel => exact ⟨k + 1, hk4, by go_num, fun j hj => by rcases (show j < k ∨ j = k by omega) with h | rfl; exact HE.out j h; exact HH.out, below_drewN HB.out _⟩
        case measure => simp [intOf]; omega
      · have HR := hide (cmp4_gt hk4 HE.out h)
        have hn : ¬ p k < q k := by omega
        go_wp2
        go_quiet (fail)
        go_wp2
        go_quiet (fail)
        go_wp2
        go_ret
        exact ⟨by rw [HR.out]; rfl, below_drewN (below_drewN HB.out _) _⟩
end Go.Proofs.Qxb6615551a
