/-
  zzCloneBytes: nil stays nil; else a new row of the same bytes; and ZZi32 on a copy.
-/
import Derived.Test.Qxb6615551aBytes
import Derived.Deep.OwnRows
import Derived.Deep.Slices
namespace Go.Proofs.Qxb6615551a
open Go.Shelf Go.RowKit Go.Deep Go.WideShapes

theorem some_nil (x : Addr) (len cap : Nat) (w : World) : Sem.run Try.prog (binOp BinOp.eql 22 (.slice (some x) len cap) (.slice none 0 0)) w = .ok (.bool false) w := by kernel_rfl
theorem none_nil (len cap : Nat) (w : World) : Sem.run Try.prog (binOp BinOp.eql 22 (.slice none len cap) (.slice none 0 0)) w = .ok (.bool true) w := by kernel_rfl
theorem info5 : (Try.prog.info? 5).map (fun i => (i.zero, i.size, i.bytes)) = some (some (.int .u8 0), 1, 1) := by kernel_rfl

/-- A slice that is a copy: nil and empty, or at a block's start, its first n cells f's bytes. -/
def Copy (w : World) (ao : Option Addr) (n : Nat) (f : Nat → Int) : Prop :=
  (ao = none ∧ n = 0) ∨ ∃ g, ao = some ⟨g, 0, none⟩ ∧ g < w.heap.size ∧ ∀ j, j < n → w.cell? ⟨g, j, none⟩ = some (.int .u8 (f j))

theorem Copy.keep {w w' : World} {ao : Option Addr} {n : Nat} {f : Nat → Int} (h : Copy w ao n f) (hb : Below w.heap.size w w') : Copy w' ao n f := by
  rcases h with h | ⟨g, h1, h2, h3⟩
  · exact .inl h
  · exact .inr ⟨g, h1, Nat.lt_of_lt_of_le h2 hb.size, fun j hj => (hb.cell (p := ⟨g, j, none⟩) h2).trans (h3 j hj)⟩

/-- What is laid so far. -/
def upTo (f : Nat → Int) (k j : Nat) : Value := if j < k then .int .u8 (f j) else .int .u8 0
theorem upTo_step (f : Nat → Int) (k j : Nat) : (if j = k then Value.int .u8 (f k) else upTo f k j) = upTo f (k + 1) j := by
  unfold upTo
  by_cases h : j = k
  · subst h; rw [if_pos rfl, if_pos (by omega)]
  · by_cases h2 : j < k
    · rw [if_neg h, if_pos h2, if_pos (by omega)]
    · rw [if_neg h, if_neg h2, if_neg (by omega)]

set_option maxRecDepth 100000 in
set_option maxHeartbeats 1600000 in
theorem clone_row (x : Addr) (len cap : Nat) (f : Nat → Int) (w : World) (hl : len ≤ 1048576) (hc : ∀ i, i < len → w.cell? (x.add i) = some (.int .u8 (f i))) :
    Calls Try.prog 8 #[.slice (some x) len cap] w fun e w' => e = .returned (.slice (some ⟨w.heap.size, 0, none⟩) len len) ∧ w'.rowIs w.heap.size 5 len (upTo f len) ∧ Below w.heap.size w w' := by
  have HC := hide hc
  clear hc
  have hmk := run_make_row' (P := Try.prog) 22 5 (.int .u8 0) 1 Try.underlying22 info5 rfl .i64 .i64 len (by omega) (by omega)
  have hne := some_nil x len cap
  go_enter Try.func8, Try.ntmps8
  go_wp2
  clear hmk hne
  go_loopw [4] (fun i wr => ∃ k : Nat, k ≤ len ∧ i = .int .i64 k ∧ wr.rowIs w.heap.size 5 len (upTo f k) ∧ Below w.heap.size w wr) (fun i _ => len - (intOf i).toNat)
  case atStart => exact ⟨0, Nat.zero_le _, rfl, (World.rowIs_made w (.int .u8 0) len 5).congr fun j _ => by simp [upTo], (Below.refl _ _).alloc (Nat.le_refl _) _⟩
  case round =>
    obtain ⟨k, hk, rfl, hP, hbel⟩ := hrel
    have HP := hide hP
    have HBE := hide hbel
    by_cases hlt : k < len
    · have hcx := HC.out k hlt
      obtain ⟨b, off, spot⟩ := x
      have hspot : spot = none := by simpa [Addr.add] using World.cell?_spot (HC.out 0 (by omega))
      subst hspot
      rw [add_plain] at hcx
      have c0 : wr.cell? ⟨b, off + k, none⟩ = some (.int .u8 (f k)) := (hbel.cell (p := ⟨b, off + k, none⟩) (World.block_lt_of_cell? w _ hcx)).trans hcx
      have hcL : wr.cell? ⟨w.heap.size, k, none⟩ = some (.int .u8 0) := (hP.cell hlt).trans (by simp [upTo])
      have hfL : wr.frozen? ⟨w.heap.size, k, none⟩ = false := hP.frozen k
      have R := hide ((hP.set k (.int .u8 (f k))).congr fun j _ => upTo_step f k j)
      have RB := hide (hbel.setCell (p := ⟨w.heap.size, k, none⟩) (Nat.le_refl _) (.int .u8 (f k)))
      clear hP hbel hcx
      go_wp2
      go_roundw
      case rel => exact ⟨k + 1, hlt, by go_num, R.out, RB.out⟩
      case measure => simp [intOf]; omega
    · obtain rfl : k = len := by omega
      clear hP hbel
      go_wp2
      go_ret
      exact ⟨rfl, HP.out, HBE.out⟩

theorem clone_nil (w : World) : Calls Try.prog 8 #[.slice none 0 0] w fun e w' => e = .returned (.slice none 0 0) ∧ Below w.heap.size w w' := by
  have hne := none_nil 0 0
  go_enter Try.func8, Try.ntmps8
  go_wp2
  go_ret
  exact ⟨rfl, Below.refl _ _⟩

/-- The bytes' list. -/
def olds (f : Nat → Int) (n : Nat) : List Value := (List.range n).map fun j => .int .u8 (f j)
theorem olds_len (f : Nat → Int) (n : Nat) : (olds f n).length = n := by simp [olds]
theorem olds_get (f : Nat → Int) (n j : Nat) (hj : j < n) : (olds f n)[j]? = some (.int .u8 (f j)) := by simp [olds, hj]
theorem olds_cell {f : Nat → Int} {n j : Nat} {x : Value} (h : (olds f n)[j]? = some x) : j < n ∧ x = .int .u8 (f j) := by
  rcases Nat.lt_or_ge j n with hj | hj
  · rw [olds_get f n j hj] at h; exact ⟨hj, (Option.some.inj h).symm⟩
  · rw [List.getElem?_eq_none (by rw [olds_len]; exact hj)] at h; cases h

theorem copy_of_row {w : World} {g n : Nat} {f : Nat → Int} (h : w.rowIs g 5 n (upTo f n)) : Copy w (some ⟨g, 0, none⟩) n f :=
  .inr ⟨g, rfl, h.lt, fun j hj => by rw [h.cell hj]; simp [upTo, hj]⟩

theorem clone_copy (ao : Option Addr) (n : Nat) (f : Nat → Int) (w : World) (hl : n ≤ 1048576) (h : Copy w ao n f) :
    Calls Try.prog 8 #[.slice ao n n] w fun e w' => ∃ ao', e = .returned (.slice ao' n n) ∧ Copy w' ao' n f ∧ Below w.heap.size w w' := by
  rcases h with ⟨rfl, rfl⟩ | ⟨g, rfl, hg, hc⟩
  · exact (clone_nil w).mono fun e w' ⟨h1, h2⟩ => ⟨none, h1, .inl ⟨rfl, rfl⟩, h2⟩
  · exact (clone_row ⟨g, 0, none⟩ n n f w hl (fun i hi => by rw [add_plain, Nat.zero_add]; exact hc i hi)).mono fun e w' ⟨h1, h2, h3⟩ => ⟨_, h1, copy_of_row h2, h3⟩

theorem zz_copy (ao : Option Addr) (n : Nat) (f : Nat → Int) (v : Int) (w : World) (hl : n ≤ 1048576) (h : Copy w ao n f) :
    Calls Try.prog 9 #[.slice ao n n, .int .i32 v] w fun e w' => ∃ g cap, e = .returned (.slice (some ⟨g, 0, none⟩) (n + 4) cap) ∧ Laid w w' g (olds f n ++ word (unsig v)) := by
  rcases h with ⟨rfl, rfl⟩ | ⟨g, rfl, hg, hc⟩
  · exact zz_nil v w
  · exact zz_row g n v w _ (olds_len f n) (fun j x hx => by obtain ⟨h1, rfl⟩ := olds_cell hx; exact hc j h1) hg hl

theorem got_old {w0 w : World} {g n u : Nat} {f : Nat → Int} (h : Laid w0 w g (olds f n ++ word u)) (j : Nat) (hj : j < n) : w.cell? ⟨g, j, none⟩ = some (.int .u8 (f j)) :=
  h.cells j _ (by rw [List.getElem?_append_left (by rw [olds_len]; exact hj)]; exact olds_get f n j hj)
theorem word_get (u j : Nat) (hj : j < 4) : (word u)[j]? = some (.int .u8 (byt u j)) := by
  rcases (show j = 0 ∨ j = 1 ∨ j = 2 ∨ j = 3 by omega) with rfl | rfl | rfl | rfl <;> rfl
theorem got_new {w0 w : World} {g n u : Nat} {f : Nat → Int} (h : Laid w0 w g (olds f n ++ word u)) (j : Nat) (hj : j < 4) : w.cell? ⟨g, n + j, none⟩ = some (.int .u8 (byt u j)) :=
  h.cells (n + j) _ (by rw [List.getElem?_append_right (by rw [olds_len]; omega), olds_len, Nat.add_sub_cancel_left]; exact word_get u j hj)
end Go.Proofs.Qxb6615551a
