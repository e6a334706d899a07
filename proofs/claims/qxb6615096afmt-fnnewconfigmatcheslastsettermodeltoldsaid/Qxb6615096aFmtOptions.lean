/-
  zzOptions (function 13): a new row of the options' function values, their boxes new.
-/
import Derived.Test.Qxb6615096aFmtOption
import Derived.Deep.OwnRows
import Derived.Laws.EntriesVeiled
namespace Go.Proofs.Qxb6615096aFmt
open Go.RowKit Go.Extern.Stop Go.Stop Go.Extern Go.Deep

theorem info55 : (Tryf.prog.info? 55).map (fun i => (i.zero, i.size, i.bytes)) = some (some .nilFunc, 1, 8) := by kernel_rfl

/-- The row's cells when k of them are laid. -/
def optTo (O : Nat → Opt) (bx : Nat → Nat) (k j : Nat) : Value := if j < k then optVal (O j) (bx j) else .nilFunc

/-- The options' row at L of n places, the first k of them laid. -/
structure Opts (w : World) (L n k : Nat) (O : Nat → Opt) (bx : Nat → Nat) : Prop where
  row : w.rowIs L 55 n (optTo O bx k)
  blt : ∀ i, i < k → (O i).nl = false → (O i).fd ≤ 7 → bx i < w.heap.size
  bne : ∀ i, i < k → (O i).nl = false → (O i).fd ≤ 7 → bx i ≠ L
  box : ∀ i, i < k → (O i).nl = false → (O i).fd ≤ 7 → w.cell? ⟨bx i, 0, none⟩ = some (boxVal (O i))

def put (f : Nat → Nat) (k x j : Nat) : Nat := if j = k then x else f j
theorem put_same (f : Nat → Nat) (k x : Nat) : put f k x k = x := by simp [put]
theorem put_other (f : Nat → Nat) (k x j : Nat) (h : j ≠ k) : put f k x j = f j := by simp [put, h]

theorem size_set (w : World) (a : Addr) (v : Value) : (w.setCell a v).heap.size = w.heap.size := by simp [World.setCell]

theorem optTo_step (O : Nat → Opt) (bx : Nat → Nat) (k b j : Nat) : (if j = k then optVal (O k) b else optTo O bx k j) = optTo O (put bx k b) (k + 1) j := by
  unfold optTo
  by_cases h : j = k
  · subst h; rw [if_pos rfl, if_pos (by omega), put_same]
  · by_cases h2 : j < k
    · rw [if_neg h, if_pos h2, if_pos (by omega), put_other _ _ _ _ h]
    · rw [if_neg h, if_neg h2, if_neg (by omega)]

theorem optVal_shape (o : Opt) (b : Nat) : optVal o b = .nilFunc ∨ ∃ fn cap, optVal o b = .func fn #[] cap := by
  unfold optVal
  repeat' split
  all_goals first | exact Or.inl rfl | exact Or.inr ⟨_, _, rfl⟩

theorem opts_step {wr w1 : World} {L n k b : Nat} {O : Nat → Opt} {bx : Nat → Nat} (h : Opts wr L n k O bx) (hb : Below wr.heap.size wr w1)
    (hbox : (O k).nl = false → (O k).fd ≤ 7 → wr.heap.size ≤ b ∧ b < w1.heap.size ∧ w1.cell? ⟨b, 0, none⟩ = some (boxVal (O k))) :
    Opts (w1.setCell ⟨L, k, none⟩ (optVal (O k) b)) L n (k + 1) O (put bx k b) where
  row := ((h.row.of_block (hb.block L h.row.lt)).set k _).congr fun j _ => optTo_step O bx k b j
  blt := fun i hi h1 h2 => by
    rw [size_set]
    by_cases hik : i = k
    · subst hik; rw [put_same]; exact (hbox h1 h2).2.1
    · rw [put_other _ _ _ _ hik]; have := h.blt i (by omega) h1 h2; have := hb.size; omega
  bne := fun i hi h1 h2 => by
    have hL := h.row.lt
    by_cases hik : i = k
    · subst hik; rw [put_same]; have := (hbox h1 h2).1; omega
    · rw [put_other _ _ _ _ hik]; exact h.bne i (by omega) h1 h2
  box := fun i hi h1 h2 => by
    have hL := h.row.lt
    by_cases hik : i = k
    · subst hik
      rw [put_same, World.cell?_setCell_other _ _ _ _ (fun e => by have := congrArg Addr.block e; simp at this; have := (hbox h1 h2).1; omega)]
      exact (hbox h1 h2).2.2
    · rw [put_other _ _ _ _ hik, World.cell?_setCell_other _ _ _ _ (fun e => by have := congrArg Addr.block e; simp at this; exact h.bne i (by omega) h1 h2 this.symm)]
      exact (hb.cell (p := ⟨bx i, 0, none⟩) (h.blt i (by omega) h1 h2)).trans (h.box i (by omega) h1 h2)

theorem opts_start (w : World) (n : Nat) (O : Nat → Opt) : Opts (w.alloc (.cells (madeCells #[.nilFunc] n) 55)) w.heap.size n 0 O id where
  row := (World.rowIs_made w .nilFunc n 55).congr fun j _ => by simp [optTo]
  blt := fun i hi => absurd hi (by omega)
  bne := fun i hi => absurd hi (by omega)
  box := fun i hi => absurd hi (by omega)

set_option maxHeartbeats 1600000 in
theorem options_row (b off len cap : Nat) (O : Nat → Opt) (w : World) (hl : len ≤ 65536) (hb : b < w.heap.size)
    (hc0 : ∀ i, i < len → w.cell? ⟨b, off + i * 3, none⟩ = some (.bool (O i).nl)) (hc1 : ∀ i, i < len → w.cell? ⟨b, off + i * 3 + 1, none⟩ = some (.int .u8 (O i).fd))
    (hc2 : ∀ i, i < len → w.cell? ⟨b, off + i * 3 + 2, none⟩ = some (.int .i64 (O i).n)) (hfd : ∀ i, i < len → 0 ≤ (O i).fd) :
    Calls Tryf.prog 13 #[.slice (some ⟨b, off, none⟩) len cap] w fun e w' => e = .returned (.slice (some ⟨w.heap.size, 0, none⟩) len len) ∧ (∃ bx, Opts w' w.heap.size len len O bx) ∧ Below w.heap.size w w' := by
  have H0 := hide hc0
  have H1 := hide hc1
  have H2 := hide hc2
  have HF := hide hfd
  clear hc0 hc1 hc2 hfd
  have hmk := run_make_row' (P := Tryf.prog) 31 55 .nilFunc 8 Tryf.underlying31 info55 rfl .i64 .i64 len (by omega) (by omega)
  go_enter Tryf.func13, Tryf.ntmps13
  go_wp2
  clear hmk
  go_loopw [10] (fun i wr => ∃ k : Nat, k ≤ len ∧ i = .int .i64 k ∧ (∃ bx, Opts wr w.heap.size len k O bx) ∧ Below w.heap.size w wr) (fun i _ => len - (intOf i).toNat)
  case atStart => exact ⟨0, Nat.zero_le _, rfl, ⟨_, opts_start w len O⟩, (Below.refl _ _).alloc (Nat.le_refl _) _⟩
  case round =>
    obtain ⟨k, hk, rfl, ⟨bx, hP⟩, hbel⟩ := hrel
    have HP := hide hP
    have HBE := hide hbel
    by_cases hlt : k < len
    · have c0 := (hbel.cell (p := ⟨b, off + k * 3, none⟩) hb).trans (H0.out k hlt)
      have c1 := (hbel.cell (p := ⟨b, off + k * 3 + 1, none⟩) hb).trans (H1.out k hlt)
      have c2 := (hbel.cell (p := ⟨b, off + k * 3 + 2, none⟩) hb).trans (H2.out k hlt)
      have hLr : w.heap.size < wr.heap.size := hP.row.lt
      clear hbel hP
      go_wp2_with fail
      refine (opt_any (O k) _ (HF.out k hlt)).mono ?_
      rintro e w1 ⟨bb, rfl, hbox, hb1⟩
      have hL1 : w.heap.size < w1.heap.size := Nat.lt_of_lt_of_le hLr hb1.size
      have hcL : w1.cell? ⟨w.heap.size, k, none⟩ = some .nilFunc := ((hb1.cell (p := ⟨w.heap.size, k, none⟩) hLr).trans (HP.out.row.cell hlt)).trans (by simp [optTo])
      have hfL : w1.frozen? ⟨w.heap.size, k, none⟩ = false := (hb1.frozen (p := ⟨w.heap.size, k, none⟩) hLr).trans (HP.out.row.frozen k)
      have R := hide (opts_step HP.out hb1 hbox)
      have RB := hide ((HBE.out.trans (hb1.mono (Nat.le_of_lt hLr))).setCell (p := ⟨w.heap.size, k, none⟩) (Nat.le_refl _) (optVal (O k) bb))
      clear hbox hb1 c0 c1 c2
      rcases optVal_shape (O k) bb with hs | ⟨fn, cp, hs⟩
      · rw [hs] at R RB ⊢
        clear hs
        go_wp2
        go_roundw
        case rel => exact ⟨k + 1, hlt, by go_num, ⟨_, R.out⟩, RB.out⟩
        case measure => simp [intOf]; omega
      · rw [hs] at R RB ⊢
        clear hs
        go_wp2
        go_roundw
        case rel => exact ⟨k + 1, hlt, by go_num, ⟨_, R.out⟩, RB.out⟩
        case measure => simp [intOf]; omega
    · obtain rfl : k = len := by omega
      clear hP hbel
      go_wp2
      go_ret
      exact ⟨rfl, ⟨bx, HP.out⟩, HBE.out⟩
end Go.Proofs.Qxb6615096aFmt
