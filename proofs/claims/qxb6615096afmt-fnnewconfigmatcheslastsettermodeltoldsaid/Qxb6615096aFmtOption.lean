/-
  zzOption (function 22): the option as a function value, what it sets in a new box.
-/
import Derived.Test.Qxb6615096aFmtModel
namespace Go.Proofs.Qxb6615096aFmt
open Go.RowKit Go.Extern.Stop Go.Stop Go.Extern

/-- What zzOption leaves. -/
def OptMade (o : Opt) (w : World) (e : Ending) (w' : World) : Prop :=
  ∃ b : Nat, e = .returned (optVal o b) ∧ (o.nl = false → o.fd ≤ 7 → w.heap.size ≤ b ∧ b < w'.heap.size ∧ w'.cell? ⟨b, 0, none⟩ = some (boxVal o)) ∧ Below w.heap.size w w'

theorem made_box {o : Opt} {w : World} {v x : Value} (o1 : Obj) (t : TypeId) (hv : v = optVal o (w.heap.size + 1)) (hx : x = boxVal o) : OptMade o w (.returned v) ((w.alloc o1).alloc (.cells #[x] t)) :=
  ⟨w.heap.size + 1, by rw [hv], fun _ _ => ⟨by omega, by simp, by rw [← hx]; simp⟩, ((Below.refl _ _).alloc (Nat.le_refl _) _).alloc (by simp) _⟩

theorem made_none {o : Opt} {w : World} {v : Value} (o1 : Obj) (hv : v = optVal o 0) (hn : o.nl = true ∨ 7 < o.fd) : OptMade o w (.returned v) (w.alloc o1) :=
  ⟨0, by rw [hv], fun h1 h2 => by rcases hn with h | h; · rw [h1] at h; cases h
                                  · omega, (Below.refl _ _).alloc (Nat.le_refl _) _⟩

set_option maxHeartbeats 400000 in
theorem opt_0 (n : Int) (w : World) :
    Calls Tryf.prog 22 #[.agg #[.bool false, .int .u8 0, .int .i64 n]] w fun e w' => OptMade ⟨false, 0, n⟩ w e w' := by
  go_enter Tryf.func22, Tryf.ntmps22
  go_wp2
  go_ret
  exact made_box _ _ rfl rfl

set_option maxHeartbeats 400000 in
theorem opt_1 (n : Int) (w : World) :
    Calls Tryf.prog 22 #[.agg #[.bool false, .int .u8 1, .int .i64 n]] w fun e w' => OptMade ⟨false, 1, n⟩ w e w' := by
  go_enter Tryf.func22, Tryf.ntmps22
  go_wp2
  go_ret
  exact made_box _ _ rfl rfl

set_option maxHeartbeats 400000 in
theorem opt_2 (n : Int) (w : World) :
    Calls Tryf.prog 22 #[.agg #[.bool false, .int .u8 2, .int .i64 n]] w fun e w' => OptMade ⟨false, 2, n⟩ w e w' := by
  go_enter Tryf.func22, Tryf.ntmps22
  go_wp2
  go_ret
  exact made_box _ _ rfl rfl

set_option maxHeartbeats 400000 in
theorem opt_3 (n : Int) (w : World) :
    Calls Tryf.prog 22 #[.agg #[.bool false, .int .u8 3, .int .i64 n]] w fun e w' => OptMade ⟨false, 3, n⟩ w e w' := by
  go_enter Tryf.func22, Tryf.ntmps22
  go_wp2
  go_ret
  exact made_box _ _ rfl rfl

set_option maxHeartbeats 400000 in
theorem opt_4 (n : Int) (w : World) :
    Calls Tryf.prog 22 #[.agg #[.bool false, .int .u8 4, .int .i64 n]] w fun e w' => OptMade ⟨false, 4, n⟩ w e w' := by
  go_enter Tryf.func22, Tryf.ntmps22
  go_wp2
  go_ret
  exact made_box _ _ rfl rfl

set_option maxHeartbeats 400000 in
theorem opt_5 (n : Int) (w : World) :
    Calls Tryf.prog 22 #[.agg #[.bool false, .int .u8 5, .int .i64 n]] w fun e w' => OptMade ⟨false, 5, n⟩ w e w' := by
  go_enter Tryf.func22, Tryf.ntmps22
  go_wp2
  go_ret
  exact made_box _ _ rfl rfl

set_option maxHeartbeats 400000 in
theorem opt_6 (n : Int) (w : World) :
    Calls Tryf.prog 22 #[.agg #[.bool false, .int .u8 6, .int .i64 n]] w fun e w' => OptMade ⟨false, 6, n⟩ w e w' := by
  go_enter Tryf.func22, Tryf.ntmps22
  go_wp2
  go_ret
  exact made_box _ _ rfl rfl

set_option maxHeartbeats 400000 in
theorem opt_7 (n : Int) (w : World) :
    Calls Tryf.prog 22 #[.agg #[.bool false, .int .u8 7, .int .i64 n]] w fun e w' => OptMade ⟨false, 7, n⟩ w e w' := by
  go_enter Tryf.func22, Tryf.ntmps22
  go_wp2
  go_ret
  exact made_box _ _ rfl rfl

set_option maxHeartbeats 400000 in
theorem opt_nil (fd n : Int) (w : World) :
    Calls Tryf.prog 22 #[.agg #[.bool true, .int .u8 fd, .int .i64 n]] w fun e w' => OptMade ⟨true, fd, n⟩ w e w' := by
  go_enter Tryf.func22, Tryf.ntmps22
  go_wp2
  go_ret
  exact made_none _ rfl (Or.inl rfl)

theorem optVal_none (fd n : Int) (h : 7 < fd) (b : Nat) : optVal ⟨false, fd, n⟩ b = .func (.func 44) #[] #[] := by
  unfold optVal
  rw [if_neg (by simp), if_neg (by simp; omega), if_neg (by simp; omega), if_neg (by simp; omega), if_neg (by simp; omega), if_neg (by simp; omega), if_neg (by simp; omega), if_neg (by simp; omega), if_neg (by simp; omega)]

set_option maxHeartbeats 400000 in
theorem opt_none (fd n : Int) (w : World) (h : 7 < fd) :
    Calls Tryf.prog 22 #[.agg #[.bool false, .int .u8 fd, .int .i64 n]] w fun e w' => OptMade ⟨false, fd, n⟩ w e w' := by
  have e0 : (fd == 0) = false := by rw [beq_eq_false_iff_ne]; omega
  have e1 : (fd == 1) = false := by rw [beq_eq_false_iff_ne]; omega
  have e2 : (fd == 2) = false := by rw [beq_eq_false_iff_ne]; omega
  have e3 : (fd == 3) = false := by rw [beq_eq_false_iff_ne]; omega
  have e4 : (fd == 4) = false := by rw [beq_eq_false_iff_ne]; omega
  have e5 : (fd == 5) = false := by rw [beq_eq_false_iff_ne]; omega
  have e6 : (fd == 6) = false := by rw [beq_eq_false_iff_ne]; omega
  have e7 : (fd == 7) = false := by rw [beq_eq_false_iff_ne]; omega
  have H := hide h
  clear h
  go_enter Tryf.func22, Tryf.ntmps22
  go_wp2
  go_ret
  exact made_none _ (optVal_none fd n H.out 0).symm (Or.inr H.out)

/-- zzOption at every option. -/
theorem opt_any (o : Opt) (w : World) (h0 : 0 ≤ o.fd) :
    Calls Tryf.prog 22 #[.agg #[.bool o.nl, .int .u8 o.fd, .int .i64 o.n]] w fun e w' => OptMade o w e w' := by
  obtain ⟨nl, fd, n⟩ := o
  cases nl
  · by_cases h : 7 < fd
    · exact opt_none fd n w h
    · simp only at h0
      rcases (show fd = 0 ∨ fd = 1 ∨ fd = 2 ∨ fd = 3 ∨ fd = 4 ∨ fd = 5 ∨ fd = 6 ∨ fd = 7 by omega) with rfl | rfl | rfl | rfl | rfl | rfl | rfl | rfl
      · exact opt_0 n w
      · exact opt_1 n w
      · exact opt_2 n w
      · exact opt_3 n w
      · exact opt_4 n w
      · exact opt_5 n w
      · exact opt_6 n w
      · exact opt_7 n w
  · exact opt_nil fd n w

end Go.Proofs.Qxb6615096aFmt
