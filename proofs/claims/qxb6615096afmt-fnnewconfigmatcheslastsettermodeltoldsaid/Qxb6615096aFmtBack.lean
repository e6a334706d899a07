/-
  The plain side of the law's own loop, which walks the options from the last to the first: its state behind the options from m on.
-/
import Derived.Test.Qxb6615096aFmtOptions
namespace Go.Proofs.Qxb6615096aFmt
open Go.RowKit Go.Deep

/-- The last number set for f among the options from m on, of n. -/
def G (O : Nat → Opt) (n m f : Nat) : Option Int := last O f m (n - m)

theorem G_miss (O : Nat → Opt) (n m f : Nat) (hm : m < n) (h : sets (O m) f = false) : G O n m f = G O n (m + 1) f := by
  unfold G
  rw [show n - m = (n - (m + 1)) + 1 by omega]
  exact front_miss O f m _ h
theorem G_some (O : Nat → Opt) (n m f : Nat) (hm : m < n) (h : (G O n (m + 1) f).isSome = true) : G O n m f = G O n (m + 1) f := by
  unfold G at *
  rw [show n - m = (n - (m + 1)) + 1 by omega]
  exact front_some O f m _ h
theorem G_hit (O : Nat → Opt) (n m f : Nat) (hm : m < n) (h : sets (O m) f = true) (hn : (G O n (m + 1) f).isSome = false) : G O n m f = some (O m).n := by
  unfold G at *
  rw [show n - m = (n - (m + 1)) + 1 by omega]
  exact front_hit O f m _ h hn
theorem G_end (O : Nat → Opt) (n f : Nat) : G O n n f = none := by simp [G, last]

/-- One of the options from m on, of n, is nil. -/
def NN (O : Nat → Opt) (n m : Nat) : Bool := anyNil O m (n - m)
theorem NN_step (O : Nat → Opt) (n m : Nat) (hm : m < n) : NN O n m = (NN O n (m + 1) || (O m).nl) := by
  unfold NN
  rw [show n - m = (n - (m + 1)) + 1 by omega]
  exact anyNil_front O m _
theorem NN_end (O : Nat → Opt) (n : Nat) : NN O n n = false := by simp [NN, anyNil]

/-- The memory of the law's own loop: the array 'set' at S, the options' row and what lay before it as they were. -/
structure Back (w w1 : World) (S n m : Nat) (O : Nat → Opt) : Prop where
  below : Below S w1 w
  row : w.rowIs S 33 8 (fun j => .bool (G O n m j).isSome)

theorem Back.alloc {w w1 : World} {S n m : Nat} {O : Nat → Opt} (h : Back w w1 S n m O) (o : Obj) : Back (w.alloc o) w1 S n m O :=
  ⟨h.below.alloc (Nat.le_of_lt h.row.lt) o, h.row.alloc o⟩

theorem Back.same {w w1 : World} {S n m : Nat} {O : Nat → Opt} (h : Back w w1 S n (m + 1) O) (e : ∀ f, f < 8 → G O n m f = G O n (m + 1) f) : Back w w1 S n m O :=
  ⟨h.below, h.row.congr fun j hj => by rw [e j hj]⟩

theorem Back.set {w w1 : World} {S n m f : Nat} {O : Nat → Opt} (h : Back w w1 S n (m + 1) O) (hm : m < n) (hs : sets (O m) f = true) (hf : (O m).fd = (f : Int)) (hn : (G O n (m + 1) f).isSome = false) :
    Back (w.setCell ⟨S, f, none⟩ (.bool true)) w1 S n m O :=
  ⟨h.below.setCell (p := ⟨S, f, none⟩) (Nat.le_refl _) _, (h.row.set f _).congr fun j _ => by
    by_cases hj : j = f
    · subst hj; rw [if_pos rfl, G_hit O n m j hm hs hn]; rfl
    · rw [if_neg hj, G_miss O n m j hm (sets_not _ _ (by rw [hf]; omega))]⟩

theorem back_start (w1 : World) (n : Nat) (O : Nat → Opt) : Back (w1.alloc (.cells #[.bool false, .bool false, .bool false, .bool false, .bool false, .bool false, .bool false, .bool false] 33)) w1 w1.heap.size n n O :=
  ⟨(Below.refl _ _).alloc (Nat.le_refl _) _, World.rowIs_alloc w1 #[.bool false, .bool false, .bool false, .bool false, .bool false, .bool false, .bool false, .bool false] 33 _ (fun i hi => by
      simp at hi
      rw [G_end]
      rcases (show i = 0 ∨ i = 1 ∨ i = 2 ∨ i = 3 ∨ i = 4 ∨ i = 5 ∨ i = 6 ∨ i = 7 by omega) with rfl | rfl | rfl | rfl | rfl | rfl | rfl | rfl <;> rfl)⟩

end Go.Proofs.Qxb6615096aFmt
