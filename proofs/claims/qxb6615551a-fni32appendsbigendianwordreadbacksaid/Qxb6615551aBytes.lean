/-
  Bytes of a word: complement, order, top bit.
-/
import Derived.Test.Qxb6615551aCompare
namespace Go.Proofs.Qxb6615551a
open Go.Shelf Go.RowKit

theorem not_i32 (a : Int) (h0 : -2147483648 ≤ a) (h1 : a ≤ 2147483647) : bits BinOp.xor IntKind.i32 (-1) a = -1 - a := by
  show IntKind.i32.wrap ((BitVec.ofInt 32 (-1) ^^^ BitVec.ofInt 32 a).toNat : Int) = _
  have e : (BitVec.ofInt 32 (-1) ^^^ BitVec.ofInt 32 a) = ~~~ (BitVec.ofInt 32 a) := by
    rw [show BitVec.ofInt 32 (-1) = BitVec.allOnes 32 from by decide, BitVec.allOnes_xor]
  rw [e, BitVec.toNat_not, BitVec.toNat_ofInt]
  simp [IntKind.wrap, IntKind.signed, IntKind.bits]
  omega

theorem not_u8 (a : Int) (h0 : 0 ≤ a) (h1 : a ≤ 255) : bits BinOp.xor IntKind.u8 255 a = 255 - a := by
  show IntKind.u8.wrap ((BitVec.ofInt 8 255 ^^^ BitVec.ofInt 8 a).toNat : Int) = _
  have e : (BitVec.ofInt 8 255 ^^^ BitVec.ofInt 8 a) = ~~~ (BitVec.ofInt 8 a) := by
    rw [show BitVec.ofInt 8 255 = BitVec.allOnes 8 from by decide, BitVec.allOnes_xor]
  rw [e, BitVec.toNat_not, BitVec.toNat_ofInt]
  simp [IntKind.wrap, IntKind.signed, IntKind.bits]
  omega

theorem bounds_i32 {x : Int} (h : (Lit.int .i32 x).wf = true) : -2147483648 ≤ x ∧ x ≤ 2147483647 := by
  simp [Lit.wf, IntKind.min, IntKind.max, IntKind.signed, IntKind.bits] at h
  omega

/-- The bytes of a word. -/
def byt (u j : Nat) : Int := match j with
  | 0 => ((u / 16777216 % 256 : Nat) : Int)
  | 1 => ((u / 65536 % 256 : Nat) : Int)
  | 2 => ((u / 256 % 256 : Nat) : Int)
  | _ => ((u % 256 : Nat) : Int)

theorem byt_bounds (u j : Nat) : 0 ≤ byt u j ∧ byt u j ≤ 255 := by
  unfold byt
  split <;> omega

theorem byt_cell {w0 w : World} {g u : Nat} (h : Laid w0 w g (word u)) : ∀ j, j < 4 → w.cell? ⟨g, j, none⟩ = some (.int .u8 (byt u j)) := by
  intro j hj
  rcases (show j = 0 ∨ j = 1 ∨ j = 2 ∨ j = 3 by omega) with rfl | rfl | rfl | rfl
  · exact h.cells 0 _ rfl
  · exact h.cells 1 _ rfl
  · exact h.cells 2 _ rfl
  · exact h.cells 3 _ rfl

theorem byt_cmp (x y : Nat) (hx : x < 4294967296) (hy : y < 4294967296) : cmp4 (byt x) (byt y) = if x < y then -1 else if y < x then 1 else 0 := by
  simp only [cmp4, byt]
  repeat' (split <;> try omega)

theorem byt_not (a : Int) (j : Nat) : byt (unsig (-1 - a)) j = 255 - byt (unsig a) j := by
  have h1 := unsig_int a
  have h2 := unsig_int (-1 - a)
  unfold byt
  split <;> omega

theorem byt_top (a : Int) (h0 : -2147483648 ≤ a) (h1 : a ≤ 2147483647) : 128 ≤ byt (unsig a) 0 ↔ a < 0 := by
  have h1 := unsig_int a
  simp only [byt]
  omega
end Go.Proofs.Qxb6615551a
