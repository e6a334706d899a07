/-
  zzReadBE32 on four bytes.
-/
import Derived.Test.Qxb6615551aClone
import Derived.Lib.EndianBits
namespace Go.Proofs.Qxb6615551a
open Go.Shelf Go.RowKit Go.Deep

theorem or_comm (a b : Int) : bits BinOp.or IntKind.u32 a b = bits BinOp.or IntKind.u32 b a := by
  show IntKind.u32.wrap ((BitVec.ofInt 32 a ||| BitVec.ofInt 32 b).toNat : Int) = IntKind.u32.wrap ((BitVec.ofInt 32 b ||| BitVec.ofInt 32 a).toNat : Int)
  rw [BitVec.or_comm]

theorem wrap_i64 (n : Int) (h0 : 0 ≤ n) (h1 : n ≤ 1000000000) : IntKind.i64.wrap n = n := by
  simp [IntKind.wrap, IntKind.signed, IntKind.bits]
  omega

set_option maxRecDepth 100000 in
set_option maxHeartbeats 1600000 in
theorem read_be (g n N cap : Nat) (z0 z1 z2 z3 : Int) (l0 : 0 ≤ z0) (u0 : z0 ≤ 255) (l1 : 0 ≤ z1) (u1 : z1 ≤ 255) (l2 : 0 ≤ z2) (u2 : z2 ≤ 255) (l3 : 0 ≤ z3) (u3 : z3 ≤ 255) (hN : n + 3 < N) (hn : n ≤ 1048576) (w : World)
    (c0 : w.cell? ⟨g, n, none⟩ = some (.int .u8 z0)) (c1 : w.cell? ⟨g, n + 1, none⟩ = some (.int .u8 z1)) (c2 : w.cell? ⟨g, n + 2, none⟩ = some (.int .u8 z2)) (c3 : w.cell? ⟨g, n + 3, none⟩ = some (.int .u8 z3)) :
    Calls Try.prog 10 #[.slice (some ⟨g, 0, none⟩) N cap, .int .i64 n] w fun e w' => e = .returned (.int .u32 (z0 * 16777216 + z1 * 65536 + z2 * 256 + z3)) ∧ Below w.heap.size w w' := by
  have b0 : n < N := by omega
  have b1 : (n : Int) + 1 < (N : Int) := by omega
  have b2 : (n : Int) + 2 < (N : Int) := by omega
  have b3 : (n : Int) + 3 < (N : Int) := by omega
  have n1 : ((n : Int) + 1).toNat = n + 1 := by omega
  have n2 : ((n : Int) + 2).toNat = n + 2 := by omega
  have n3 : ((n : Int) + 3).toNat = n + 3 := by omega
  have v0 : IntKind.u32.wrap z0 = z0 := u32_wrap_id z0 l0 (by omega)
  have v1 : IntKind.u32.wrap z1 = z1 := u32_wrap_id z1 l1 (by omega)
  have v2 : IntKind.u32.wrap z2 = z2 := u32_wrap_id z2 l2 (by omega)
  have v3 : IntKind.u32.wrap z3 = z3 := u32_wrap_id z3 l3 (by omega)
  have p1 : IntKind.i64.wrap ((n : Int) + 1) = (n : Int) + 1 := wrap_i64 _ (by omega) (by omega)
  have p2 : IntKind.i64.wrap ((n : Int) + 2) = (n : Int) + 2 := wrap_i64 _ (by omega) (by omega)
  have p3 : IntKind.i64.wrap ((n : Int) + 3) = (n : Int) + 3 := wrap_i64 _ (by omega) (by omega)
  have q1 : 0 ≤ (n : Int) + 1 := by omega
  have q2 : 0 ≤ (n : Int) + 2 := by omega
  have q3 : 0 ≤ (n : Int) + 3 := by omega
  have s0 : IntKind.u32.wrap (z0 * 16777216) = z0 * 16777216 := u32_wrap_id _ (by omega) (by omega)
  have s1 : IntKind.u32.wrap (z1 * 65536) = z1 * 65536 := u32_wrap_id _ (by omega) (by omega)
  have s2 : IntKind.u32.wrap (z2 * 256) = z2 * 256 := u32_wrap_id _ (by omega) (by omega)
  have o1 : bits BinOp.or IntKind.u32 (z0 * 16777216) (z1 * 65536) = z0 * 16777216 + z1 * 65536 := by
    rw [or_comm, u32_or24 (z1 * 65536) (z0 * 16777216) (by omega) (by omega) (by omega) (by omega) (by omega)]; omega
  have o2 : bits BinOp.or IntKind.u32 (z0 * 16777216 + z1 * 65536) (z2 * 256) = z0 * 16777216 + z1 * 65536 + z2 * 256 := by
    rw [or_comm, u32_or16 (z2 * 256) (z0 * 16777216 + z1 * 65536) (by omega) (by omega) (by omega) (by omega) (by omega)]; omega
  have o3 : bits BinOp.or IntKind.u32 (z0 * 16777216 + z1 * 65536 + z2 * 256) z3 = z0 * 16777216 + z1 * 65536 + z2 * 256 + z3 := by
    rw [or_comm, u32_or8 z3 (z0 * 16777216 + z1 * 65536 + z2 * 256) (by omega) (by omega) (by omega) (by omega) (by omega)]; omega
  clear hN
  go_enter Try.func10, Try.ntmps10
  go_wp2
  go_quiet (fail)
  go_wp2
  go_ret
  exact ⟨rfl, below_drewN (Below.refl _ _) _⟩

/-- Read back: the word. -/
theorem read_word (g n cap u : Nat) (hu : u < 4294967296) (hn : n ≤ 1048576) (w : World) (hc : ∀ j, j < 4 → w.cell? ⟨g, n + j, none⟩ = some (.int .u8 (byt u j))) :
    Calls Try.prog 10 #[.slice (some ⟨g, 0, none⟩) (n + 4) cap, .int .i64 n] w fun e w' => e = .returned (.int .u32 u) ∧ Below w.heap.size w w' := by
  have e : byt u 0 * 16777216 + byt u 1 * 65536 + byt u 2 * 256 + byt u 3 = (u : Int) := by simp only [byt]; omega
  have := read_be g n (n + 4) cap (byt u 0) (byt u 1) (byt u 2) (byt u 3) (byt_bounds _ _).1 (byt_bounds _ _).2 (byt_bounds _ _).1 (byt_bounds _ _).2 (byt_bounds _ _).1 (byt_bounds _ _).2 (byt_bounds _ _).1 (byt_bounds _ _).2
    (by omega) hn w (hc 0 (by omega)) (hc 1 (by omega)) (hc 2 (by omega)) (hc 3 (by omega))
  rw [e] at this
  exact this

/-- As a signed word it is v again. -/
theorem wrap_back (v : Int) (h0 : -2147483648 ≤ v) (h1 : v ≤ 2147483647) : IntKind.i32.wrap ((unsig v : Nat) : Int) = v := by
  rw [unsig_int]
  simp [IntKind.wrap, IntKind.signed, IntKind.bits]
  omega
end Go.Proofs.Qxb6615551a
