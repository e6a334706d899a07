/-
  FnI32AppendsBigEndianWordReadBack walked.
-/
import Derived.Test.Qxb6615551aRead
namespace Go.Proofs.Qxb6615551a
open Go.Shelf Go.RowKit Go.Deep

set_option maxRecDepth 100000 in
set_option maxHeartbeats 1600000 in
theorem back_long (a : Option Addr) (len cap : Nat) (v : Int) (w : World) (hl : 1048576 < len) :
    Calls Try.prog 3 #[.slice a len cap, .int .i32 v] w fun e w' => e = .returned (.bool true) ∧ Below w.heap.size w w' := by
  go_enter Try.func3, Try.ntmps3
  go_wp2
  go_ret
  exact ⟨rfl, Below.refl _ _⟩

set_option maxRecDepth 100000 in
set_option maxHeartbeats 1600000 in
theorem back_any (a : Option Addr) (len cap : Nat) (f : Nat → Int) (v : Int) (w : World) (hl : len ≤ 1048576) (h0 : -2147483648 ≤ v) (h1 : v ≤ 2147483647)
    (hclone : Calls Try.prog 8 #[.slice a len cap] w fun e w' => ∃ ao, e = .returned (.slice ao len len) ∧ Copy w' ao len f ∧ Below w.heap.size w w') :
    Calls Try.prog 3 #[.slice a len cap, .int .i32 v] w fun e w' => e = .returned (.bool true) ∧ Below w.heap.size w w' := by
  have HCL := hide hclone
  have HV := hide (And.intro h0 h1)
  clear hclone h0 h1
  go_enter Try.func3, Try.ntmps3
  go_wp2_with (first | (go_at_call 7; go_in))
  refine HCL.out.mono ?_
  rintro e w1 ⟨ao1, rfl, hC1, hb1⟩
  have HC1 := hide hC1
  have HB1 := hide hb1
  clear hC1 hb1
  go_wp2_with fail
  refine (clone_copy ao1 len f _ hl HC1.out).mono ?_
  rintro e w2 ⟨ao2, rfl, hC2, hb2⟩
  have HC2 := hide hC2
  have HB2 := hide hb2
  clear hC2 hb2
  go_wp2_with fail
  refine (zz_copy ao1 len f v _ hl (HC1.out.keep HB2.out)).mono ?_
  rintro e w3 ⟨g3, c3, rfl, l3⟩
  have L3 := hide l3
  clear l3
  obtain ⟨N, hN⟩ : ∃ N, N = len + 4 := ⟨_, rfl⟩
  rw [← hN]
  have HN := hide hN
  clear hN
  go_wp2_with fail
  refine (zz_nil v _).mono ?_
  rintro e w4 ⟨g4, c4, rfl, l4⟩
  have L4 := hide l4
  clear l4
  have hN1 : IntKind.i64.wrap ((len : Int) + 4) = (len : Int) + 4 := wrap_i64 _ (by omega) (by omega)
  have hN2 : ((N : Int) != (len : Int) + 4) = false := by have := HN.out; simp; omega
  go_wp2_with fail
  clear hN1 hN2
  have HBA := hide (HB1.out.trans (HB2.out.mono HB1.out.size))
  have HBC := hide (HBA.out.trans (L3.out.below.mono HBA.out.size))
  have HBW := hide (HBC.out.trans (L4.out.below.mono HBC.out.size))
  have GO := hide (fun j hj => (L4.out.below.cell (p := ⟨g3, j, none⟩) L3.out.lt).trans (got_old L3.out j hj))
  have GN := hide (fun j hj => (L4.out.below.cell (p := ⟨g3, len + j, none⟩) L3.out.lt).trans (got_new L3.out j hj))
  have AL := hide (byt_cell L4.out)
  have OR := hide ((HC2.out.keep L3.out.below).keep L4.out.below)
  have G3 := hide (Nat.lt_of_lt_of_le L3.out.lt L4.out.below.size)
  have G4 := hide L4.out.lt
  go_loopw [9] (fun i wr => ∃ k : Nat, k ≤ len ∧ i = .int .i64 k ∧ Below w.heap.size w wr ∧ Below w4.heap.size w4 wr) (fun i _ => len - (intOf i).toNat)
  case atStart => exact ⟨0, Nat.zero_le _, rfl, HBW.out, Below.refl _ _⟩
  case round =>
    obtain ⟨k, hk, rfl, hb, hb'⟩ := hrel
    have RW := hide hb
    have RF := hide hb'
    by_cases hlt : k < len
    · rcases OR.out with ⟨_, h0⟩ | ⟨g2, hao, hg2, hc2⟩
      · omega
      · have q0 := (hb'.cell (p := ⟨g3, k, none⟩) G3.out).trans (GO.out k hlt)
        have q1 := (hb'.cell (p := ⟨g2, k, none⟩) hg2).trans (hc2 k hlt)
        have hkN : k < N := by have := HN.out; omega
        clear hb hb' hc2 hg2 OR HC2
        subst hao
        go_wp2
        go_quiet (fail)
        go_wp2
        go_roundw
        case rel => exact ⟨k + 1, hlt, by go_num, below_drewN RW.out _, below_drewN RF.out _⟩
        case measure => simp [intOf]; omega
    · obtain rfl : k = len := by omega
      have HR := hide (read_word g3 k c3 (unsig v) (unsig_lt v) hl wr (fun j hj => (hb'.cell (p := ⟨g3, k + j, none⟩) G3.out).trans (GN.out j hj)))
      rw [← HN.out] at HR
      clear hb hb' hlt
      go_wp2_with fail
      refine HR.out.mono ?_
      rintro e w5 ⟨rfl, hb5⟩
      have hwb := wrap_back v HV.out.1 HV.out.2
      have SW := hide (RW.out.trans (hb5.mono RW.out.size))
      have SF := hide (RF.out.trans (hb5.mono RF.out.size))
      clear hb5
      go_wp2
      clear hwb
      go_loopw [10] (fun i wq => ∃ q : Nat, q ≤ 4 ∧ i = .int .i64 q ∧ Below w.heap.size w wq ∧ Below w4.heap.size w4 wq) (fun i _ => 4 - (intOf i).toNat)
      case atStart => exact ⟨0, Nat.zero_le _, rfl, SW.out, SF.out⟩
      case round =>
        obtain ⟨q, hq, rfl, hb, hb'⟩ := hrel
        have TW := hide hb
        have TF := hide hb'
        by_cases hq4 : q < 4
        · have q0 := (hb'.cell (p := ⟨g3, k + q, none⟩) G3.out).trans (GN.out q hq4)
          have q1 := (hb'.cell (p := ⟨g4, q, none⟩) G4.out).trans (AL.out q hq4)
          have b1 : IntKind.i64.wrap ((k : Int) + q) = (k : Int) + q := wrap_i64 _ (by omega) (by omega)
          have b2 : ((k : Int) + q).toNat = k + q := by omega
          have b3 : (k : Int) + q < N := by have := HN.out; omega
          have b4 : 0 ≤ (k : Int) + q := by omega
          have b5 : (q : Int) < 4 := by omega
          clear hb hb'
          go_wp2
          go_quiet (fail)
          go_wp2
          go_roundw
          case rel => exact ⟨q + 1, hq4, by go_num, below_drewN TW.out _, below_drewN TF.out _⟩
          case measure => simp [intOf]; omega
        · obtain rfl : q = 4 := by omega
          clear hb hb' hq4
          go_wp2
          go_ret
          exact ⟨rfl, TW.out⟩
end Go.Proofs.Qxb6615551a
