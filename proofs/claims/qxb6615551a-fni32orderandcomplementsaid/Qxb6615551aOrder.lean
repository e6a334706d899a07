/-
  The proof of Rows.FnI32OrderAndComplementSaid (after the given shell; the frame is Below).
-/
import Derived.Test.Qxb6615551aRows
import Derived.Test.Qxb6615551aBytes
import Derived.WalkKit
import Derived.ProofKit
import Derived.OpenShut
import Derived.ShutString
import Derived.ChangeOld
import Derived.Below
namespace Go.Proofs.Qxb6615551a.fnI32OrderAndComplement
open Go.ChangeShapes Go.WideShapes Go.ChangeAt Go.RowKit
open Go.ChangeMaps (open_string shut_string)
set_option linter.unusedVariables false

theorem own : ownKnob Try.prog.godebug = none := by kernel_rfl

set_option maxRecDepth 100000 in
set_option maxHeartbeats 1600000 in
theorem walk (a0 : Int) (a1 : Int) (w0 : (Lit.int .i32 a0).wf = true) (w1 : (Lit.int .i32 a1).wf = true) (w : World) :
    Calls Try.prog 4 #[.int .i32 a0, .int .i32 a1] w fun e w' => e = .returned (.bool true) ∧ Below w.heap.size w w' := by
  have HB := hide (bounds_i32 w0)
  clear w0 w1
  have hsg : IntKind.i32.signed = true := rfl
  have hsu : IntKind.u8.signed = false := rfl
  have hnot := not_i32 a0 HB.out.1 HB.out.2
  go_enter Try.func4, Try.ntmps4
  go_wp2_with fail
  refine (zz_nil a0 _).mono ?_
  rintro e w1 ⟨g1, c1, rfl, l1⟩
  have L1 := hide l1
  clear l1
  go_wp2_with fail
  refine (zz_nil a1 _).mono ?_
  rintro e w2 ⟨g2, c2, rfl, l2⟩
  have L2 := hide l2
  clear l2
  go_wp2_with fail
  refine (zz_nil _ _).mono ?_
  rintro e w3 ⟨g3, c3, rfl, l3⟩
  have L3 := hide l3
  clear l3 hnot
  have HB2 := hide (L1.out.below.trans (L2.out.below.mono L1.out.below.size))
  have HB3 := hide (HB2.out.trans (L3.out.below.mono HB2.out.size))
  have HP := hide (fun j hj => (L3.out.below.cell (p := ⟨g1, j, none⟩) (Nat.lt_of_lt_of_le L1.out.lt L2.out.below.size)).trans ((L2.out.below.cell (p := ⟨g1, j, none⟩) L1.out.lt).trans (byt_cell L1.out j hj)))
  have HQ := hide (fun j hj => (L3.out.below.cell (p := ⟨g2, j, none⟩) L2.out.lt).trans (byt_cell L2.out j hj))
  have HN := hide (fun j hj => (byt_cell L3.out j hj).trans (by rw [byt_not]))
  have HC := hide (compare4 g1 g2 c1 c2 _ _ w3 HP.out HQ.out)
  have HE := hide (byt_cmp (unsig a0) (unsig a1) (unsig_lt _) (unsig_lt _))
  have e0 := wrap_unsig a0
  have e1 := wrap_unsig a1
  obtain ⟨x, hx⟩ : ∃ x, x = unsig a0 := ⟨_, rfl⟩
  obtain ⟨y, hy⟩ : ∃ y, y = unsig a1 := ⟨_, rfl⟩
  rw [← hx] at e0
  rw [← hy] at e1
  rcases Nat.lt_trichotomy x y with h | h | h
  · have hh : (x : Int) < y := by omega
    rw [if_pos (by omega)] at HE
    clear h hx hy
    go_wp2_with fail
    refine HC.out.mono ?_
    rintro e w4 ⟨rfl, hb4⟩
    rw [HE.out]
    have HP4 := hide (fun j hj => (hb4.cell (p := ⟨g1, j, none⟩) (Nat.lt_of_lt_of_le (Nat.lt_of_lt_of_le L1.out.lt L2.out.below.size) L3.out.below.size)).trans (HP.out j hj))
    have HN4 := hide (fun j hj => (hb4.cell (p := ⟨g3, j, none⟩) L3.out.lt).trans (HN.out j hj))
    have HB4 := hide (HB3.out.trans (hb4.mono HB3.out.size))
    have p0 := HP4.out 0 (by omega)
    have HG1 := hide (World.block_lt_of_cell? w4 _ p0)
    have HG3 := hide (World.block_lt_of_cell? w4 _ (HN4.out 0 (by omega)))
    have HT := hide (byt_top a0 HB.out.1 HB.out.2)
    clear hb4
    have hbt : (!(decide (128 ≤ byt (unsig a0) 0) == decide (a0 < 0))) = false := by have e : decide (128 ≤ byt (unsig a0) 0) = decide (a0 < 0) := decide_eq_decide.2 HT.out; rw [e]; cases decide (a0 < 0) <;> rfl
    go_wp2
    clear p0 hbt
    go_loopw [9] (fun i wr => ∃ k : Nat, k ≤ 4 ∧ i = .int .i64 k ∧ Below w.heap.size w wr ∧ Below w4.heap.size w4 wr) (fun i _ => 4 - (intOf i).toNat)
    case atStart => exact ⟨0, by omega, rfl, HB4.out, Below.refl _ _⟩
    case round =>
      obtain ⟨k, hk, rfl, hb, hb'⟩ := hrel
      have HBW := hide hb
      by_cases h4 : k = 4
      · subst h4
        clear hb hb'
        go_wp2
        go_ret
        exact ⟨rfl, HBW.out⟩
      · have hk4 : k < 4 := by omega
        have q0 := (hb'.cell (p := ⟨g1, k, none⟩) HG1.out).trans (HP4.out k hk4)
        have q1 := (hb'.cell (p := ⟨g3, k, none⟩) HG3.out).trans (HN4.out k hk4)
        have hki : (k : Int) < 4 := by omega
        have hn8 : bits BinOp.xor IntKind.u8 IntKind.u8.max (byt (unsig a0) k) = 255 - byt (unsig a0) k := not_u8 (byt (unsig a0) k) (byt_bounds _ _).1 (byt_bounds _ _).2
        have HBF := hide hb'
        clear h4 hk hb hb'
        go_wp2
        go_quiet (fail)
        go_wp2
        go_roundw
        case rel => exact ⟨k + 1, hk4, by go_num, below_drewN HBW.out _, below_drewN HBF.out _⟩
        case measure => simp [intOf]; omega
  · have hh : ¬ (x : Int) < y := by omega
    have hh2 : ¬ (y : Int) < x := by omega
    rw [if_neg (by omega), if_neg (by omega)] at HE
    clear h hx hy
    go_wp2_with fail
    refine HC.out.mono ?_
    rintro e w4 ⟨rfl, hb4⟩
    rw [HE.out]
    have HP4 := hide (fun j hj => (hb4.cell (p := ⟨g1, j, none⟩) (Nat.lt_of_lt_of_le (Nat.lt_of_lt_of_le L1.out.lt L2.out.below.size) L3.out.below.size)).trans (HP.out j hj))
    have HN4 := hide (fun j hj => (hb4.cell (p := ⟨g3, j, none⟩) L3.out.lt).trans (HN.out j hj))
    have HB4 := hide (HB3.out.trans (hb4.mono HB3.out.size))
    have p0 := HP4.out 0 (by omega)
    have HG1 := hide (World.block_lt_of_cell? w4 _ p0)
    have HG3 := hide (World.block_lt_of_cell? w4 _ (HN4.out 0 (by omega)))
    have HT := hide (byt_top a0 HB.out.1 HB.out.2)
    clear hb4
    have hbt : (!(decide (128 ≤ byt (unsig a0) 0) == decide (a0 < 0))) = false := by have e : decide (128 ≤ byt (unsig a0) 0) = decide (a0 < 0) := decide_eq_decide.2 HT.out; rw [e]; cases decide (a0 < 0) <;> rfl
    go_wp2
    clear p0 hbt
    go_loopw [9] (fun i wr => ∃ k : Nat, k ≤ 4 ∧ i = .int .i64 k ∧ Below w.heap.size w wr ∧ Below w4.heap.size w4 wr) (fun i _ => 4 - (intOf i).toNat)
    case atStart => exact ⟨0, by omega, rfl, HB4.out, Below.refl _ _⟩
    case round =>
      obtain ⟨k, hk, rfl, hb, hb'⟩ := hrel
      have HBW := hide hb
      by_cases h4 : k = 4
      · subst h4
        clear hb hb'
        go_wp2
        go_ret
        exact ⟨rfl, HBW.out⟩
      · have hk4 : k < 4 := by omega
        have q0 := (hb'.cell (p := ⟨g1, k, none⟩) HG1.out).trans (HP4.out k hk4)
        have q1 := (hb'.cell (p := ⟨g3, k, none⟩) HG3.out).trans (HN4.out k hk4)
        have hki : (k : Int) < 4 := by omega
        have hn8 : bits BinOp.xor IntKind.u8 IntKind.u8.max (byt (unsig a0) k) = 255 - byt (unsig a0) k := not_u8 (byt (unsig a0) k) (byt_bounds _ _).1 (byt_bounds _ _).2
        have HBF := hide hb'
        clear h4 hk hb hb'
        go_wp2
        go_quiet (fail)
        go_wp2
        go_roundw
        case rel => exact ⟨k + 1, hk4, by go_num, below_drewN HBW.out _, below_drewN HBF.out _⟩
        case measure => simp [intOf]; omega
  · have hh : (y : Int) < x := by omega
    have hn : ¬ (x : Int) < y := by omega
    rw [if_neg (by omega), if_pos (by omega)] at HE
    clear h hx hy
    go_wp2_with fail
    refine HC.out.mono ?_
    rintro e w4 ⟨rfl, hb4⟩
    rw [HE.out]
    have HP4 := hide (fun j hj => (hb4.cell (p := ⟨g1, j, none⟩) (Nat.lt_of_lt_of_le (Nat.lt_of_lt_of_le L1.out.lt L2.out.below.size) L3.out.below.size)).trans (HP.out j hj))
    have HN4 := hide (fun j hj => (hb4.cell (p := ⟨g3, j, none⟩) L3.out.lt).trans (HN.out j hj))
    have HB4 := hide (HB3.out.trans (hb4.mono HB3.out.size))
    have p0 := HP4.out 0 (by omega)
    have HG1 := hide (World.block_lt_of_cell? w4 _ p0)
    have HG3 := hide (World.block_lt_of_cell? w4 _ (HN4.out 0 (by omega)))
    have HT := hide (byt_top a0 HB.out.1 HB.out.2)
    clear hb4
    have hbt : (!(decide (128 ≤ byt (unsig a0) 0) == decide (a0 < 0))) = false := by have e : decide (128 ≤ byt (unsig a0) 0) = decide (a0 < 0) := decide_eq_decide.2 HT.out; rw [e]; cases decide (a0 < 0) <;> rfl
    go_wp2
    clear p0 hbt
    go_loopw [9] (fun i wr => ∃ k : Nat, k ≤ 4 ∧ i = .int .i64 k ∧ Below w.heap.size w wr ∧ Below w4.heap.size w4 wr) (fun i _ => 4 - (intOf i).toNat)
    case atStart => exact ⟨0, by omega, rfl, HB4.out, Below.refl _ _⟩
    case round =>
      obtain ⟨k, hk, rfl, hb, hb'⟩ := hrel
      have HBW := hide hb
      by_cases h4 : k = 4
      · subst h4
        clear hb hb'
        go_wp2
        go_ret
        exact ⟨rfl, HBW.out⟩
      · have hk4 : k < 4 := by omega
        have q0 := (hb'.cell (p := ⟨g1, k, none⟩) HG1.out).trans (HP4.out k hk4)
        have q1 := (hb'.cell (p := ⟨g3, k, none⟩) HG3.out).trans (HN4.out k hk4)
        have hki : (k : Int) < 4 := by omega
        have hn8 : bits BinOp.xor IntKind.u8 IntKind.u8.max (byt (unsig a0) k) = 255 - byt (unsig a0) k := not_u8 (byt (unsig a0) k) (byt_bounds _ _).1 (byt_bounds _ _).2
        have HBF := hide hb'
        clear h4 hk hb hb'
        go_wp2
        go_quiet (fail)
        go_wp2
        go_roundw
        case rel => exact ⟨k + 1, hk4, by go_num, below_drewN HBW.out _, below_drewN HBF.out _⟩
        case measure => simp [intOf]; omega

set_option maxRecDepth 100000 in
theorem lifted (os : Os) (started : os.Started) (H : Type) (enc : TypeId × Value → H) :
    ReturnsInHanded {} Try.checked os 4 .any (Rows.fnI32OrderAndComplementSpec.pre6 enc Try.prog Try.f4 Rows.fnI32OrderAndComplementRow.domain false) (Rows.fnI32OrderAndComplementSpec.post enc Try.prog Try.f4 false true false false) := by
  refine returnsInHanded_of_change (C := Try.checked) own started (by kernel_rfl) Try.func4
    (ChangeSpec.witness6 (enc := enc) (C := Try.checked) false ⟨#[], #[.int .i32 0, .int .i32 0], []⟩ 8 (by kernel_rfl) (by kernel_rfl) (by kernel_rfl) (by kernel_rfl)) ?_
  intro W base args ds gs before hval0 hW hcnd _
  have hval : ∀ (j : Nat) t v, Try.f4.params[j]? = some t → args[j]? = some v → Value.okWide Try.prog W .any base t v := hval0
  have hW' := hW
  obtain ⟨p, q, hA0, hV, rfl, hfz, hnd⟩ := hW
  have hA : DataW.TrodAll enc Try.prog W 0 (fun _ => true) true Try.f4.params.toList args.toList ds p := hA0
  rw [Try.params4] at hA hval
  obtain ⟨v0, vs0, d0, ds0, p0, q0, hargs, rfl, rfl, h0, r0⟩ := trodAll_cons hA
  obtain ⟨v1, vs1, d1, ds1, p1, q1, rfl, rfl, rfl, h1, r1⟩ := trodAll_cons r0
  obtain ⟨rfl, rfl, rfl⟩ := trodAll_nil r1
  obtain rfl : args = #[v0, v1] := by cases args; simp_all
  obtain ⟨rfl, rfl⟩ := trodVars_none hV
  obtain ⟨a0, rfl, rfl, rfl, w0⟩ := open_int Try.underlying21 (hval 0 21 v0 rfl rfl) h0
  obtain ⟨a1, rfl, rfl, rfl, w1⟩ := open_int Try.underlying21 (hval 1 21 v1 rfl rfl) h1
  clear hA0 hval0
  refine (walk a0 a1 w0 w1 W).mono fun e W' ⟨he, bel⟩ => ?_
  subst he
  exact ⟨_, rfl, _, _, _, [], _, [], hW', trodAll_mk1 (shut_bool Try.underlying4 _), (trodAll_cons_mk (shut_int Try.underlying21 w0) (trodAll_cons_mk (shut_int Try.underlying21 w1) trodAll_mk0)), rfl, bel.frame _, fun h => by cases h⟩

theorem over : Rows.fnI32OrderAndComplementRow.holds Try.pinned (OpenSpec.ofChange Rows.fnI32OrderAndComplementSpec) :=
  OpenClaim.holds_of_wide 4 Try.f4 rfl rfl rfl rfl rfl rfl rfl ⟨rfl, rfl, rfl, rfl, rfl⟩ rfl rfl rfl rfl rfl (by kernel_rfl) Try.func4 (by kernel_rfl)
    (of_decide_eq_true (by kernel_rfl)) (by unfold Func.isWrapper; first | (rw [if_pos (by decide +kernel)]; kernel_rfl) | (rw [if_neg (by decide +kernel)]; exact ⟨rfl, rfl⟩))
    (fun os started H enc _ => lifted os started H enc)

end Go.Proofs.Qxb6615551a.fnI32OrderAndComplement
namespace Go.Proofs.Qxb6615551a
/-- The statement. -/
theorem order_complement : Rows.FnI32OrderAndComplementSaid := fnI32OrderAndComplement.over
#print axioms order_complement
end Go.Proofs.Qxb6615551a
