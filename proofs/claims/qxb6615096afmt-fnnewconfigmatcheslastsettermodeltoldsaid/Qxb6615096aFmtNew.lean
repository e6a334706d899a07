/-
  ZZnewConfig (function 14): newConfig, its config handed on.
-/
import Derived.Test.Qxb6615096aFmtConfig
namespace Go.Proofs.Qxb6615096aFmt
open Go.RowKit Go.Extern.Stop Go.Stop Go.Extern Go.Deep

theorem Default.keep {w w' : World} (h : Default w) (hb : Below w.heap.size w w') (h0 : 0 < w.heap.size) : Default w' :=
  ⟨(hb.cell (p := ⟨0, 0, none⟩) h0).trans h.c0, (hb.cell (p := ⟨0, 1, none⟩) h0).trans h.c1, (hb.cell (p := ⟨0, 2, none⟩) h0).trans h.c2, (hb.cell (p := ⟨0, 3, none⟩) h0).trans h.c3,
   (hb.cell (p := ⟨0, 4, none⟩) h0).trans h.c4, (hb.cell (p := ⟨0, 5, none⟩) h0).trans h.c5, (hb.cell (p := ⟨0, 6, none⟩) h0).trans h.c6, (hb.cell (p := ⟨0, 7, none⟩) h0).trans h.c7⟩

/-- newConfig over the options' row, an empty one too. -/
theorem config_any (F : Interp) (L n : Nat) (O : Nat → Opt) (bx : Nat → Nat) (w : World) (hF : F.answers w.tape) (hD : Default w) (hO : Opts w L n n O bx) (hfd : ∀ i, i < n → 0 ≤ (O i).fd) (hnn : n ≤ 65536) :
    Calls Tryf.prog 23 #[.slice (some ⟨L, 0, none⟩) n n] w fun e w' => ConfigMade O n w e w' := by
  have h0 : 0 < w.heap.size := by have := hO.row.lt; omega
  by_cases hn : n = 0
  · subst hn
    exact config_empty _ _ O w hD h0
  · exact config_row F L n O bx w hF hD h0 hO hfd (by omega) hnn

theorem zero_alloc (w : World) : (w.alloc (.cells #[.int .i64 0, .bool false, .int .i64 0, .bool false, .int .i64 0, .int .i64 0, .int .i64 0, .int .i64 0] 39)).rowIs w.heap.size 39 8 zeroCell :=
  World.rowIs_alloc w #[.int .i64 0, .bool false, .int .i64 0, .bool false, .int .i64 0, .int .i64 0, .int .i64 0, .int .i64 0] 39 zeroCell (fun i hi => by
      simp at hi
      rcases (show i = 0 ∨ i = 1 ∨ i = 2 ∨ i = 3 ∨ i = 4 ∨ i = 5 ∨ i = 6 ∨ i = 7 by omega) with rfl | rfl | rfl | rfl | rfl | rfl | rfl | rfl <;> rfl)

set_option maxRecDepth 100000 in
set_option maxHeartbeats 1600000 in
theorem new_any (F : Interp) (L n : Nat) (O : Nat → Opt) (bx : Nat → Nat) (w : World) (hF : F.answers w.tape) (hD : Default w) (hO : Opts w L n n O bx) (hfd : ∀ i, i < n → 0 ≤ (O i).fd) (hnn : n ≤ 65536) :
    Calls Tryf.prog 14 #[.slice (some ⟨L, 0, none⟩) n n] w fun e w' => ConfigMade O n w e w' := by
  have h0 : 0 < w.heap.size := by have := hO.row.lt; omega
  have hb0 : Below w.heap.size w (w.alloc (.cells #[.int .i64 0, .bool false, .int .i64 0, .bool false, .int .i64 0, .int .i64 0, .int .i64 0, .int .i64 0] 39)) := (Below.refl _ _).alloc (Nat.le_refl _) _
  have HC := hide (config_any F L n O bx _ (by exact hF) (hD.keep hb0 h0) (hO.keep hb0) hfd hnn)
  have HB0 := hide hb0
  clear hb0 hD hO hfd
  go_enter Tryf.func14, Tryf.ntmps14
  go_wp2_with fail
  refine HC.out.mono ?_
  rintro e w1 ⟨hb1, h⟩
  have hz1 := (zero_alloc w).of_block (hb1.block w.heap.size (by simp))
  obtain ⟨r0, r1, r2, r3, r4, r5, r6, r7⟩ := zero_cells hz1
  have hfr := hz1.frozen
  have hw1 : w.heap.size < w1.heap.size := hz1.lt
  have HBB := hide (HB0.out.trans (hb1.mono (by simp)))
  clear hb1 hz1
  rcases h with ⟨x, rfl, hx⟩ | ⟨rfl, h1, h2⟩
  · have HX := hide hx
    clear hx
    unfold zeroCfg
    go_wp2
    exact bodyPost_ret (v := .tuple #[zeroCfg, .iface 57 (.pointer (some ⟨x, 0, none⟩))]) (by simp [results, Tryf.results14, go_sem, zeroCfg, r0, r1, r2, r3, r4, r5, r6, r7]) rfl
      ⟨below_eight HBB.out _ _ _ _ _ _ _ _, Or.inl ⟨x, rfl, HX.out⟩⟩
  · have HX := hide h1
    have HY := hide h2
    clear h1 h2
    obtain ⟨md, al, sl, st, bt, dp, ms, mg, hcv⟩ : ∃ (md : Int) (al : Bool) (sl : Int) (st : Bool) (bt dp ms mg : Int), cfgVal (fun f => last O f 0 n) = .agg #[.int .i64 md, .bool al, .int .i64 sl, .bool st, .int .i64 bt, .int .i64 dp, .int .i64 ms, .int .i64 mg] := ⟨_, _, _, _, _, _, _, _, rfl⟩
    have HCV := hide hcv
    rw [hcv]
    clear hcv
    go_wp2
    exact bodyPost_ret (v := .tuple #[cfgVal (fun f => last O f 0 n), .nilIface]) (by rw [HCV.out]; simp [results, Tryf.results14, go_sem, r0, r1, r2, r3, r4, r5, r6, r7]) rfl
      ⟨below_eight HBB.out _ _ _ _ _ _ _ _, Or.inr ⟨rfl, HX.out, HY.out⟩⟩
end Go.Proofs.Qxb6615096aFmt
