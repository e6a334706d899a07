/-
  The row: the backward loop over the options, the refusals, and newConfig called.
-/
import Derived.Test.Qxb6615096aFmtBack
import Derived.Deep.DeepCutAuto
import Derived.Test.Qxb6615096aFmtNew
import Derived.Test.Qxb6615096aFmtFields
namespace Go.Proofs.Qxb6615096aFmt
open Go.RowKit Go.Extern.Stop Go.Stop Go.Extern Go.Deep

/-- newConfig refuses one of the values. -/
def badB (md mg sl bt dp ms : Int) : Bool := decide ((md ≠ 0 ∧ md ≠ 1) ∨ (mg ≠ 0 ∧ mg ≠ 1) ∨ sl < 0 ∨ bt < 0 ∨ dp < 0 ∨ ms < 0)
theorem badB_iff (md mg sl bt dp ms : Int) : badB md mg sl bt dp ms = true ↔ ((md ≠ 0 ∧ md ≠ 1) ∨ (mg ≠ 0 ∧ mg ≠ 1) ∨ sl < 0 ∨ bt < 0 ∨ dp < 0 ∨ ms < 0) := decide_eq_true_iff

set_option maxRecDepth 100000 in
set_option maxHeartbeats 3200000 in
theorem main_row (F : Interp) (b off len cap : Nat) (O : Nat → Opt) (w : World) (hF : F.answers w.tape) (hD : Default w) (hl : len ≤ 65536) (hb : b < w.heap.size) (ao : Option Addr) (hao : ∀ i, i < len → ao = some ⟨b, off, none⟩)
    (hopt : Calls Tryf.prog 13 #[.slice ao len cap] w fun e w1 => e = .returned (.slice (some ⟨w.heap.size, 0, none⟩) len len) ∧ (∃ bx, Opts w1 w.heap.size len len O bx) ∧ Below w.heap.size w w1)
    (hc0 : ∀ i, i < len → w.cell? ⟨b, off + i * 3, none⟩ = some (.bool (O i).nl)) (hc1 : ∀ i, i < len → w.cell? ⟨b, off + i * 3 + 1, none⟩ = some (.int .u8 (O i).fd))
    (hc2 : ∀ i, i < len → w.cell? ⟨b, off + i * 3 + 2, none⟩ = some (.int .i64 (O i).n)) (hfd : ∀ i, i < len → 0 ≤ (O i).fd) :
    Calls Tryf.prog 4 #[.slice ao len cap] w fun e w' => e = .returned (.bool true) ∧ Below w.heap.size w w' := by
  have HD := hide hD
  have HOPT := hide hopt
  have HAO := hide hao
  clear hopt hao
  have H0 := hide hc0
  have H1 := hide hc1
  have H2 := hide hc2
  have HFD := hide hfd
  clear hc0 hc1 hc2 hfd hD
  go_enter Tryf.func4, Tryf.ntmps4
  go_wp2_with (first | (go_at_call 12; go_in))
  refine HOPT.out.mono ?_
  rintro e w1 ⟨rfl, ⟨bx, hO⟩, hb1⟩
  have HO := hide hO
  have HB1 := hide hb1
  have HBS := hide (back_start w1 len O)
  clear hO hb1
  go_wp2
  go_loopw [4, 5, 6, 7, 8, 9, 10, 11, 13, 14] (fun a4 a5 a6 a7 a8 a9 a10 a11 a13 a14 wr => ∃ m : Nat, m ≤ len ∧ a14 = .int .i64 ((m : Int) - 1) ∧ a4 = .int .i64 ((G O len m 0).getD 0) ∧ a5 = .bool (bv (G O len m 1)) ∧
      a6 = .int .i64 ((G O len m 2).getD 10000) ∧ a7 = .bool (bv (G O len m 3)) ∧ a8 = .int .i64 ((G O len m 4).getD 1048576) ∧ a9 = .int .i64 ((G O len m 5).getD 32) ∧ a10 = .int .i64 ((G O len m 6).getD 1000) ∧
      a11 = .int .i64 ((G O len m 7).getD 0) ∧ a13 = .bool (NN O len m) ∧ Back wr w1 w1.heap.size len m O) (fun _ _ _ _ _ _ _ _ _ a14 _ => (intOf a14 + 1).toNat)
  case atStart => exact ⟨len, Nat.le_refl _, rfl, by rw [G_end]; rfl, by rw [G_end]; rfl, by rw [G_end]; rfl, by rw [G_end]; rfl, by rw [G_end]; rfl, by rw [G_end]; rfl, by rw [G_end]; rfl, by rw [G_end]; rfl, by rw [NN_end], HBS.out⟩
  case round =>
    obtain ⟨m, hm, rfl, rfl, rfl, rfl, rfl, rfl, rfl, rfl, rfl, rfl, hBk⟩ := hrel
    have HBk := hide hBk
    have hbr : b < wr.heap.size := by have := HB1.out.size; have := hBk.below.size; omega
    have hSr : w1.heap.size < wr.heap.size := hBk.row.lt
    by_cases hm0 : m = 0
    · subst hm0
      obtain ⟨md, hmd⟩ : ∃ x, x = (G O len 0 0).getD 0 := ⟨_, rfl⟩
      obtain ⟨al, hal⟩ : ∃ x, x = bv (G O len 0 1) := ⟨_, rfl⟩
      obtain ⟨sl, hsl⟩ : ∃ x, x = (G O len 0 2).getD 10000 := ⟨_, rfl⟩
      obtain ⟨st, hst⟩ : ∃ x, x = bv (G O len 0 3) := ⟨_, rfl⟩
      obtain ⟨bt, hbt⟩ : ∃ x, x = (G O len 0 4).getD 1048576 := ⟨_, rfl⟩
      obtain ⟨dp, hdp⟩ : ∃ x, x = (G O len 0 5).getD 32 := ⟨_, rfl⟩
      obtain ⟨ms, hms⟩ : ∃ x, x = (G O len 0 6).getD 1000 := ⟨_, rfl⟩
      obtain ⟨mg, hmg⟩ : ∃ x, x = (G O len 0 7).getD 0 := ⟨_, rfl⟩
      obtain ⟨rf, hrf⟩ : ∃ x, x = NN O len 0 := ⟨_, rfl⟩
      have HCV : Hid (cfgVal (fun f => last O f 0 len) = .agg #[.int .i64 md, .bool al, .int .i64 sl, .bool st, .int .i64 bt, .int .i64 dp, .int .i64 ms, .int .i64 mg]) := by rw [hmd, hal, hsl, hst, hbt, hdp, hms, hmg]; rfl
      have HBAD : Hid (bad (fun f => last O f 0 len) ↔ badB md mg sl bt dp ms = true) := by rw [hmd, hsl, hbt, hdp, hms, hmg]; exact (badB_iff _ _ _ _ _ _).symm
      have HRF : Hid (rf = anyNil O 0 len) := hrf
      rw [← hmd, ← hal, ← hsl, ← hst, ← hbt, ← hdp, ← hms, ← hmg, ← hrf]
      clear hmd hal hsl hst hbt hdp hms hmg hrf hBk
      go_upto_region 35 with fail
      go_cut [122] (fun c wx => c = .bool (badB md mg sl bt dp ms) ∧ wx = wr)
      case first =>
        rcases (show (md ≠ 0 ∧ md ≠ 1) ∨ md = 0 ∨ md = 1 by omega) with h1 | h1
        · have e0 : (md != 0) = true := by rw [bne_iff_ne]; exact h1.1
          have e1 : (md != 1) = true := by rw [bne_iff_ne]; exact h1.2
          have HE := hide ((badB_iff md mg sl bt dp ms).2 (Or.inl h1))
          clear h1
          as_aux_lemma =>
            go_wp2
            go_meet
            exact ⟨by rw [HE.out], rfl⟩
        · rcases (show (mg ≠ 0 ∧ mg ≠ 1) ∨ mg = 0 ∨ mg = 1 by omega) with h2 | h2
          · have f0 : (mg != 0) = true := by rw [bne_iff_ne]; exact h2.1
            have f1 : (mg != 1) = true := by rw [bne_iff_ne]; exact h2.2
            have HE := hide ((badB_iff md mg sl bt dp ms).2 (Or.inr (Or.inl h2)))
            clear h2
            rcases h1 with h1 | h1
            · have e0 : (md != 0) = false := by rw [h1]; rfl
              clear h1
              as_aux_lemma =>
                go_wp2
                go_meet
                exact ⟨by rw [HE.out], rfl⟩
            · have e0 : (md != 0) = true := by rw [h1]; rfl
              have e1 : (md != 1) = false := by rw [h1]; rfl
              clear h1
              as_aux_lemma =>
                go_wp2
                go_meet
                exact ⟨by rw [HE.out], rfl⟩
          · have hmd : ((md != 0) = false) ∨ ((md != 0) = true ∧ (md != 1) = false) := by
              rcases h1 with h1 | h1
              · exact Or.inl (by rw [h1]; rfl)
              · exact Or.inr ⟨by rw [h1]; rfl, by rw [h1]; rfl⟩
            have hmg : ((mg != 0) = false) ∨ ((mg != 0) = true ∧ (mg != 1) = false) := by
              rcases h2 with h2 | h2
              · exact Or.inl (by rw [h2]; rfl)
              · exact Or.inr ⟨by rw [h2]; rfl, by rw [h2]; rfl⟩
            have HNB : Hid (0 ≤ sl → 0 ≤ bt → 0 ≤ dp → 0 ≤ ms → badB md mg sl bt dp ms = false) := fun a b c d => Bool.eq_false_iff.2 fun h => by
              have := (badB_iff md mg sl bt dp ms).1 h
              omega
            have HYB : Hid (sl < 0 ∨ bt < 0 ∨ dp < 0 ∨ ms < 0 → badB md mg sl bt dp ms = true) := fun h => (badB_iff md mg sl bt dp ms).2 (Or.inr (Or.inr h))
            clear h1 h2
            rcases hmd with e0 | ⟨e0, e1⟩
            all_goals
              rcases hmg with f0 | ⟨f0, f1⟩
              all_goals
                by_cases g1 : sl < 0
                · have HE := hide (HYB.out (Or.inl g1))
                  as_aux_lemma =>
                    go_wp2
                    go_meet
                    exact ⟨by rw [HE.out], rfl⟩
                · by_cases g2 : bt < 0
                  · have HE := hide (HYB.out (Or.inr (Or.inl g2)))
                    as_aux_lemma =>
                      go_wp2
                      go_meet
                      exact ⟨by rw [HE.out], rfl⟩
                  · by_cases g3 : dp < 0
                    · have HE := hide (HYB.out (Or.inr (Or.inr (Or.inl g3))))
                      as_aux_lemma =>
                        go_wp2
                        go_meet
                        exact ⟨by rw [HE.out], rfl⟩
                    · by_cases g4 : ms < 0
                      · have HE := hide (HYB.out (Or.inr (Or.inr (Or.inr g4))))
                        as_aux_lemma =>
                          go_wp2
                          go_meet
                          exact ⟨by rw [HE.out], rfl⟩
                      · have HE := hide (HNB.out (by omega) (by omega) (by omega) (by omega))
                        as_aux_lemma =>
                          go_wp2
                          go_meet
                          exact ⟨by rw [HE.out], rfl⟩
      case rest =>
        obtain ⟨rfl, rfl⟩ := hcut
        have hbk1 : Below w1.heap.size w1 wc := HBk.out.below
        have hFr : F.answers wc.tape := by rw [hbk1.tape, HB1.out.tape]; exact hF
        have HNW := hide (new_any F w.heap.size len O bx wc hFr ((HD.out.keep HB1.out (Nat.lt_of_le_of_lt (Nat.zero_le _) hb)).keep hbk1 (Nat.lt_of_lt_of_le (Nat.lt_of_le_of_lt (Nat.zero_le _) hb) HB1.out.size)) (HO.out.keep hbk1) HFD.out hl)
        have HBW := hide (HB1.out.trans (hbk1.mono HB1.out.size))
        clear hbk1 hFr
        have ea : (md == md) = true := by simp
        have eb : (al == al) = true := by simp
        have ec : (sl == sl) = true := by simp
        have ed : (st == st) = true := by simp
        have ee : (bt == bt) = true := by simp
        have ef : (dp == dp) = true := by simp
        have eg : (ms == ms) = true := by simp
        have eh : (mg == mg) = true := by simp
        have hwl : w.heap.size ≤ wc.heap.size := HBW.out.size
        cases hbb : badB md mg sl bt dp ms
        · have HBB := hide hbb
          clear hbb
          go_wp2_with fail
          refine HNW.out.mono ?_
          rintro e w3 ⟨hb3, h⟩
          have HB3 := hide (HBW.out.trans (hb3.mono hwl))
          have hw3 : wc.heap.size ≤ w3.heap.size := hb3.size
          clear hb3
          rcases h with ⟨x, rfl, hx⟩ | ⟨rfl, h1, h2⟩
          · obtain rfl : rf = true := by
              rw [HRF.out]
              rcases hx with hx | hx
              · exact hx
              · rw [HBAD.out, HBB.out] at hx; cases hx
            clear hx
            unfold zeroCfg
            go_wp2_with fail
            refine (fields_any 0 false 0 false 0 0 0 0 _).mono ?_
            rintro e w4 ⟨rfl, hb4⟩
            have HB4 := hide ((HB3.out.alloc (by omega) _).trans (hb4.mono (by simp; omega)))
            clear hb4
            go_wp2
            go_ret
            exact ⟨rfl, HB4.out⟩
          · obtain rfl : rf = false := by rw [HRF.out]; exact h1
            clear h1 h2
            rw [HCV.out]
            go_wp2_with fail
            refine (fields_any md al sl st bt dp ms mg _).mono ?_
            rintro e w4 ⟨rfl, hb4⟩
            have HB4 := hide ((HB3.out.alloc (by omega) _).trans (hb4.mono (by simp; omega)))
            clear hb4
            go_wp2
            go_ret
            exact ⟨rfl, HB4.out⟩
        · have HBB := hide hbb
          clear hbb
          go_wp2_with fail
          refine HNW.out.mono ?_
          rintro e w3 ⟨hb3, h⟩
          have HB3 := hide (HBW.out.trans (hb3.mono hwl))
          have hw3 : wc.heap.size ≤ w3.heap.size := hb3.size
          clear hb3
          rcases h with ⟨x, rfl, hx⟩ | ⟨rfl, h1, h2⟩
          · clear hx
            unfold zeroCfg
            go_wp2_with fail
            refine (fields_any 0 false 0 false 0 0 0 0 _).mono ?_
            rintro e w4 ⟨rfl, hb4⟩
            have HB4 := hide ((HB3.out.alloc (by omega) _).trans (hb4.mono (by simp; omega)))
            clear hb4
            go_wp2
            go_ret
            exact ⟨rfl, HB4.out⟩
          · exact absurd (HBAD.out.2 HBB.out) h2
    · obtain ⟨m, rfl⟩ : ∃ m', m = m' + 1 := ⟨m - 1, by omega⟩
      have hlt : m < len := by omega
      obtain rfl := HAO.out m hlt
      have hbb := (HB1.out.cell (p := ⟨b, off + m * 3, none⟩) hb).trans (H0.out m hlt)
      have hbw : b < w1.heap.size := by have := HB1.out.size; omega
      have d0 : wr.cell? ⟨b, off + m * 3, none⟩ = some (.bool (O m).nl) := (hBk.below.cell (p := ⟨b, off + m * 3, none⟩) hbw).trans ((HB1.out.cell (p := ⟨b, off + m * 3, none⟩) hb).trans (H0.out m hlt))
      have d1 : wr.cell? ⟨b, off + m * 3 + 1, none⟩ = some (.int .u8 (O m).fd) := (hBk.below.cell (p := ⟨b, off + m * 3 + 1, none⟩) hbw).trans ((HB1.out.cell (p := ⟨b, off + m * 3 + 1, none⟩) hb).trans (H1.out m hlt))
      have d2 : wr.cell? ⟨b, off + m * 3 + 2, none⟩ = some (.int .i64 (O m).n) := (hBk.below.cell (p := ⟨b, off + m * 3 + 2, none⟩) hbw).trans ((HB1.out.cell (p := ⟨b, off + m * 3 + 2, none⟩) hb).trans (H2.out m hlt))
      have hfd0 := HFD.out m hlt
      clear hbb
      rw [show (((m + 1 : Nat) : Int) - 1) = (m : Int) by omega]
      have hNN := hide (NN_step O len m hlt)
      cases hnl : (O m).nl
      · rw [hnl] at d0 hNN
        by_cases h7 : 7 < (O m).fd
        · have hG : ∀ f, f < 8 → G O len m f = G O len (m + 1) f := fun f hf => G_miss O len m f hlt (sets_not _ _ (by omega))
          have HG := hide hG
          have R := hide (fun o => (hBk.alloc o).same hG)
          clear hG hBk hnl
          go_wp2
          go_roundw
          case rel => exact ⟨m, by omega, rfl, by rw [HG.out 0 (by omega)], by rw [HG.out 1 (by omega)], by rw [HG.out 2 (by omega)], by rw [HG.out 3 (by omega)], by rw [HG.out 4 (by omega)], by rw [HG.out 5 (by omega)], by rw [HG.out 6 (by omega)], by rw [HG.out 7 (by omega)], by rw [hNN.out, Bool.or_false], R.out _⟩
          case measure => simp [intOf]
        · obtain ⟨f, hf⟩ : ∃ f : Nat, (O m).fd = (f : Int) := ⟨(O m).fd.toNat, by omega⟩
          have hf8 : f < 8 := by omega
          have hst := hBk.row.cell hf8
          have hsf := hBk.row.frozen f
          rw [hf] at d1
          cases hset : (G O len (m + 1) f).isSome
          · rw [hset] at hst
            have hGo : ∀ f', f' ≠ f → G O len m f' = G O len (m + 1) f' := fun f' he => G_miss O len m f' hlt (sets_not _ _ (by rw [hf]; omega))
            have hGh : G O len m f = some (O m).n := G_hit O len m f hlt (sets_yes _ _ hnl hf) hset
            have HGO := hide hGo
            have HGH := hide hGh
            have R := hide (fun o => (hBk.set hlt (sets_yes _ _ hnl hf) hf hset).alloc o)
            clear hGo hGh hBk hnl hset hf h7 hfd0
            rcases (show f = 0 ∨ f = 1 ∨ f = 2 ∨ f = 3 ∨ f = 4 ∨ f = 5 ∨ f = 6 ∨ f = 7 by omega) with rfl | rfl | rfl | rfl | rfl | rfl | rfl | rfl
            · as_aux_lemma =>
              go_wp2
              go_roundw
              case rel => exact ⟨m, by omega, rfl, by rw [HGH.out]; rfl, by rw [HGO.out 1 (by omega)], by rw [HGO.out 2 (by omega)], by rw [HGO.out 3 (by omega)], by rw [HGO.out 4 (by omega)], by rw [HGO.out 5 (by omega)], by rw [HGO.out 6 (by omega)], by rw [HGO.out 7 (by omega)], by rw [hNN.out, Bool.or_false], R.out _⟩
              case measure => simp [intOf]
            · as_aux_lemma =>
              go_wp2
              go_roundw
              case rel => exact ⟨m, by omega, rfl, by rw [HGO.out 0 (by omega)], by rw [HGH.out]; rfl, by rw [HGO.out 2 (by omega)], by rw [HGO.out 3 (by omega)], by rw [HGO.out 4 (by omega)], by rw [HGO.out 5 (by omega)], by rw [HGO.out 6 (by omega)], by rw [HGO.out 7 (by omega)], by rw [hNN.out, Bool.or_false], R.out _⟩
              case measure => simp [intOf]
            · as_aux_lemma =>
              go_wp2
              go_roundw
              case rel => exact ⟨m, by omega, rfl, by rw [HGO.out 0 (by omega)], by rw [HGO.out 1 (by omega)], by rw [HGH.out]; rfl, by rw [HGO.out 3 (by omega)], by rw [HGO.out 4 (by omega)], by rw [HGO.out 5 (by omega)], by rw [HGO.out 6 (by omega)], by rw [HGO.out 7 (by omega)], by rw [hNN.out, Bool.or_false], R.out _⟩
              case measure => simp [intOf]
            · as_aux_lemma =>
              go_wp2
              go_roundw
              case rel => exact ⟨m, by omega, rfl, by rw [HGO.out 0 (by omega)], by rw [HGO.out 1 (by omega)], by rw [HGO.out 2 (by omega)], by rw [HGH.out]; rfl, by rw [HGO.out 4 (by omega)], by rw [HGO.out 5 (by omega)], by rw [HGO.out 6 (by omega)], by rw [HGO.out 7 (by omega)], by rw [hNN.out, Bool.or_false], R.out _⟩
              case measure => simp [intOf]
            · as_aux_lemma =>
              go_wp2
              go_roundw
              case rel => exact ⟨m, by omega, rfl, by rw [HGO.out 0 (by omega)], by rw [HGO.out 1 (by omega)], by rw [HGO.out 2 (by omega)], by rw [HGO.out 3 (by omega)], by rw [HGH.out]; rfl, by rw [HGO.out 5 (by omega)], by rw [HGO.out 6 (by omega)], by rw [HGO.out 7 (by omega)], by rw [hNN.out, Bool.or_false], R.out _⟩
              case measure => simp [intOf]
            · as_aux_lemma =>
              go_wp2
              go_roundw
              case rel => exact ⟨m, by omega, rfl, by rw [HGO.out 0 (by omega)], by rw [HGO.out 1 (by omega)], by rw [HGO.out 2 (by omega)], by rw [HGO.out 3 (by omega)], by rw [HGO.out 4 (by omega)], by rw [HGH.out]; rfl, by rw [HGO.out 6 (by omega)], by rw [HGO.out 7 (by omega)], by rw [hNN.out, Bool.or_false], R.out _⟩
              case measure => simp [intOf]
            · as_aux_lemma =>
              go_wp2
              go_roundw
              case rel => exact ⟨m, by omega, rfl, by rw [HGO.out 0 (by omega)], by rw [HGO.out 1 (by omega)], by rw [HGO.out 2 (by omega)], by rw [HGO.out 3 (by omega)], by rw [HGO.out 4 (by omega)], by rw [HGO.out 5 (by omega)], by rw [HGH.out]; rfl, by rw [HGO.out 7 (by omega)], by rw [hNN.out, Bool.or_false], R.out _⟩
              case measure => simp [intOf]
            · as_aux_lemma =>
              go_wp2
              go_roundw
              case rel => exact ⟨m, by omega, rfl, by rw [HGO.out 0 (by omega)], by rw [HGO.out 1 (by omega)], by rw [HGO.out 2 (by omega)], by rw [HGO.out 3 (by omega)], by rw [HGO.out 4 (by omega)], by rw [HGO.out 5 (by omega)], by rw [HGO.out 6 (by omega)], by rw [HGH.out]; rfl, by rw [hNN.out, Bool.or_false], R.out _⟩
              case measure => simp [intOf]
          · rw [hset] at hst
            have hG : ∀ f', f' < 8 → G O len m f' = G O len (m + 1) f' := fun f' hf' => by
              by_cases he : f' = f
              · subst he; exact G_some O len m f' hlt hset
              · exact G_miss O len m f' hlt (sets_not _ _ (by rw [hf]; omega))
            have HG := hide hG
            have R := hide (fun o => (hBk.alloc o).same hG)
            have hf7 : (f : Int) ≤ 7 := by omega
            have hf0 : (0 : Int) ≤ (f : Int) := by omega
            clear hG hBk hnl hset hf
            go_wp2
            go_roundw
            case rel => exact ⟨m, by omega, rfl, by rw [HG.out 0 (by omega)], by rw [HG.out 1 (by omega)], by rw [HG.out 2 (by omega)], by rw [HG.out 3 (by omega)], by rw [HG.out 4 (by omega)], by rw [HG.out 5 (by omega)], by rw [HG.out 6 (by omega)], by rw [HG.out 7 (by omega)], by rw [hNN.out, Bool.or_false], R.out _⟩
            case measure => simp [intOf]
      · rw [hnl] at d0 hNN
        have hG : ∀ f, f < 8 → G O len m f = G O len (m + 1) f := fun f _ => G_miss O len m f hlt (sets_nil _ _ hnl)
        have HG := hide hG
        have R := hide (fun o => (hBk.alloc o).same hG)
        clear hG hBk hnl
        go_wp2
        go_roundw
        case rel => exact ⟨m, by omega, rfl, by rw [HG.out 0 (by omega)], by rw [HG.out 1 (by omega)], by rw [HG.out 2 (by omega)], by rw [HG.out 3 (by omega)], by rw [HG.out 4 (by omega)], by rw [HG.out 5 (by omega)], by rw [HG.out 6 (by omega)], by rw [HG.out 7 (by omega)], by rw [hNN.out, Bool.or_true], R.out _⟩
        case measure => simp [intOf]
end Go.Proofs.Qxb6615096aFmt
