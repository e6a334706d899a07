/-
  The row of FnMultiErrorUnwrapLetsErrorsFindEach, and its tied card (after the guide's ToyasProofs.lean and ToyasCard.lean).
-/
import Derived.Test.Qxb6615096aDoorRows
import Derived.Test.Qxb6615096aDoorTie
import Derived.Test.Qxb6615096aDoorCards
import Derived.Test.Qxb6615096aDoorMain
import Derived.ProofKit
import Derived.Carry
import Derived.OpenShut
import Derived.ShutString
import Derived.ChangeOld
import Derived.Deep.Slices
import Derived.LaidLaws
import Derived.LaidHandle
import Derived.Stop.Joined
import Derived.SevenTiedAt
namespace Go.Proofs.Qxb6615096aDoor
open Go.ChangeShapes Go.WideShapes Go.ChangeAt Go.RowKit Go.Deep

theorem own : ownKnob Tryd.prog.godebug = none := by kernel_rfl
theorem laidOut : laidOutB Tryd.prog = true := by kernel_rfl
theorem cells34 : Tryd.prog.cellsOf 34 = 6 := by kernel_rfl
theorem cells9 : Tryd.prog.cellsOf 9 = 1 := by kernel_rfl
theorem et : Tryd.prog.globalNamed "errors.errorType" = some 0 := by kernel_rfl
theorem oneRow : ((List.range 108).filter fun t => Tryd.prog.rowNamed t [101, 114, 114, 111, 114]) = [38] := by kernel_rfl
theorem size : Tryd.prog.types.size = 108 := by kernel_rfl

/-- What the listed variable's condition gives a walk: its one cell. -/
theorem handle_of_laid {W : World} (h : laidMetH Tryd.prog Rows.fnMultiErrorUnwrapLetsErrorsFindEachRow.laid W) : W.cell? ⟨0, 0, none⟩ = some (.iface 63 (.agg #[.pointer (some ⟨1, 38, none⟩)])) := by
  have h' : laidMet Tryd.prog [] W ∧ handlesMet Tryd.prog Rows.fnMultiErrorUnwrapLetsErrorsFindEachRow.laid W := h
  obtain ⟨name, u, ty, e1, e2, e3, e4, e5⟩ := h'.2 _ (List.mem_singleton.2 rfl)
  have en : name = [101, 114, 114, 111, 114] := (Option.some.inj e1).symm
  subst en
  obtain rfl : u = 63 := Option.some.inj (e2.symm.trans (by kernel_rfl))
  have hm : ty ∈ (List.range 108).filter fun t => Tryd.prog.rowNamed t [101, 114, 114, 111, 114] := List.mem_filter.2 ⟨List.mem_range.2 (by rw [← size]; exact e3), e4⟩
  rw [oneRow] at hm
  obtain rfl := List.mem_singleton.1 hm
  have hh : typeHandle Tryd.prog 38 = .pointer (some ⟨1, 38, none⟩) := by kernel_rfl
  rw [hh] at e5
  simpa using World.var?_cell et e5 0

/-- A world that meets the condition: the settled one, the variable's cell laid. -/
def laidWorld (P : Program) (os : Os) : World :=
  { World.holding P os ⟨#[], #[], []⟩ with heap := (World.holding P os ⟨#[], #[], []⟩).heap.modify 0 fun
      | .cells _ t frozen => .cells #[.iface 63 (.agg #[.pointer (some ⟨1, 38, none⟩)])] t frozen
      | o => o }
theorem laidWorld_met (os : Os) (args : Array Value) : laidMetH Tryd.prog Rows.fnMultiErrorUnwrapLetsErrorsFindEachRow.laid ((laidWorld Tryd.prog os).forCall (fun _ _ => 0) ⟨#[], args, []⟩).memory :=
  laidMetH_of_parts (laidMet_nil _ _) (by kernel_rfl)

theorem lt_of_cell {w : World} {b o : Nat} {v : Value} (h : w.cell? ⟨b, o, none⟩ = some v) : b < w.heap.size := by
  rcases Nat.lt_or_ge b w.heap.size with hl | hl
  · exact hl
  · simp [World.cell?, Array.getElem?_eq_none hl] at h

section
variable {H : Type} {enc : TypeId × Value → H} {w : World} {base : Nat} {spare : Nat → Bool} {held : Bool}

/-- One Bind's six cells are strings. -/
theorem six_strings {fuel : Nat} {cs : List Value} {x : DataW H × List MemPlace} (h : DataW.trod enc Tryd.prog w base spare held fuel 34 cs = some x) : ∃ f : Nat → ByteArray, ∀ j, j < 6 → cs[j]? = some (.string (f j)) := by
  obtain ⟨xs, n, _, _, hl, hxl, hf⟩ := DataW.trod_struct Tryd.underlying34 h
  rw [cells34] at hl
  have each : ∀ j, j < 6 → ∃ s : ByteArray, cs[j]? = some (.string s) := by
    intro j hj
    have hx : ∃ y, DataW.trod enc Tryd.prog w base spare held n 9 ((cs.drop j).take 1) = some y := by
      have hj' : j < xs.length := by rw [hxl]; exact hj
      rcases (show j = 0 ∨ j = 1 ∨ j = 2 ∨ j = 3 ∨ j = 4 ∨ j = 5 by omega) with rfl | rfl | rfl | rfl | rfl | rfl
      · have g : DataW.trod enc Tryd.prog w base spare held n 9 ((cs.drop 0).take (Tryd.prog.cellsOf 9)) = xs[0]? := hf 0 _ rfl
        rw [List.getElem?_eq_getElem hj', cells9] at g
        exact ⟨_, g⟩
      · have g : DataW.trod enc Tryd.prog w base spare held n 9 ((cs.drop 1).take (Tryd.prog.cellsOf 9)) = xs[1]? := hf 1 _ rfl
        rw [List.getElem?_eq_getElem hj', cells9] at g
        exact ⟨_, g⟩
      · have g : DataW.trod enc Tryd.prog w base spare held n 9 ((cs.drop 2).take (Tryd.prog.cellsOf 9)) = xs[2]? := hf 2 _ rfl
        rw [List.getElem?_eq_getElem hj', cells9] at g
        exact ⟨_, g⟩
      · have g : DataW.trod enc Tryd.prog w base spare held n 9 ((cs.drop 3).take (Tryd.prog.cellsOf 9)) = xs[3]? := hf 3 _ rfl
        rw [List.getElem?_eq_getElem hj', cells9] at g
        exact ⟨_, g⟩
      · have g : DataW.trod enc Tryd.prog w base spare held n 9 ((cs.drop 4).take (Tryd.prog.cellsOf 9)) = xs[4]? := hf 4 _ rfl
        rw [List.getElem?_eq_getElem hj', cells9] at g
        exact ⟨_, g⟩
      · have g : DataW.trod enc Tryd.prog w base spare held n 9 ((cs.drop 5).take (Tryd.prog.cellsOf 9)) = xs[5]? := hf 5 _ rfl
        rw [List.getElem?_eq_getElem hj', cells9] at g
        exact ⟨_, g⟩
    obtain ⟨y, hy⟩ := hx
    obtain ⟨s, hs, _, _⟩ := DataW.trod_string Tryd.underlying9 hy
    refine ⟨s, ?_⟩
    have h1 : ((cs.drop j).take 1)[0]? = some (.string s) := by rw [hs]; rfl
    simpa using h1
  exact choose_lt each

/-- The argument's cells: nothing to read, or a row of structs of six strings. -/
theorem open_binds {fuel : Nat} {cs : List Value} {x : DataW H × List MemPlace} (h : DataW.trod enc Tryd.prog w base spare held fuel 22 cs = some x) :
    (∃ ao cap, cs = [.slice ao 0 cap]) ∨
    ∃ (b off len cap : Nat) (sf : Nat → Nat → ByteArray), cs = [.slice (some ⟨b, off, none⟩) len cap] ∧ 0 < len ∧ len ≤ maxLen ∧ b < w.heap.size ∧
      ∀ i j, i < len → j < 6 → w.cell? ⟨b, off + i * 6 + j, none⟩ = some (.string (sf i j)) := by
  rcases open_slice Tryd.underlying22 h with ⟨h0, _⟩ | ⟨a, len, cap, m, n, D, Pl, rfl, hb, hl, hm, hmm, _, hx⟩
  · exact Or.inl ⟨_, _, h0⟩
  by_cases h0 : len = 0
  · subst h0; exact Or.inl ⟨_, _, rfl⟩
  right
  have hlm : len ≤ m := by rw [hmm]; split <;> omega
  rw [cells34] at hx
  obtain ⟨sf, hsf⟩ := choose_lt (α := Nat → ByteArray) (p := fun i f => ∀ j, j < 6 → w.cell? (a.add (i * 6 + j)) = some (.string (f j))) (fun i (hi : i < m) => by
    obtain ⟨cs', h1, h2⟩ := hx i hi
    obtain ⟨_, hlen, hcell⟩ := World.cells?_some h1
    obtain ⟨f, hf⟩ := six_strings h2
    exact ⟨f, fun j hj => by rw [← add_add, hcell j hj]; exact hf j hj⟩)
  obtain ⟨b, off, spot⟩ := a
  have hspot : spot = none := by simpa [Addr.add] using World.cell?_spot (hsf 0 (by omega) 0 (by omega))
  subst hspot
  have hcell : ∀ i j, i < len → j < 6 → w.cell? ⟨b, off + i * 6 + j, none⟩ = some (.string (sf i j)) := fun i j hi hj => by
    have := hsf i (by omega) j hj
    rw [add_plain] at this
    rw [Nat.add_assoc]
    exact this
  exact ⟨b, off, len, cap, sf, rfl, by omega, Nat.le_trans hl hm, lt_of_cell (hcell 0 0 (by omega) (by omega)), hcell⟩
end

set_option maxRecDepth 100000 in
theorem law_lifted (os : Os) (started : os.Started) (H : Type) (enc : TypeId × Value → H) :
    ReturnsInHanded {} Tryd.checked os 3 .any (fun w args => (Rows.fnMultiErrorUnwrapLetsErrorsFindEachSpec.pre enc Tryd.prog Tryd.f3 [] false w args ∧ laidMetH Tryd.prog Rows.fnMultiErrorUnwrapLetsErrorsFindEachRow.laid w) ∧ sizedMet enc Tryd.prog Tryd.f3 (OpenSpec.ofChange Rows.fnMultiErrorUnwrapLetsErrorsFindEachSpec) false w args)
      (Rows.fnMultiErrorUnwrapLetsErrorsFindEachSpec.post enc Tryd.prog Tryd.f3 false true false false) := by
  refine returnsInHanded_of_change_and (C := Tryd.checked) (X := fun w _ => laidMetH Tryd.prog Rows.fnMultiErrorUnwrapLetsErrorsFindEachRow.laid w) (fun _ _ _ hh h => h.of_heap hh) own started (by kernel_rfl) Tryd.func3
    (ChangeSpec.witness_at (enc := enc) (C := Tryd.checked) (os := os) (X := fun w _ => laidMetH Tryd.prog Rows.fnMultiErrorUnwrapLetsErrorsFindEachRow.laid w) false (laidWorld Tryd.prog os) #[.slice none 0 0, .int .i64 0] 8 rfl (by kernel_rfl) (by kernel_rfl) (by kernel_rfl) (by kernel_rfl) (by kernel_rfl) (laidWorld_met os _)) ?_
  intro W base args ds gs before hval0 hW _ _ hL _
  have hval : ∀ (j : Nat) t v, Tryd.f3.params[j]? = some t → args[j]? = some v → Value.okWide Tryd.prog W .any base t v := hval0
  have hW' := hW
  obtain ⟨p, q, hA0, hV, rfl, hfz, hnd⟩ := hW
  have hA : DataW.TrodAll enc Tryd.prog W 0 (fun _ => true) true Tryd.f3.params.toList args.toList ds p := hA0
  rw [Tryd.params3] at hA hval
  obtain ⟨v0, vs0, d0, ds0, p0, q0, hargs, rfl, rfl, h0, r0⟩ := trodAll_cons hA
  obtain ⟨v1, vs1, d1, ds1, p1, q1, rfl, rfl, rfl, h1, r1⟩ := trodAll_cons r0
  obtain ⟨rfl, rfl, rfl⟩ := trodAll_nil r1
  obtain rfl : args = #[v0, v1] := by cases args; simp_all
  obtain ⟨rfl, rfl⟩ := trodVars_none hV
  obtain ⟨ao, len, cap, rfl⟩ := okWide_slice Tryd.underlying22 (hval 0 22 v0 rfl rfl)
  have k0 := h0
  have lt0 : ∀ x ∈ p0, x.block < W.heap.size := by obtain ⟨m, hm⟩ := k0; exact DataW.trod_lt m _ _ _ hm
  obtain ⟨k, rfl, rfl, rfl, wk⟩ := open_int Tryd.underlying3 (hval 1 3 v1 rfl rfl) h1
  have hg := handle_of_laid hL
  have hwalk : Calls Tryd.prog 3 #[.slice ao len cap, .int .i64 k] W fun e W' => e = .returned (.bool true) ∧ Below W.heap.size W W' := by
    obtain ⟨fuel, hf⟩ := h0
    rcases open_binds hf with ⟨ao', cap', hcs⟩ | ⟨b, off, len', cap', sf, hcs, hpos, hml, hbl, hcell⟩
    · simp [Value.cells] at hcs
      obtain ⟨rfl, rfl, rfl⟩ := hcs
      exact main_nil _ _ k W
    · simp [Value.cells] at hcs
      obtain ⟨rfl, rfl, rfl⟩ := hcs
      have hlen : len ≤ 9223372036854775807 := by unfold maxLen at hml; omega
      by_cases hl : len ≤ 65536
      · by_cases hk : k < 0 ∨ (len : Int) ≤ k
        · exact main_out b off len cap k sf W hl hbl hcell hk
        · obtain ⟨kn, rfl⟩ : ∃ kn : Nat, k = kn := ⟨k.toNat, by omega⟩
          exact main_in b off len cap kn sf W hl hbl hcell (by omega) hg
      · exact main_long b off len cap k sf W hlen hl hcell
  clear hA0 hval0
  refine hwalk.mono fun e W' ⟨he, bel⟩ => ?_
  subst he
  exact ⟨_, rfl, _, _, _, [], _, [], hW', trodAll_mk1 (shut_bool Tryd.underlying4 _), (trodAll_cons_mk (Below.trod laidOut (by kernel_rfl) (of_decide_eq_true (by kernel_rfl)) k0 bel lt0) (trodAll_cons_mk (shut_int Tryd.underlying3 wk) trodAll_mk0)), rfl, bel.frame _, fun h => by cases h⟩

theorem row_holds : Rows.FnMultiErrorUnwrapLetsErrorsFindEachSaid :=
  OpenClaim.holds_of_wide 3 Tryd.f3 rfl rfl rfl rfl rfl rfl rfl ⟨rfl, rfl, rfl, rfl, rfl⟩ rfl rfl rfl rfl rfl (by kernel_rfl) Tryd.func3 (by kernel_rfl)
    (of_decide_eq_true (by kernel_rfl)) (by unfold Func.isWrapper; first | (rw [if_pos (by decide +kernel)]; kernel_rfl) | (rw [if_neg (by decide +kernel)]; exact ⟨rfl, rfl⟩))
    (fun os started H enc _ => law_lifted os started H enc)

/-- The tied card. -/
theorem find_each : Rows.FnMultiErrorUnwrapLetsErrorsFindEachCardSaid :=
  Claim7.holds_tied_plain_at .later [] [.handle] true _ true
    row_holds (fun _ h => by cases h) (by kernel_rfl) (fun _ h => by cases h) fnMultiErrorUnwrapLetsErrorsFindEach_row_tie rfl ⟨rfl, rfl⟩ (by kernel_rfl) rfl
    (fun f fn hf hfn => by
      obtain rfl : f = 3 := Option.some.inj ((show Tryd.prog.funcNamed Rows.fnMultiErrorUnwrapLetsErrorsFindEachRow.func = some 3 by kernel_rfl).symm.trans hf) |>.symm
      obtain rfl : fn = Tryd.f3 := (Option.some.inj (Tryd.func3.symm.trans hfn)).symm
      exact ⟨by kernel_rfl, fun j t ht => by
        rw [Tryd.params3] at ht
        have h3 : t = 22 ∨ t = 3 := by
          rcases j with _ | _ | j
          · left; simpa using ht.symm
          · right; simpa using ht.symm
          · simp at ht
        rcases h3 with rfl | rfl
        · exact (show Tryd.prog.wantsStandIn 22 = false by kernel_rfl)
        · exact (show Tryd.prog.wantsStandIn 3 = false by kernel_rfl)⟩)
    (by kernel_rfl)

#print axioms find_each
end Go.Proofs.Qxb6615096aDoor
