/-
  The told and tied card of FnNewConfigMatchesLastSetterModel (after the guide's PortSeven.lean and ToyasProofs.lean).
-/
import Derived.Test.Qxb6615096aFmtRows
import Derived.Test.Qxb6615096aFmtTie
import Derived.Test.Qxb6615096aFmtCards
import Derived.Test.Qxb6615096aFmtMain
import Derived.Test.Qxb6615096aFmtEmpty
import Derived.ProofKit
import Derived.Carry
import Derived.OpenShut
import Derived.OpenVars
import Derived.Deep.Slices
import Derived.LaidLaws
import Derived.LaidHandle
import Derived.Deep.DeepLaidRun
import Derived.ChangeVars
import Derived.SevenToldRow
import Derived.ChangeOld
import Derived.ShutString
import Derived.Stop.Joined
import Derived.Stop.JoinedAt
import Derived.Stop.JoinedTold
import Derived.SizedLaws
import Derived.SevenTiedAt
namespace Go.Proofs.Qxb6615096aFmt
open Go.ChangeShapes Go.WideShapes Go.ChangeAt Go.RowKit Go.Kit Go.Deep
open Go.Extern.Stop Go.Stop Go.Extern

theorem own : ownKnob Tryf.prog.godebug = none := by kernel_rfl
theorem laidOutP : laidOutB Tryf.prog = true := by kernel_rfl
theorem cells35 : Tryf.prog.cellsOf 35 = 3 := by kernel_rfl
theorem cells2 : Tryf.prog.cellsOf 2 = 1 := by kernel_rfl
theorem cells3 : Tryf.prog.cellsOf 3 = 1 := by kernel_rfl
theorem cells4 : Tryf.prog.cellsOf 4 = 1 := by kernel_rfl
theorem cells5 : Tryf.prog.cellsOf 5 = 1 := by kernel_rfl
theorem cells36 : Tryf.prog.cellsOf 36 = 1 := by kernel_rfl
theorem cells37 : Tryf.prog.cellsOf 37 = 1 := by kernel_rfl
theorem varsOk : varsRowed Tryf.prog Rows.fnNewConfigMatchesLastSetterModelSpec.vars = true := by kernel_rfl

theorem lt_of_cell {w : World} {b o : Nat} {v : Value} (h : w.cell? ⟨b, o, none⟩ = some v) : b < w.heap.size := by
  rcases Nat.lt_or_ge b w.heap.size with hl | hl
  · exact hl
  · simp [World.cell?, Array.getElem?_eq_none hl] at h

theorem u8_bounds {x : Int} (h : (Lit.int .u8 x).wf = true) : 0 ≤ x := by
  simp [Lit.wf, IntKind.min, IntKind.max, IntKind.signed, IntKind.bits] at h
  omega

section
variable {H : Type} {enc : TypeId × Value → H} {w : World} {base : Nat} {spare : Nat → Bool} {held : Bool}

theorem take_one {cs : List Value} {j : Nat} {v : Value} (h : (cs.drop j).take 1 = [v]) : cs[j]? = some v := by
  have h1 : ((cs.drop j).take 1)[0]? = some v := by rw [h]; rfl
  simpa using h1

/-- One Opt's three cells. -/
theorem three_cells {fuel : Nat} {cs : List Value} {x : DataW H × List MemPlace} (h : DataW.trod enc Tryf.prog w base spare held fuel 35 cs = some x) :
    ∃ o : Opt, 0 ≤ o.fd ∧ cs[0]? = some (.bool o.nl) ∧ cs[1]? = some (.int .u8 o.fd) ∧ cs[2]? = some (.int .i64 o.n) := by
  obtain ⟨xs, n, _, _, hl, hxl, hf⟩ := DataW.trod_struct Tryf.underlying35 h
  have g0 : DataW.trod enc Tryf.prog w base spare held n 4 ((cs.drop 0).take (Tryf.prog.cellsOf 4)) = xs[0]? := hf 0 _ rfl
  have g1 : DataW.trod enc Tryf.prog w base spare held n 5 ((cs.drop 1).take (Tryf.prog.cellsOf 5)) = xs[1]? := hf 1 _ rfl
  have g2 : DataW.trod enc Tryf.prog w base spare held n 2 ((cs.drop 2).take (Tryf.prog.cellsOf 2)) = xs[2]? := hf 2 _ rfl
  have hxl' : xs.length = 3 := hxl
  rw [List.getElem?_eq_getElem (by omega), cells4] at g0
  rw [List.getElem?_eq_getElem (by omega), cells5] at g1
  rw [List.getElem?_eq_getElem (by omega), cells2] at g2
  obtain ⟨nl, e0, _⟩ := DataW.trod_bool Tryf.underlying4 g0
  obtain ⟨fd, e1, _, w1⟩ := DataW.trod_int Tryf.underlying5 g1
  obtain ⟨n', e2, _, _⟩ := DataW.trod_int Tryf.underlying2 g2
  exact ⟨⟨nl, fd, n'⟩, u8_bounds w1, take_one e0, take_one e1, take_one e2⟩

theorem choose_opt {n : Nat} {p : Nat → Opt → Prop} (h : ∀ i, i < n → ∃ o, p i o) : ∃ O : Nat → Opt, ∀ i, i < n → p i (O i) := by
  refine ⟨fun i => if hi : i < n then Classical.choose (h i hi) else ⟨false, 0, 0⟩, fun i hi => ?_⟩
  have e : (if hi : i < n then Classical.choose (h i hi) else (⟨false, 0, 0⟩ : Opt)) = Classical.choose (h i hi) := dif_pos hi
  show p i (if hi : i < n then Classical.choose (h i hi) else (⟨false, 0, 0⟩ : Opt))
  rw [e]
  exact Classical.choose_spec (h i hi)

/-- The argument's cells: nothing to read, or a row of options. -/
theorem open_opts {fuel : Nat} {cs : List Value} {x : DataW H × List MemPlace} (h : DataW.trod enc Tryf.prog w base spare held fuel 29 cs = some x) :
    (∃ ao cap, cs = [.slice ao 0 cap]) ∨
    ∃ (b off len cap : Nat) (O : Nat → Opt), cs = [.slice (some ⟨b, off, none⟩) len cap] ∧ 0 < len ∧ len ≤ maxLen ∧ b < w.heap.size ∧
      (∀ i, i < len → 0 ≤ (O i).fd) ∧ (∀ i, i < len → w.cell? ⟨b, off + i * 3, none⟩ = some (.bool (O i).nl)) ∧ (∀ i, i < len → w.cell? ⟨b, off + i * 3 + 1, none⟩ = some (.int .u8 (O i).fd)) ∧
      ∀ i, i < len → w.cell? ⟨b, off + i * 3 + 2, none⟩ = some (.int .i64 (O i).n) := by
  rcases open_slice Tryf.underlying29 h with ⟨h0, _⟩ | ⟨a, len, cap, m, n, D, Pl, rfl, hb, hl, hm, hmm, _, hx⟩
  · exact Or.inl ⟨_, _, h0⟩
  by_cases h0 : len = 0
  · subst h0; exact Or.inl ⟨_, _, rfl⟩
  right
  have hlm : len ≤ m := by rw [hmm]; split <;> omega
  rw [cells35] at hx
  obtain ⟨O, hO⟩ := choose_opt (p := fun i o => 0 ≤ o.fd ∧ w.cell? (a.add (i * 3)) = some (.bool o.nl) ∧ w.cell? (a.add (i * 3 + 1)) = some (.int .u8 o.fd) ∧ w.cell? (a.add (i * 3 + 2)) = some (.int .i64 o.n)) (fun i (hi : i < m) => by
    obtain ⟨cs', h1, h2⟩ := hx i hi
    obtain ⟨_, hlen, hcell⟩ := World.cells?_some h1
    obtain ⟨o, hfd, q0, q1, q2⟩ := three_cells h2
    refine ⟨o, hfd, ?_, ?_, ?_⟩
    · have := hcell 0 (by omega); rw [add_add, q0] at this; exact this
    · have := hcell 1 (by omega); rw [add_add, q1] at this; exact this
    · have := hcell 2 (by omega); rw [add_add, q2] at this; exact this)
  obtain ⟨b, off, spot⟩ := a
  have hspot : spot = none := by simpa [Addr.add] using World.cell?_spot (hO 0 (by omega)).2.1
  subst hspot
  have q0 : ∀ i, i < len → w.cell? ⟨b, off + i * 3, none⟩ = some (.bool (O i).nl) := fun i hi => by
    have := (hO i (by omega)).2.1
    rw [add_plain] at this
    exact this
  refine ⟨b, off, len, cap, O, rfl, by omega, Nat.le_trans hl hm, lt_of_cell (q0 0 (by omega)), fun i hi => (hO i (by omega)).1, q0, fun i hi => ?_, fun i hi => ?_⟩
  · have := (hO i (by omega)).2.2.1
    rw [add_plain] at this
    rw [Nat.add_assoc]; exact this
  · have := (hO i (by omega)).2.2.2
    rw [add_plain] at this
    rw [Nat.add_assoc]; exact this
end

section
variable {w : World} {base : Nat} {spare : Nat → Bool} {held : Bool}
theorem int_cell {enc : TypeId × Value → Unit} {n t o : Nat} {v : Int} {cs : List Value} {y : Option (DataW Unit × List MemPlace)} (ht : Tryf.prog.underlying t = some (.int .i64)) (hc : Tryf.prog.cellsOf t = 1)
    (g : DataW.trod enc Tryf.prog w base spare held n t ((cs.drop o).take (Tryf.prog.cellsOf t)) = y) (hy : y.map (·.1) = some (.lit (.int .i64 v))) : cs[o]? = some (.int .i64 v) := by
  rw [hc] at g
  cases y with
  | none => cases hy
  | some x =>
    obtain ⟨m, e, ex, _⟩ := DataW.trod_int ht g
    subst ex
    have : m = v := by simpa using hy
    subst this
    exact take_one e
theorem bool_cell {enc : TypeId × Value → Unit} {n t o : Nat} {v : Bool} {cs : List Value} {y : Option (DataW Unit × List MemPlace)} (ht : Tryf.prog.underlying t = some .bool) (hc : Tryf.prog.cellsOf t = 1)
    (g : DataW.trod enc Tryf.prog w base spare held n t ((cs.drop o).take (Tryf.prog.cellsOf t)) = y) (hy : y.map (·.1) = some (.lit (.bool v))) : cs[o]? = some (.bool v) := by
  rw [hc] at g
  cases y with
  | none => cases hy
  | some x =>
    obtain ⟨m, e, ex⟩ := DataW.trod_bool ht g
    subst ex
    have : m = v := by simpa using hy
    subst this
    exact take_one e
end

/-- What the listed variable's condition gives a walk: its eight cells. -/
theorem default_of_laid {W : World} (h : laidMetH Tryf.prog Rows.fnNewConfigMatchesLastSetterModelRow.laid W) : Default W := by
  have h' : laidMet Tryf.prog Rows.fnNewConfigMatchesLastSetterModelRow.laid W := h
  obtain ⟨ps, ⟨g, t, cs, fuel, p, q, e1, e2, e3, e4, _, _⟩, _, _⟩ := h'
  obtain rfl : g = 0 := Option.some.inj (e1.symm.trans (by kernel_rfl))
  obtain rfl : t = 39 := Option.some.inj (e2.symm.trans (by kernel_rfl))
  obtain ⟨xs, n, _, hd, hl, hxl, hf⟩ := DataW.trod_struct Tryf.underlying39 e4
  have hx : xs.map (·.1) = [.lit (.int .i64 0), .lit (.bool false), .lit (.int .i64 10000), .lit (.bool false), .lit (.int .i64 1048576), .lit (.int .i64 32), .lit (.int .i64 1000), .lit (.int .i64 0)] := by
    have h1 := congrArg Prod.fst hd
    simp only [Rows.laid_example_com_pathfen_pathfen_binding_defaultConfig] at h1
    injection h1 with h2
    exact h2.symm
  have at_ : ∀ j : Nat, (xs[j]?).map (·.1) = (xs.map (·.1))[j]? := fun j => by rw [List.getElem?_map]
  have v : ∀ (j : Nat) (v : Value), cs.toList[j]? = some v → W.cell? ⟨0, j, none⟩ = some v := fun j v hj => by
    have := World.var?_cell e1 e3 j
    rw [this]
    simpa using hj
  have k : ∀ j : Nat, (xs[j]?).map (·.1) = ([.lit (.int .i64 0), .lit (.bool false), .lit (.int .i64 10000), .lit (.bool false), .lit (.int .i64 1048576), .lit (.int .i64 32), .lit (.int .i64 1000), .lit (.int .i64 0)] : List (DataW Unit))[j]? := fun j => by rw [at_ j, hx]
  exact ⟨v 0 _ (int_cell Tryf.underlying36 cells36 (hf 0 _ rfl) (k 0)), v 1 _ (bool_cell Tryf.underlying4 cells4 (hf 1 _ rfl) (k 1)), v 2 _ (int_cell Tryf.underlying3 cells3 (hf 2 _ rfl) (k 2)),
    v 3 _ (bool_cell Tryf.underlying4 cells4 (hf 3 _ rfl) (k 3)), v 4 _ (int_cell Tryf.underlying2 cells2 (hf 4 _ rfl) (k 4)), v 5 _ (int_cell Tryf.underlying3 cells3 (hf 5 _ rfl) (k 5)),
    v 6 _ (int_cell Tryf.underlying3 cells3 (hf 6 _ rfl) (k 6)), v 7 _ (int_cell Tryf.underlying37 cells37 (hf 7 _ rfl) (k 7))⟩

/-- A world that meets the condition: the settled one, the variable's cells laid. -/
def laidWorld (P : Program) (os : Os) : World :=
  { World.holding P os ⟨#[], #[], []⟩ with heap := (World.holding P os ⟨#[], #[], []⟩).heap.modify 0 fun
      | .cells _ t frozen => .cells #[.int .i64 0, .bool false, .int .i64 10000, .bool false, .int .i64 1048576, .int .i64 32, .int .i64 1000, .int .i64 0] t frozen
      | o => o }
set_option maxRecDepth 100000 in
theorem laidWorld_met (os : Os) (args : Array Value) : laidMetH Tryf.prog Rows.fnNewConfigMatchesLastSetterModelRow.laid ((laidWorld Tryf.prog os).forCall (fun _ _ => 0) ⟨#[], args, []⟩).memory := by
  show laidMet Tryf.prog Rows.fnNewConfigMatchesLastSetterModelRow.laid _
  exact laidMet_of_run3 8 (by kernel_rfl) (by kernel_rfl) (by kernel_rfl)

set_option maxRecDepth 100000 in
theorem law_lifted (os : Os) (started : os.Started) (H : Type) (enc : TypeId × Value → H) :
    ReturnsInTold none {} Tryf.checked os 4 .any Input.okWide ((OpenSpec.ofChange Rows.fnNewConfigMatchesLastSetterModelSpec).preRow enc Tryf.prog Tryf.f4 [] false Rows.fnNewConfigMatchesLastSetterModelRow.laid)
      (fun F => ((OpenSpec.ofChange Rows.fnNewConfigMatchesLastSetterModelSpec).at F).post enc Tryf.prog Tryf.f4 false true false false) (aloneAtReturn Tryf.prog) nothingAlways := by
  refine returnsInTold_of_row (C := Tryf.checked) (s := OpenSpec.ofChange Rows.fnNewConfigMatchesLastSetterModelSpec) (by kernel_rfl) own started (by kernel_rfl) Tryf.func4
    (OpenSpec.witness_stopped_at (enc := enc) (C := Tryf.checked) false (laidWorld Tryf.prog os) #[.slice none 0 0] rfl (by kernel_rfl) (by kernel_rfl) (by kernel_rfl) (OpenSpec.preRow_of_B rfl 8 (by kernel_rfl) (by kernel_rfl) (laidWorld_met os _))) ?_
  intro F W base args ds gs before _ hF hval0 hW _ _ hsz hL _
  have hval : ∀ (j : Nat) t v, Tryf.f4.params[j]? = some t → args[j]? = some v → Value.okWide Tryf.prog W .any base t v := hval0
  have hW' := hW
  obtain ⟨p, q, hA0, hV, rfl, hfz, hnd⟩ := hW
  have hA : DataW.TrodAll enc Tryf.prog W 0 (fun _ => true) true Tryf.f4.params.toList args.toList ds p := hA0
  rw [Tryf.params4] at hA hval
  obtain ⟨v0, vs0, d0, ds0, p0, q0, hargs, rfl, rfl, h0, r0⟩ := trodAll_cons hA
  obtain ⟨rfl, rfl, rfl⟩ := trodAll_nil r0
  obtain rfl : args = #[v0] := by cases args; simp_all
  obtain ⟨g1, rfl⟩ : ∃ g1, gs = [g1] := by obtain ⟨_, _, _, _, d, _, h, _⟩ := trodVars_one hV; exact ⟨d, h⟩
  obtain ⟨ao, len, cap, rfl⟩ := okWide_slice Tryf.underlying29 (hval 0 29 v0 rfl rfl)
  have k0 := h0
  have lt0 : ∀ x ∈ p0, x.block < W.heap.size := by obtain ⟨m, hm⟩ := k0; exact DataW.trod_lt m _ _ _ hm
  have hD := default_of_laid hL
  have hwalk : Calls Tryf.prog 4 #[.slice ao len cap] W fun e W' => e = .returned (.bool true) ∧ Below W.heap.size W W' := by
    by_cases hl : len ≤ 65536
    · obtain ⟨fuel, hf⟩ := h0
      rcases open_opts hf with ⟨ao', cap', hcs⟩ | ⟨b, off, len', cap', O, hcs, hpos, hml, hbl, hfd, hc0, hc1, hc2⟩
      · simp [Value.cells] at hcs
        obtain ⟨rfl, h0, rfl⟩ := hcs
        exact main_row F.told 0 0 len cap (fun _ => ⟨true, 0, 0⟩) W hF hD hl (lt_of_cell hD.c0) ao (fun i hi => absurd hi (by omega)) (options_nil ao len cap _ W h0)
          (fun i hi => absurd hi (by omega)) (fun i hi => absurd hi (by omega)) (fun i hi => absurd hi (by omega)) (fun i hi => absurd hi (by omega))
      · simp [Value.cells] at hcs
        obtain ⟨rfl, rfl, rfl⟩ := hcs
        exact main_row F.told b off len cap O W hF hD hl hbl _ (fun _ _ => rfl) (options_row b off len cap O W hl hbl hc0 hc1 hc2 hfd) hc0 hc1 hc2 hfd
    · exact main_long ao len cap W (by omega)
  clear hA0 hval0
  refine hwalk.mono fun e W' ⟨he, bel⟩ => ?_
  subst he
  exact ⟨_, rfl, _, _, _, [], _, _, hW', trodAll_mk1 (shut_bool Tryf.underlying4 _), (trodAll_cons_mk (Below.trod laidOutP (by kernel_rfl) (of_decide_eq_true (by kernel_rfl)) k0 bel lt0) trodAll_mk0), Below.trodVars laidOutP bel varsOk hV, bel.frame _, fun h => by cases h⟩

theorem stops : Rows.fnNewConfigMatchesLastSetterModelRow.stops = Tryf.pinned.checked.prog.stops := by kernel_rfl
theorem stopKnobs : Tryf.pinned.checked.prog.stopKnobs = [] := by kernel_rfl
theorem laidOut : laidOutB Tryf.pinned.checked.prog = true := by kernel_rfl
theorem quiet (os : Os) : Stop.quiet Tryf.pinned.checked.prog os := by
  intro k hk
  rw [stopKnobs] at hk
  cases hk

/-- The told and tied card. -/
theorem last_setter : Rows.FnNewConfigMatchesLastSetterModelToldSaid :=
  Claim7.holds_of_told_tied_any_at .later 4 Tryf.f4 _ _ [] _ _ _ _ _ (by kernel_rfl) rfl rfl rfl laidOut (by kernel_rfl) rfl ⟨rfl, rfl, rfl, rfl, rfl, rfl, rfl⟩ rfl rfl (by kernel_rfl) (by kernel_rfl) Tryf.func4 (by kernel_rfl)
    (of_decide_eq_true (by kernel_rfl)) (of_decide_eq_true (by kernel_rfl)) stops rfl stopKnobs.symm (by kernel_rfl)
    (by kernel_rfl) (by kernel_rfl) (by kernel_rfl) (by kernel_rfl) (by kernel_rfl) (by kernel_rfl) (by kernel_rfl) (by kernel_rfl) (by kernel_rfl) rfl (by kernel_rfl) rfl rfl
    rfl rfl
    rfl (by kernel_rfl) (by kernel_rfl) (by kernel_rfl) (by decide) (by kernel_rfl) fnNewConfigMatchesLastSetterModel_row_tie
    (OpenClaim.moreEntering_of (by kernel_rfl) (by kernel_rfl) (by kernel_rfl) (by kernel_rfl) (by kernel_rfl) (by kernel_rfl) (by kernel_rfl) (by kernel_rfl) (by kernel_rfl) (by kernel_rfl))
    ⟨_, WideRow.started_initial, quiet _⟩
    (fun os started _ H enc _ => law_lifted os started H enc)

#print axioms last_setter
end Go.Proofs.Qxb6615096aFmt
