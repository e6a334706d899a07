/-
  newConfig (function 23) over the options' row.
-/
import Derived.Test.Qxb6615096aFmtOptions
namespace Go.Proofs.Qxb6615096aFmt
open Go.RowKit Go.Extern.Stop Go.Stop Go.Extern Go.Deep

theorem eql_func (fn : Fn) (first cap : Array Value) (w : World) : (binOp .eql 55 (.func fn first cap) .nilFunc).run Tryf.prog w = .ok (.bool false) w := by kernel_rfl
theorem eql_nil (w : World) : (binOp .eql 55 .nilFunc .nilFunc).run Tryf.prog w = .ok (.bool true) w := by kernel_rfl

theorem cfgCell_congr (g g' : Nat → Option Int) (j : Nat) (h : g j = g' j) : cfgCell g j = cfgCell g' j := by
  unfold cfgCell
  split <;> simp [h]

theorem cfg_set (g g' : Nat → Option Int) (f : Nat) (v : Value) (h : ∀ j, j ≠ f → g j = g' j) (hv : cfgCell g' f = v) (j : Nat) : (if j = f then v else cfgCell g j) = cfgCell g' j := by
  by_cases hj : j = f
  · subst hj; rw [if_pos rfl, hv]
  · rw [if_neg hj, cfgCell_congr g g' j (h j hj)]

/-- The zero config's cells. -/
def zeroCell (j : Nat) : Value := if j = 1 ∨ j = 3 then .bool false else .int .i64 0

theorem Opts.keep {w w' : World} {L n k : Nat} {O : Nat → Opt} {bx : Nat → Nat} (h : Opts w L n k O bx) (hb : Below w.heap.size w w') : Opts w' L n k O bx where
  row := h.row.of_block (hb.block L h.row.lt)
  blt := fun i hi h1 h2 => Nat.lt_of_lt_of_le (h.blt i hi h1 h2) hb.size
  bne := h.bne
  box := fun i hi h1 h2 => (hb.cell (p := ⟨bx i, 0, none⟩) (h.blt i hi h1 h2)).trans (h.box i hi h1 h2)

def zeroCfg : Value := .agg #[.int .i64 0, .bool false, .int .i64 0, .bool false, .int .i64 0, .int .i64 0, .int .i64 0, .int .i64 0]
def cfgVal (g : Nat → Option Int) : Value := .agg #[.int .i64 ((g 0).getD 0), .bool (bv (g 1)), .int .i64 ((g 2).getD 10000), .bool (bv (g 3)), .int .i64 ((g 4).getD 1048576), .int .i64 ((g 5).getD 32), .int .i64 ((g 6).getD 1000), .int .i64 ((g 7).getD 0)]

/-- What newConfig hands back. -/
def ConfigMade (O : Nat → Opt) (n : Nat) (w : World) (e : Ending) (w' : World) : Prop :=
  Below w.heap.size w w' ∧
  ((∃ x : Nat, e = .returned (.tuple #[zeroCfg, .iface 57 (.pointer (some ⟨x, 0, none⟩))]) ∧ (anyNil O 0 n = true ∨ bad (fun f => last O f 0 n))) ∨
   (e = .returned (.tuple #[cfgVal (fun f => last O f 0 n), .nilIface]) ∧ anyNil O 0 n = false ∧ ¬ bad (fun f => last O f 0 n)))

structure Default (w : World) : Prop where
  c0 : w.cell? ⟨0, 0, none⟩ = some (.int .i64 0)
  c1 : w.cell? ⟨0, 1, none⟩ = some (.bool false)
  c2 : w.cell? ⟨0, 2, none⟩ = some (.int .i64 10000)
  c3 : w.cell? ⟨0, 3, none⟩ = some (.bool false)
  c4 : w.cell? ⟨0, 4, none⟩ = some (.int .i64 1048576)
  c5 : w.cell? ⟨0, 5, none⟩ = some (.int .i64 32)
  c6 : w.cell? ⟨0, 6, none⟩ = some (.int .i64 1000)
  c7 : w.cell? ⟨0, 7, none⟩ = some (.int .i64 0)

set_option maxHeartbeats 1600000 in
theorem config_empty (a : Option Addr) (c : Nat) (O : Nat → Opt) (w : World) (hD : Default w) (h0 : 0 < w.heap.size) :
    Calls Tryf.prog 23 #[.slice a 0 c] w fun e w' => ConfigMade O 0 w e w' := by
  obtain ⟨c0, c1, c2, c3, c4, c5, c6, c7⟩ := hD
  go_enter Tryf.func23, Tryf.ntmps23
  go_wp2
  exact bodyPost_ret (v := .tuple #[cfgVal (fun f => last O f 0 0), .nilIface]) (by simp [results, Tryf.results23, go_sem, cfgVal, last, bv]) rfl ⟨(Below.refl _ _).alloc (Nat.le_refl _) _, Or.inr ⟨rfl, rfl, by simp [bad, last]⟩⟩

/-- The state of newConfig's first loop behind k options. -/
structure Loop1 (w : World) (R L n k : Nat) (O : Nat → Opt) (bx : Nat → Nat) (w0 : World) : Prop where
  below : Below R w0 w
  size : R + 2 ≤ w.heap.size
  opts : Opts w L n n O bx
  noNil : anyNil O 0 k = false
  cfg : w.rowIs (R + 1) 39 8 (cfgCell (fun f => last O f 0 k))
  res : w.rowIs R 39 8 zeroCell

theorem anyNil_of (O : Nat → Opt) (k : Nat) : ∀ n, k < n → (O k).nl = true → anyNil O 0 n = true
  | 0, h, _ => absurd h (by omega)
  | n + 1, h, hn => by
    rw [anyNil, Nat.zero_add]
    by_cases hk : k = n
    · subst hk; rw [hn]; rfl
    · rw [anyNil_of O k n (by omega) hn, Bool.or_true]

theorem below_eight {w w1 : World} (h : Below w.heap.size w w1) (v0 v1 v2 v3 v4 v5 v6 v7 : Value) : Below w.heap.size w ((((((((w1.setCell ⟨w.heap.size, 0, none⟩ v0).setCell ⟨w.heap.size, 1, none⟩ v1).setCell ⟨w.heap.size, 2, none⟩ v2).setCell ⟨w.heap.size, 3, none⟩ v3).setCell ⟨w.heap.size, 4, none⟩ v4).setCell ⟨w.heap.size, 5, none⟩ v5).setCell ⟨w.heap.size, 6, none⟩ v6).setCell ⟨w.heap.size, 7, none⟩ v7) :=
  (((((((h.setCell (p := ⟨w.heap.size, 0, none⟩) (Nat.le_refl _) _).setCell (p := ⟨w.heap.size, 1, none⟩) (Nat.le_refl _) _).setCell (p := ⟨w.heap.size, 2, none⟩) (Nat.le_refl _) _).setCell (p := ⟨w.heap.size, 3, none⟩) (Nat.le_refl _) _).setCell (p := ⟨w.heap.size, 4, none⟩) (Nat.le_refl _) _).setCell (p := ⟨w.heap.size, 5, none⟩) (Nat.le_refl _) _).setCell (p := ⟨w.heap.size, 6, none⟩) (Nat.le_refl _) _).setCell (p := ⟨w.heap.size, 7, none⟩) (Nat.le_refl _) _

theorem zero_cells {w : World} {R : Nat} (h : w.rowIs R 39 8 zeroCell) : w.cell? ⟨R, 0, none⟩ = some (.int .i64 0) ∧ w.cell? ⟨R, 1, none⟩ = some (.bool false) ∧ w.cell? ⟨R, 2, none⟩ = some (.int .i64 0) ∧ w.cell? ⟨R, 3, none⟩ = some (.bool false) ∧
    w.cell? ⟨R, 4, none⟩ = some (.int .i64 0) ∧ w.cell? ⟨R, 5, none⟩ = some (.int .i64 0) ∧ w.cell? ⟨R, 6, none⟩ = some (.int .i64 0) ∧ w.cell? ⟨R, 7, none⟩ = some (.int .i64 0) :=
  ⟨h.cell (i := 0) (by omega), h.cell (i := 1) (by omega), h.cell (i := 2) (by omega), h.cell (i := 3) (by omega), h.cell (i := 4) (by omega), h.cell (i := 5) (by omega), h.cell (i := 6) (by omega), h.cell (i := 7) (by omega)⟩

theorem cfg_cells {w : World} {C : Nat} {g : Nat → Option Int} (h : w.rowIs C 39 8 (cfgCell g)) : ∃ (md : Int) (al : Bool) (sl : Int) (st : Bool) (bt dp ms mg : Int),
    cfgVal g = .agg #[.int .i64 md, .bool al, .int .i64 sl, .bool st, .int .i64 bt, .int .i64 dp, .int .i64 ms, .int .i64 mg] ∧
    (bad g ↔ (md ≠ 0 ∧ md ≠ 1) ∨ (mg ≠ 0 ∧ mg ≠ 1) ∨ sl < 0 ∨ bt < 0 ∨ dp < 0 ∨ ms < 0) ∧
    w.cell? ⟨C, 0, none⟩ = some (.int .i64 md) ∧ w.cell? ⟨C, 1, none⟩ = some (.bool al) ∧ w.cell? ⟨C, 2, none⟩ = some (.int .i64 sl) ∧ w.cell? ⟨C, 3, none⟩ = some (.bool st) ∧
    w.cell? ⟨C, 4, none⟩ = some (.int .i64 bt) ∧ w.cell? ⟨C, 5, none⟩ = some (.int .i64 dp) ∧ w.cell? ⟨C, 6, none⟩ = some (.int .i64 ms) ∧ w.cell? ⟨C, 7, none⟩ = some (.int .i64 mg) :=
  ⟨_, _, _, _, _, _, _, _, rfl, Iff.rfl, h.cell (i := 0) (by omega), h.cell (i := 1) (by omega), h.cell (i := 2) (by omega), h.cell (i := 3) (by omega), h.cell (i := 4) (by omega), h.cell (i := 5) (by omega), h.cell (i := 6) (by omega), h.cell (i := 7) (by omega)⟩

/-- The four limits, in newConfig's order. -/
def lim (sl bt dp ms : Int) : Nat → Int
  | 0 => sl
  | 1 => bt
  | 2 => dp
  | _ => ms

def nmOf : Nat → ByteArray
  | 0 => ⟨#[87, 105, 116, 104, 77, 97, 120, 83, 108, 105, 99, 101, 76, 101, 110]⟩
  | 1 => ⟨#[87, 105, 116, 104, 77, 97, 120, 66, 121, 116, 101, 115]⟩
  | 2 => ⟨#[87, 105, 116, 104, 77, 97, 120, 68, 101, 112, 116, 104]⟩
  | _ => ⟨#[87, 105, 116, 104, 77, 97, 120, 77, 97, 112, 83, 105, 122, 101]⟩

theorem lim_bad {sl bt dp ms : Int} (j : Nat) (hj : j < 4) (h : lim sl bt dp ms j < 0) : sl < 0 ∨ bt < 0 ∨ dp < 0 ∨ ms < 0 := by
  rcases (show j = 0 ∨ j = 1 ∨ j = 2 ∨ j = 3 by omega) with rfl | rfl | rfl | rfl <;> simp only [lim] at h <;> omega

theorem lim_step {sl bt dp ms : Int} {j : Nat} (h : ∀ t, t < j → 0 ≤ lim sl bt dp ms t) (hj : 0 ≤ lim sl bt dp ms j) (t : Nat) (ht : t < j + 1) : 0 ≤ lim sl bt dp ms t := by
  by_cases e : t = j
  · rw [e]; exact hj
  · exact h t (by omega)

theorem lim_all {sl bt dp ms : Int} (h : ∀ t, t < 4 → 0 ≤ lim sl bt dp ms t) : 0 ≤ sl ∧ 0 ≤ bt ∧ 0 ≤ dp ∧ 0 ≤ ms :=
  ⟨h 0 (by omega), h 1 (by omega), h 2 (by omega), h 3 (by omega)⟩

/-- A world of newConfig's second loop: the array of limits at the end of wo. -/
structure Limits (w wo : World) (sl bt dp ms : Int) : Prop where
  below : Below wo.heap.size wo w
  size : wo.heap.size + 1 ≤ w.heap.size
  name : ∀ j, j < 4 → w.cell? ⟨wo.heap.size, j * 2, none⟩ = some (.string (nmOf j))
  num : ∀ j, j < 4 → w.cell? ⟨wo.heap.size, j * 2 + 1, none⟩ = some (.int .i64 (lim sl bt dp ms j))

theorem limits_start (wo : World) (sl bt dp ms : Int) : Limits (wo.alloc (.cells #[.string ⟨#[87, 105, 116, 104, 77, 97, 120, 83, 108, 105, 99, 101, 76, 101, 110]⟩, .int .i64 sl, .string ⟨#[87, 105, 116, 104, 77, 97, 120, 66, 121, 116, 101, 115]⟩, .int .i64 bt, .string ⟨#[87, 105, 116, 104, 77, 97, 120, 68, 101, 112, 116, 104]⟩, .int .i64 dp, .string ⟨#[87, 105, 116, 104, 77, 97, 120, 77, 97, 112, 83, 105, 122, 101]⟩, .int .i64 ms] 72)) wo sl bt dp ms where
  below := (Below.refl _ _).alloc (Nat.le_refl _) _
  size := by simp
  name := fun j hj => by
    rw [World.cell?_alloc_at _ _ _ _ rfl]
    rcases (show j = 0 ∨ j = 1 ∨ j = 2 ∨ j = 3 by omega) with rfl | rfl | rfl | rfl <;> rfl
  num := fun j hj => by
    rw [World.cell?_alloc_at _ _ _ _ rfl]
    rcases (show j = 0 ∨ j = 1 ∨ j = 2 ∨ j = 3 by omega) with rfl | rfl | rfl | rfl <;> rfl

theorem Limits.alloc {w wo : World} {sl bt dp ms : Int} (h : Limits w wo sl bt dp ms) (o : Obj) : Limits (w.alloc o) wo sl bt dp ms where
  below := h.below.alloc h.below.size o
  size := by have := h.size; simp; omega
  name := fun j hj => by rw [World.cell?_alloc_past _ _ _ (by have := h.size; omega)]; exact h.name j hj
  num := fun j hj => by rw [World.cell?_alloc_past _ _ _ (by have := h.size; omega)]; exact h.num j hj

theorem loop1_set {w w0 : World} {R L n k f : Nat} {O : Nat → Opt} {bx : Nat → Nat} {v : Value} (h : Loop1 w R L n k O bx w0) (hL : L < R) (hbx : ∀ i, i < n → (O i).nl = false → (O i).fd ≤ 7 → bx i < R) (hnl : (O k).nl = false) (hf : (O k).fd = (f : Int)) (hv : cfgCell (fun _ => some (O k).n) f = v) :
    Loop1 (w.setCell ⟨R + 1, f, none⟩ v) R L n (k + 1) O bx w0 where
  below := h.below.setCell (p := ⟨R + 1, f, none⟩) (by simp) _
  size := by rw [size_set]; exact h.size
  opts := {
    row := h.opts.row.setOther (by simp; omega) _
    blt := fun i hi h1 h2 => by rw [size_set]; exact h.opts.blt i hi h1 h2
    bne := h.opts.bne
    box := fun i hi h1 h2 => by
      rw [World.cell?_setCell_other _ _ _ _ (fun e => by have := congrArg Addr.block e; simp at this; have := hbx i hi h1 h2; omega)]
      exact h.opts.box i hi h1 h2 }
  noNil := by rw [anyNil, Nat.zero_add, hnl, h.noNil]; rfl
  cfg := (h.cfg.set f v).congr fun j _ => cfg_set _ _ f v (fun j hj => (last_miss O j 0 k (by rw [Nat.zero_add]; exact sets_not _ _ (by rw [hf]; omega))).symm)
    ((cfgCell_congr _ _ f (by rw [last_hit O f 0 k (by rw [Nat.zero_add]; exact sets_yes _ _ hnl hf), Nat.zero_add])).trans hv) j
  res := h.res.setOther (by simp) _

theorem loop1_skip {w w0 : World} {R L n k : Nat} {O : Nat → Opt} {bx : Nat → Nat} (h : Loop1 w R L n k O bx w0) (hnl : (O k).nl = false) (hf : 7 < (O k).fd) : Loop1 w R L n (k + 1) O bx w0 where
  below := h.below
  size := h.size
  opts := h.opts
  noNil := by rw [anyNil, Nat.zero_add, hnl, h.noNil]; rfl
  cfg := h.cfg.congr fun j hj => cfgCell_congr _ _ j (last_miss O j 0 k (by rw [Nat.zero_add]; exact sets_not _ _ (by omega))).symm
  res := h.res

theorem loop1_start (w : World) (L n : Nat) (O : Nat → Opt) (bx : Nat → Nat) (hO : Opts w L n n O bx) :
    Loop1 ((w.alloc (.cells #[.int .i64 0, .bool false, .int .i64 0, .bool false, .int .i64 0, .int .i64 0, .int .i64 0, .int .i64 0] 39)).alloc (.cells #[.int .i64 0, .bool false, .int .i64 10000, .bool false, .int .i64 1048576, .int .i64 32, .int .i64 1000, .int .i64 0] 39)) w.heap.size L n 0 O bx w where
  below := ((Below.refl _ _).alloc (Nat.le_refl _) _).alloc (by simp) _
  size := by simp
  opts := hO.keep (((Below.refl _ _).alloc (Nat.le_refl _) _).alloc (by simp) _)
  noNil := rfl
  cfg := by
    have h := World.rowIs_alloc (w.alloc (.cells #[.int .i64 0, .bool false, .int .i64 0, .bool false, .int .i64 0, .int .i64 0, .int .i64 0, .int .i64 0] 39)) #[.int .i64 0, .bool false, .int .i64 10000, .bool false, .int .i64 1048576, .int .i64 32, .int .i64 1000, .int .i64 0] 39 (cfgCell (fun f => last O f 0 0)) (fun i hi => by
      simp at hi
      rcases (show i = 0 ∨ i = 1 ∨ i = 2 ∨ i = 3 ∨ i = 4 ∨ i = 5 ∨ i = 6 ∨ i = 7 by omega) with rfl | rfl | rfl | rfl | rfl | rfl | rfl | rfl <;> rfl)
    rw [World.size_alloc] at h
    exact h
  res := (World.rowIs_alloc w #[.int .i64 0, .bool false, .int .i64 0, .bool false, .int .i64 0, .int .i64 0, .int .i64 0, .int .i64 0] 39 zeroCell (fun i hi => by
      simp at hi
      rcases (show i = 0 ∨ i = 1 ∨ i = 2 ∨ i = 3 ∨ i = 4 ∨ i = 5 ∨ i = 6 ∨ i = 7 by omega) with rfl | rfl | rfl | rfl | rfl | rfl | rfl | rfl <;> rfl)).alloc _

set_option maxRecDepth 100000 in
set_option maxHeartbeats 6400000 in
theorem config_row (F : Interp) (L n : Nat) (O : Nat → Opt) (bx : Nat → Nat) (w : World) (hF : F.answers w.tape) (hD : Default w) (h0 : 0 < w.heap.size) (hO : Opts w L n n O bx) (hfd : ∀ i, i < n → 0 ≤ (O i).fd) (hn : 0 < n) (hnn : n ≤ 65536) :
    Calls Tryf.prog 23 #[.slice (some ⟨L, 0, none⟩) n n] w fun e w' => ConfigMade O n w e w' := by
  obtain ⟨c0, c1, c2, c3, c4, c5, c6, c7⟩ := hD
  have hnb : ((n : Int) == 0) = false := by rw [beq_eq_false_iff_ne]; omega
  have HS := hide (loop1_start w L n O bx hO)
  have hLR : L < w.heap.size := hO.row.lt
  have HBX := hide hO.blt
  have HFD := hide hfd
  clear hO hfd
  go_enter Tryf.func23, Tryf.ntmps23
  go_wp2
  go_loopw [16] (fun i wr => ∃ k : Nat, k ≤ n ∧ i = .int .i64 k ∧ Loop1 wr w.heap.size L n k O bx w) (fun i _ => n - (intOf i).toNat)
  case atStart => exact ⟨0, Nat.zero_le _, rfl, HS.out⟩
  case round =>
    obtain ⟨k, hk, rfl, hI⟩ := hrel
    clear c0 c1 c2 c3 c4 c5 c6 c7
    have HI := hide hI
    by_cases hlt : k < n
    · cases hnl : (O k).nl
      · have hopt := hI.opts.row.cell hlt
        rw [show optTo O bx n k = optVal (O k) (bx k) by simp [optTo, hlt]] at hopt
        have hsz := hI.size
        have HN := hide hnl
        have ef := eql_func
        by_cases h7 : 7 < (O k).fd
        · rw [show optVal (O k) (bx k) = .func (.func 44) #[] #[] from by rw [show O k = ⟨(O k).nl, (O k).fd, (O k).n⟩ from rfl, hnl]; exact optVal_none _ _ h7 _] at hopt
          have R := hide (loop1_skip hI hnl h7)
          clear hI hnl h7
          go_wp2
          go_end0
          go_wp2
          go_roundw
          case rel => exact ⟨k + 1, hlt, by go_num, R.out⟩
          case measure => simp [intOf]; omega
        · have hbox := hI.opts.box k hlt hnl (by omega)
          rcases (show (O k).fd = 0 ∨ (O k).fd = 1 ∨ (O k).fd = 2 ∨ (O k).fd = 3 ∨ (O k).fd = 4 ∨ (O k).fd = 5 ∨ (O k).fd = 6 ∨ (O k).fd = 7 by have := HFD.out k hlt; omega) with hf | hf | hf | hf | hf | hf | hf | hf
          · rw [show optVal (O k) (bx k) = .func (.func 36) #[] #[.pointer (some ⟨bx k, 0, none⟩)] by simp [optVal, hnl, hf]] at hopt
            rw [show boxVal (O k) = .int .i64 (O k).n by simp [boxVal, hf]] at hbox
            have hcc := hI.cfg.cell (i := 0) (by omega)
            have hcf := hI.cfg.frozen 0
            have R := hide (loop1_set (f := 0) (v := .int .i64 (O k).n) hI hLR HBX.out hnl hf rfl)
            clear hI hnl hf
            go_wp2
            go_end0
            go_wp2
            go_roundw
            case rel => exact ⟨k + 1, hlt, by go_num, R.out⟩
            case measure => simp [intOf]; omega
          · rw [show optVal (O k) (bx k) = .func (.func 37) #[] #[.pointer (some ⟨bx k, 0, none⟩)] by simp [optVal, hnl, hf]] at hopt
            rw [show boxVal (O k) = .bool ((O k).n != 0) by simp [boxVal, hf]] at hbox
            have hcc := hI.cfg.cell (i := 1) (by omega)
            have hcf := hI.cfg.frozen 1
            have R := hide (loop1_set (f := 1) (v := .bool ((O k).n != 0)) hI hLR HBX.out hnl hf rfl)
            clear hI hnl hf
            go_wp2
            go_end0
            go_wp2
            go_roundw
            case rel => exact ⟨k + 1, hlt, by go_num, R.out⟩
            case measure => simp [intOf]; omega
          · rw [show optVal (O k) (bx k) = .func (.func 38) #[] #[.pointer (some ⟨bx k, 0, none⟩)] by simp [optVal, hnl, hf]] at hopt
            rw [show boxVal (O k) = .int .i64 (O k).n by simp [boxVal, hf]] at hbox
            have hcc := hI.cfg.cell (i := 2) (by omega)
            have hcf := hI.cfg.frozen 2
            have R := hide (loop1_set (f := 2) (v := .int .i64 (O k).n) hI hLR HBX.out hnl hf rfl)
            clear hI hnl hf
            go_wp2
            go_end0
            go_wp2
            go_roundw
            case rel => exact ⟨k + 1, hlt, by go_num, R.out⟩
            case measure => simp [intOf]; omega
          · rw [show optVal (O k) (bx k) = .func (.func 39) #[] #[.pointer (some ⟨bx k, 0, none⟩)] by simp [optVal, hnl, hf]] at hopt
            rw [show boxVal (O k) = .bool ((O k).n != 0) by simp [boxVal, hf]] at hbox
            have hcc := hI.cfg.cell (i := 3) (by omega)
            have hcf := hI.cfg.frozen 3
            have R := hide (loop1_set (f := 3) (v := .bool ((O k).n != 0)) hI hLR HBX.out hnl hf rfl)
            clear hI hnl hf
            go_wp2
            go_end0
            go_wp2
            go_roundw
            case rel => exact ⟨k + 1, hlt, by go_num, R.out⟩
            case measure => simp [intOf]; omega
          · rw [show optVal (O k) (bx k) = .func (.func 40) #[] #[.pointer (some ⟨bx k, 0, none⟩)] by simp [optVal, hnl, hf]] at hopt
            rw [show boxVal (O k) = .int .i64 (O k).n by simp [boxVal, hf]] at hbox
            have hcc := hI.cfg.cell (i := 4) (by omega)
            have hcf := hI.cfg.frozen 4
            have R := hide (loop1_set (f := 4) (v := .int .i64 (O k).n) hI hLR HBX.out hnl hf rfl)
            clear hI hnl hf
            go_wp2
            go_end0
            go_wp2
            go_roundw
            case rel => exact ⟨k + 1, hlt, by go_num, R.out⟩
            case measure => simp [intOf]; omega
          · rw [show optVal (O k) (bx k) = .func (.func 41) #[] #[.pointer (some ⟨bx k, 0, none⟩)] by simp [optVal, hnl, hf]] at hopt
            rw [show boxVal (O k) = .int .i64 (O k).n by simp [boxVal, hf]] at hbox
            have hcc := hI.cfg.cell (i := 5) (by omega)
            have hcf := hI.cfg.frozen 5
            have R := hide (loop1_set (f := 5) (v := .int .i64 (O k).n) hI hLR HBX.out hnl hf rfl)
            clear hI hnl hf
            go_wp2
            go_end0
            go_wp2
            go_roundw
            case rel => exact ⟨k + 1, hlt, by go_num, R.out⟩
            case measure => simp [intOf]; omega
          · rw [show optVal (O k) (bx k) = .func (.func 42) #[] #[.pointer (some ⟨bx k, 0, none⟩)] by simp [optVal, hnl, hf]] at hopt
            rw [show boxVal (O k) = .int .i64 (O k).n by simp [boxVal, hf]] at hbox
            have hcc := hI.cfg.cell (i := 6) (by omega)
            have hcf := hI.cfg.frozen 6
            have R := hide (loop1_set (f := 6) (v := .int .i64 (O k).n) hI hLR HBX.out hnl hf rfl)
            clear hI hnl hf
            go_wp2
            go_end0
            go_wp2
            go_roundw
            case rel => exact ⟨k + 1, hlt, by go_num, R.out⟩
            case measure => simp [intOf]; omega
          · rw [show optVal (O k) (bx k) = .func (.func 43) #[] #[.pointer (some ⟨bx k, 0, none⟩)] by simp [optVal, hnl, hf]] at hopt
            rw [show boxVal (O k) = .int .i64 (O k).n by simp [boxVal, hf]] at hbox
            have hcc := hI.cfg.cell (i := 7) (by omega)
            have hcf := hI.cfg.frozen 7
            have R := hide (loop1_set (f := 7) (v := .int .i64 (O k).n) hI hLR HBX.out hnl hf rfl)
            clear hI hnl hf
            go_wp2
            go_end0
            go_wp2
            go_roundw
            case rel => exact ⟨k + 1, hlt, by go_num, R.out⟩
            case measure => simp [intOf]; omega
      · have hopt := hI.opts.row.cell hlt
        rw [show optTo O bx n k = .nilFunc by simp [optTo, hlt, optVal, hnl]] at hopt
        have hsz := hI.size
        have en := eql_nil
        have hFr : F.answers wr.tape := by rw [hI.below.tape]; exact hF
        have HFR := hide hFr
        have HN := hide hnl
        clear hI hnl hFr
        go_wp2_with fail
        refine (errorf0 F (k + 1) n wr.heap.size _ (by exact HFR.out) (by simp) (by simp)).mono ?_
        rintro e w1 ⟨⟨x, rfl⟩, hb1⟩
        have hb2 : Below (w.heap.size + 2) wr w1 := ((Below.refl _ wr).alloc hsz _).trans (hb1.mono (by simp; omega))
        have hz1 := HI.out.res.of_block (hb2.block w.heap.size (by omega))
        obtain ⟨r0, r1, r2, r3, r4, r5, r6, r7⟩ := zero_cells hz1
        have hfr := hz1.frozen
        have hw1 : w.heap.size < w1.heap.size := hz1.lt
        have HB1 := hide hb2
        clear hb1 hb2 hz1
        have hbb := HI.out.below.trans (HB1.out.mono (by omega))
        have HBB := hide hbb
        clear hbb
        go_wp2
        exact bodyPost_ret (v := .tuple #[zeroCfg, .iface 57 (.pointer (some ⟨x, 0, none⟩))]) (by simp [results, Tryf.results23, go_sem, zeroCfg, r0, r1, r2, r3, r4, r5, r6, r7]) rfl
          ⟨below_eight HBB.out _ _ _ _ _ _ _ _, Or.inl ⟨x, rfl, Or.inl (anyNil_of O k n hlt HN.out)⟩⟩
    · obtain rfl : k = n := by omega
      obtain ⟨wo, rfl⟩ : ∃ wo : World, wo = wr := ⟨_, rfl⟩
      obtain ⟨md, al, sl, st, bt, dp, ms, mg, hcv, hbad, q0, q1, q2, q3, q4, q5, q6, q7⟩ := cfg_cells hI.cfg
      have HCV := hide hcv
      have HBAD := hide hbad
      have hsz := hI.size
      have hFr : F.answers wo.tape := by rw [hI.below.tape]; exact hF
      have HFR := hide hFr
      clear hI hFr hcv hbad
      rcases (show (md = 0 ∨ md = 1) ∨ (md ≠ 0 ∧ md ≠ 1) by omega) with hm | ⟨hm0, hm1⟩
      · rcases (show (mg = 0 ∨ mg = 1) ∨ (mg ≠ 0 ∧ mg ≠ 1) by omega) with hg | ⟨hg0, hg1⟩
        · rcases hm with hm | hm
          all_goals
            rcases hg with hg | hg
            all_goals
              subst hm hg
              have HL2 := hide (limits_start wo sl bt dp ms)
              go_wp2
              go_loopw [77] (fun i wr => ∃ j : Nat, j ≤ 4 ∧ i = .int .i64 j ∧ (∀ t, t < j → 0 ≤ lim sl bt dp ms t) ∧ Limits wr wo sl bt dp ms) (fun i _ => 4 - (intOf i).toNat)
              case atStart => exact ⟨0, by omega, rfl, fun t ht => absurd ht (by omega), HL2.out⟩
              case round =>
                obtain ⟨j, hj, rfl, hpos, hLi⟩ := hrel
                have HLi := hide hLi
                have HPos := hide hpos
                by_cases hj4 : j < 4
                · have d0 := hLi.name j hj4
                  have d1 := hLi.num j hj4
                  have hsr := hLi.size
                  clear hLi hpos
                  by_cases hneg : lim sl bt dp ms j < 0
                  · have HNG := hide hneg
                    go_wp2_with fail
                    refine (errorf3 F (nmOf j) (lim sl bt dp ms j) (wr.heap.size + 1) _ (by rw [show ((wr.alloc _).alloc _).tape = wr.tape from rfl, HLi.out.below.tape]; exact HFR.out) (by simp) (by simp)).mono ?_
                    rintro e w1 ⟨⟨x, rfl⟩, hb1⟩
                    have hb2 : Below (w.heap.size + 2) wo w1 := (HLi.out.below.mono (by omega)).trans ((((Below.refl _ wr).alloc (by omega) _).alloc (by simp; omega) _).trans (hb1.mono (by simp; omega)))
                    have hz1 := HI.out.res.of_block (hb2.block w.heap.size (by omega))
                    obtain ⟨r0, r1, r2, r3, r4, r5, r6, r7⟩ := zero_cells hz1
                    have hfr := hz1.frozen
                    have hw1 : w.heap.size < w1.heap.size := hz1.lt
                    have HBB := hide (HI.out.below.trans (hb2.mono (by omega)))
                    clear hb1 hb2 hz1
                    go_wp2
                    exact bodyPost_ret (v := .tuple #[zeroCfg, .iface 57 (.pointer (some ⟨x, 0, none⟩))]) (by simp [results, Tryf.results23, go_sem, zeroCfg, r0, r1, r2, r3, r4, r5, r6, r7]) rfl
                      ⟨below_eight HBB.out _ _ _ _ _ _ _ _, Or.inl ⟨x, rfl, Or.inr (HBAD.out.2 (Or.inr (Or.inr (lim_bad j hj4 HNG.out))))⟩⟩
                  · have hge : 0 ≤ lim sl bt dp ms j := by omega
                    have HGE := hide hge
                    go_wp2
                    go_roundw
                    case rel => exact ⟨j + 1, hj4, by go_num, fun t ht => lim_step HPos.out HGE.out t ht, HLi.out.alloc _⟩
                    case measure => simp [intOf]; omega
                · obtain rfl : j = 4 := by omega
                  have hbw := hLi.below
                  have hsr := hLi.size
                  have p0 := (hbw.cell (p := ⟨w.heap.size + 1, 0, none⟩) (by simp; omega)).trans q0
                  have p1 := (hbw.cell (p := ⟨w.heap.size + 1, 1, none⟩) (by simp; omega)).trans q1
                  have p2 := (hbw.cell (p := ⟨w.heap.size + 1, 2, none⟩) (by simp; omega)).trans q2
                  have p3 := (hbw.cell (p := ⟨w.heap.size + 1, 3, none⟩) (by simp; omega)).trans q3
                  have p4 := (hbw.cell (p := ⟨w.heap.size + 1, 4, none⟩) (by simp; omega)).trans q4
                  have p5 := (hbw.cell (p := ⟨w.heap.size + 1, 5, none⟩) (by simp; omega)).trans q5
                  have p6 := (hbw.cell (p := ⟨w.heap.size + 1, 6, none⟩) (by simp; omega)).trans q6
                  have p7 := (hbw.cell (p := ⟨w.heap.size + 1, 7, none⟩) (by simp; omega)).trans q7
                  have hz1 := HI.out.res.of_block (hbw.block w.heap.size (by omega))
                  obtain ⟨r0, r1, r2, r3, r4, r5, r6, r7⟩ := zero_cells hz1
                  have hfr := hz1.frozen
                  have hw1 : w.heap.size < wr.heap.size := hz1.lt
                  have hw2 : w.heap.size + 1 < wr.heap.size := by omega
                  have HBB := hide (HI.out.below.trans (hbw.mono (by omega)))
                  have hall := hide (lim_all hpos)
                  clear hbw hz1 hLi hpos q0 q1 q2 q3 q4 q5 q6 q7
                  go_wp2
                  refine bodyPost_ret (v := .tuple #[cfgVal (fun f => last O f 0 k), .nilIface]) (by rw [HCV.out]; simp [results, Tryf.results23, go_sem, r0, r1, r2, r3, r4, r5, r6, r7]) rfl
                    ⟨below_eight HBB.out _ _ _ _ _ _ _ _, Or.inr ⟨rfl, HI.out.noNil, fun hb => ?_⟩⟩
                  have h1 := HBAD.out.1 hb
                  have h2 := hall.out
                  omega
        · have hg0b : (mg != 0) = true := by rw [bne_iff_ne]; exact hg0
          have hg1b : (mg != 1) = true := by rw [bne_iff_ne]; exact hg1
          have HBD := hide (show (md ≠ 0 ∧ md ≠ 1) ∨ (mg ≠ 0 ∧ mg ≠ 1) ∨ sl < 0 ∨ bt < 0 ∨ dp < 0 ∨ ms < 0 from Or.inr (Or.inl ⟨hg0, hg1⟩))
          clear hg0 hg1
          rcases hm with hm | hm
          all_goals
            subst hm
            go_wp2_with fail
            refine (errorf2 F mg wo.heap.size _ (by exact HFR.out) (by simp)).mono ?_
            rintro e w1 ⟨⟨x, rfl⟩, hb1⟩
            have hb2 : Below (w.heap.size + 2) wo w1 := ((Below.refl _ wo).alloc hsz _).trans (hb1.mono (by simp; omega))
            have hz1 := HI.out.res.of_block (hb2.block w.heap.size (by omega))
            obtain ⟨r0, r1, r2, r3, r4, r5, r6, r7⟩ := zero_cells hz1
            have hfr := hz1.frozen
            have hw1 : w.heap.size < w1.heap.size := hz1.lt
            have HBB := hide (HI.out.below.trans (hb2.mono (by omega)))
            clear hb1 hb2 hz1
            go_wp2
            exact bodyPost_ret (v := .tuple #[zeroCfg, .iface 57 (.pointer (some ⟨x, 0, none⟩))]) (by simp [results, Tryf.results23, go_sem, zeroCfg, r0, r1, r2, r3, r4, r5, r6, r7]) rfl
              ⟨below_eight HBB.out _ _ _ _ _ _ _ _, Or.inl ⟨x, rfl, Or.inr (HBAD.out.2 HBD.out)⟩⟩
      · have hm0b : (md != 0) = true := by rw [bne_iff_ne]; exact hm0
        have hm1b : (md != 1) = true := by rw [bne_iff_ne]; exact hm1
        go_wp2_with fail
        refine (errorf1 F md wo.heap.size _ (by exact HFR.out) (by simp)).mono ?_
        rintro e w1 ⟨⟨x, rfl⟩, hb1⟩
        have hb2 : Below (w.heap.size + 2) wo w1 := ((Below.refl _ wo).alloc hsz _).trans (hb1.mono (by simp; omega))
        have hz1 := HI.out.res.of_block (hb2.block w.heap.size (by omega))
        obtain ⟨r0, r1, r2, r3, r4, r5, r6, r7⟩ := zero_cells hz1
        have hfr := hz1.frozen
        have hw1 : w.heap.size < w1.heap.size := hz1.lt
        have HBB := hide (HI.out.below.trans (hb2.mono (by omega)))
        clear hb1 hb2 hz1
        go_wp2
        exact bodyPost_ret (v := .tuple #[zeroCfg, .iface 57 (.pointer (some ⟨x, 0, none⟩))]) (by simp [results, Tryf.results23, go_sem, zeroCfg, r0, r1, r2, r3, r4, r5, r6, r7]) rfl
          ⟨below_eight HBB.out _ _ _ _ _ _ _ _, Or.inl ⟨x, rfl, Or.inr (HBAD.out.2 (Or.inl ⟨hm0, hm1⟩))⟩⟩
end Go.Proofs.Qxb6615096aFmt
