/-
  (encoding/binary.bigEndian).AppendUint32 laid at this program; (*encoder).i32 and ZZi32 walked.
-/
import Derived.Test.Qxb6615551aProg
import Derived.Shelf.Bin.BEAppendUint32
import Derived.Shelf.Bin.BEAppendUint32Arg
import Derived.Shelf.Lay
import Derived.Ground.MnProg
import Derived.WalkKit
import Derived.Below
import Derived.Deep.RegionWith
namespace Go.Proofs.Qxb6615551a
open Go.Shelf Go.RowKit

shelf_lay LaysBin.n41 Mn 41 at Try as Try.laysBE

theorem hide {p : Prop} (h : p) : Hid p := h

/-- A new row at g: its first cells are xs; what was there before w0's end stays. -/
structure Laid (w0 w : World) (g : Nat) (xs : List Value) : Prop where
  new : w0.heap.size ≤ g
  lt : g < w.heap.size
  cells : ∀ (j : Nat) (x : Value), xs[j]? = some x → w.cell? ⟨g, j, none⟩ = some x
  below : Below w0.heap.size w0 w

theorem laid_of {w0 w : World} {v : Value} {n : Nat} {xs : List Value} (h : w.ownsRow w0.heap.size 5 1 v n xs) (hn : 0 < n) (hb : Below w0.heap.size w0 w) :
    ∃ g cap, v = .slice (some ⟨g, 0, none⟩) n cap ∧ Laid w0 w g xs := by
  rcases h.2 with ⟨_, h0⟩ | ⟨g, cap, cur, rfl, h1, h2, h3, h4, h5, h6⟩
  · omega
  refine ⟨g, cap, rfl, h1, ?_, fun j x hx => ?_, hb⟩
  · rcases Nat.lt_or_ge g w.heap.size with hl | hl
    · exact hl
    · rw [Array.getElem?_eq_none hl] at h2; cases h2
  · rw [← h6, List.getElem?_take] at hx
    split at hx
    · simp only [World.cell?, h2]
      simpa using hx
    · cases hx

theorem append_nil (w : World) (u : Nat) (hu : u < 4294967296) :
    Calls Try.prog 17 #[.agg #[], .slice none 0 0, .int .u32 u] w fun e w' => ∃ g cap, e = .returned (.slice (some ⟨g, 0, none⟩) (0 + 4) cap) ∧ Laid w w' g ([] ++ Lib.byteCells (Lib.beBytes 4 u)) := by
  refine (Any.binary_BE_AppendUint32 Try.laysBE w.heap.size 0 u hu _ [] w (World.ownsRow_nil _ _ _ _) (Nat.le_refl _) (by decide)).mono ?_
  rintro e w' ⟨v', rfl, h, hb⟩
  obtain ⟨g, cap, rfl, hl⟩ := laid_of h (by omega) hb
  exact ⟨g, cap, rfl, hl⟩

theorem append_row (w : World) (g n u : Nat) (hu : u < 4294967296) (olds : List Value) (hlo : olds.length = n) (holds : ∀ j x, olds[j]? = some x → w.cell? ⟨g, j, none⟩ = some x) (hlim : n + 4 ≤ 140737488355328) :
    Calls Try.prog 17 #[.agg #[], .slice (some ⟨g, 0, none⟩) n n, .int .u32 u] w fun e w' => ∃ g cap, e = .returned (.slice (some ⟨g, 0, none⟩) (n + 4) cap) ∧ Laid w w' g (olds ++ Lib.byteCells (Lib.beBytes 4 u)) := by
  refine (Any.binary_BE_AppendUint32_arg Try.laysBE g 0 n n u hu olds w hlo (fun j x h => by rw [Nat.zero_add]; exact holds j x h) (fun h => by omega) hlim).mono ?_
  rintro e w' (⟨h, _⟩ | ⟨_, v', rfl, h2, h3⟩)
  · omega
  · have h2' : w'.ownsRow w.heap.size 5 1 v' (n + 4) (olds ++ Lib.byteCells (Lib.beBytes 4 u)) := by
      refine ⟨h2.1, ?_⟩
      rcases h2.2 with h | ⟨g, cap, cur, a, b, c⟩
      · exact .inl h
      · exact .inr ⟨g, cap, cur, a, by omega, c⟩
    obtain ⟨g, cap, rfl, hl⟩ := laid_of h2' (by omega) h3
    exact ⟨g, cap, rfl, hl⟩

theorem Laid.undrew {w w1 : World} {g : Nat} {xs : List Value} (h : Laid w.drew w1 g xs) : Laid w w1 g xs :=
  ⟨h.new, h.lt, h.cells, ((Below.refl _ _).drew).trans h.below⟩

/-- What an append onto b0 answers, in whatever world it is made. -/
def Appends (w : World) (b0 : Value) (n u : Nat) (xs : List Value) : Prop :=
  ∀ w1 : World, Below w.heap.size w w1 → Calls Try.prog 17 #[.agg #[], b0, .int .u32 u] w1 fun e w' => ∃ g cap, e = .returned (.slice (some ⟨g, 0, none⟩) n cap) ∧ Laid w1 w' g xs

theorem i32_any (b0 : Value) (n : Nat) (xs : List Value) (u : Nat) (v : Int) (E : Nat) (w : World) (hv : IntKind.u32.wrap v = u) (hE : w.cell? ⟨E, 0, none⟩ = some b0) (hf : w.frozen? ⟨E, 0, none⟩ = false) (happ : Appends w b0 n u xs) :
    Calls Try.prog 14 #[.pointer (some ⟨E, 0, none⟩), .int .i32 v] w fun e w' => e = .returned (.tuple #[]) ∧ ∃ w1 g cap, w' = w1.setCell ⟨E, 0, none⟩ (.slice (some ⟨g, 0, none⟩) n cap) ∧ Laid w w1 g xs := by
  have HA := hide happ
  have hlt : E < w.heap.size := World.block_lt_of_cell? w _ hE
  clear happ
  go_enter Try.func14, Try.ntmps14
  go_region_with (go_at_call 17; refine (HA.out _ ?_).mono ?_; exact (Below.refl _ _).drew; rintro e w2 ⟨g, cap, rfl, hl⟩; have hE2 := (hl.below.cell (p := ⟨E, 0, none⟩) hlt).trans hE; have hf2 := (hl.below.frozen (p := ⟨E, 0, none⟩) hlt).trans hf)
  all_goals
    go_end0
    exact ⟨rfl, w2, g, cap, rfl, hl.undrew⟩

theorem size_set (w : World) (a : Addr) (v : Value) : (w.setCell a v).heap.size = w.heap.size := by simp [World.setCell]

theorem Laid.box {w w1 : World} {o : Obj} {g : Nat} {xs : List Value} {x : Value} (h : Laid (w.alloc o) w1 g xs) : Laid w (w1.setCell ⟨w.heap.size, 0, none⟩ x) g xs where
  new := by have := h.new; rw [World.size_alloc] at this; omega
  lt := by rw [size_set]; exact h.lt
  cells := fun j y hy => by
    have hn := h.new
    rw [World.size_alloc] at hn
    rw [World.cell?_setCell_other _ _ _ _ (fun e => by have := congrArg Addr.block e; simp at this; omega)]
    exact h.cells j y hy
  below := (((Below.refl _ _).alloc (Nat.le_refl _) _).trans (h.below.mono (by rw [World.size_alloc]; omega))).setCell (Nat.le_refl _) _

theorem zz_any (ao : Option Addr) (m c n : Nat) (xs : List Value) (u : Nat) (v : Int) (w : World) (hv : IntKind.u32.wrap v = u) (happ : ∀ o : Obj, Appends (w.alloc o) (.slice ao m c) n u xs) :
    Calls Try.prog 9 #[.slice ao m c, .int .i32 v] w fun e w' => ∃ g cap, e = .returned (.slice (some ⟨g, 0, none⟩) n cap) ∧ Laid w w' g xs := by
  have HA := hide happ
  clear happ
  go_enter Try.func9, Try.ntmps9
  go_wp2_with fail
  refine (i32_any _ n xs u v w.heap.size _ hv (by simp) (by simp) (HA.out _)).mono ?_
  rintro e w' ⟨rfl, w1, g, cap, rfl, hl⟩
  have hlt : w.heap.size < w1.heap.size := by have := hl.below.size; rw [World.size_alloc] at this; omega
  have hb := hl.below.block w.heap.size (by rw [World.size_alloc]; omega)
  have hc : w1.cell? ⟨w.heap.size, 0, none⟩ = some (.slice ao m c) := (hl.below.cell (p := ⟨w.heap.size, 0, none⟩) (by rw [World.size_alloc]; exact Nat.lt_succ_self _)).trans (by simp)
  have HL := hide (fun x => hl.box (x := x))
  clear hl hb
  go_wp2
  go_ret
  exact ⟨g, cap, rfl, HL.out _⟩

/-- The word's four cells. -/
def word (u : Nat) : List Value := [.int .u8 ((u / 16777216 % 256 : Nat) : Int), .int .u8 ((u / 65536 % 256 : Nat) : Int), .int .u8 ((u / 256 % 256 : Nat) : Int), .int .u8 ((u % 256 : Nat) : Int)]
theorem word_bytes (u : Nat) : Lib.byteCells (Lib.beBytes 4 u) = word u := by
  simp only [Lib.byteCells, Lib.beBytes, Lib.leBytes, List.reverse_cons, List.reverse_nil, List.nil_append, List.cons_append, List.map_cons, List.map_nil, Lib.toUInt8_mod, word, Nat.div_div_eq_div_mul]

/-- The number that int32's v is as a uint32. -/
def unsig (v : Int) : Nat := (v % 4294967296).toNat
theorem unsig_lt (v : Int) : unsig v < 4294967296 := by unfold unsig; omega
theorem unsig_int (v : Int) : ((unsig v : Nat) : Int) = v % 4294967296 := by unfold unsig; omega
theorem wrap_unsig (v : Int) : IntKind.u32.wrap v = unsig v := by
  rw [unsig_int]
  simp [IntKind.wrap, IntKind.signed, IntKind.bits]

theorem zz_nil (v : Int) (w : World) : Calls Try.prog 9 #[.slice none 0 0, .int .i32 v] w fun e w' => ∃ g cap, e = .returned (.slice (some ⟨g, 0, none⟩) 4 cap) ∧ Laid w w' g (word (unsig v)) := by
  refine zz_any none 0 0 4 _ (unsig v) v w (wrap_unsig v) (fun o w1 h => ?_)
  have := append_nil w1 (unsig v) (unsig_lt v)
  rw [word_bytes] at this
  exact this

theorem zz_row (g n : Nat) (v : Int) (w : World) (olds : List Value) (hlo : olds.length = n) (holds : ∀ j x, olds[j]? = some x → w.cell? ⟨g, j, none⟩ = some x) (hg : g < w.heap.size) (hlim : n ≤ 1048576) :
    Calls Try.prog 9 #[.slice (some ⟨g, 0, none⟩) n n, .int .i32 v] w fun e w' => ∃ g cap, e = .returned (.slice (some ⟨g, 0, none⟩) (n + 4) cap) ∧ Laid w w' g (olds ++ word (unsig v)) := by
  refine zz_any _ n n (n + 4) _ (unsig v) v w (wrap_unsig v) (fun o w1 h => ?_)
  have hb : Below w.heap.size w w1 := ((Below.refl _ _).alloc (Nat.le_refl _) o).trans (h.mono (by rw [World.size_alloc]; omega))
  have := append_row w1 g n (unsig v) (unsig_lt v) olds hlo (fun j x hx => (hb.cell (p := ⟨g, j, none⟩) hg).trans (holds j x hx)) (by omega)
  rw [word_bytes] at this
  exact this
end Go.Proofs.Qxb6615551a
