/-
  ZZconfigFields (function 15): the config's eight fields.
-/
import Derived.Test.Qxb6615096aFmtFacts
import Derived.Deep.QuietTactic
import Derived.BigQuiet
namespace Go.Proofs.Qxb6615096aFmt
open Go.RowKit Go.Extern.Stop Go.Stop Go.Extern

theorem below_drewN {B : Nat} {a w : World} (h : Below B a w) : ∀ n, Below B a (w.drewN n)
  | 0 => ⟨h.os, h.tape, h.output, h.size, h.block⟩
  | _ + 1 => ⟨h.os, h.tape, h.output, h.size, h.block⟩

set_option maxRecDepth 100000 in
set_option maxHeartbeats 1600000 in
theorem fields_any (md : Int) (al : Bool) (sl : Int) (st : Bool) (bt dp ms mg : Int) (w : World) :
    Calls Tryf.prog 15 #[.agg #[.int .i64 md, .bool al, .int .i64 sl, .bool st, .int .i64 bt, .int .i64 dp, .int .i64 ms, .int .i64 mg]] w
      fun e w' => e = .returned (.tuple #[.int .i64 md, .bool al, .int .i64 sl, .bool st, .int .i64 bt, .int .i64 dp, .int .i64 ms, .int .i64 mg]) ∧ Below w.heap.size w w' := by
  go_enter Tryf.func15, Tryf.ntmps15
  go_wp2
  go_quiet (fail)
  go_wp2
  refine bodyPost_ret (v := .tuple #[.int .i64 md, .bool al, .int .i64 sl, .bool st, .int .i64 bt, .int .i64 dp, .int .i64 ms, .int .i64 mg]) (by simp [results, Tryf.results15, go_sem]) rfl ⟨rfl, ?_⟩
  exact below_drewN ((Below.refl _ _).alloc (Nat.le_refl _) _) _
end Go.Proofs.Qxb6615096aFmt
