/-
  errors.is at this program's errors (after the guide's SentryIs.lean): a reason of errors.New's make; a *BindError that wraps one.
  The numbers of this dump: 38: error, 59: *errors.errorString, 61: errors.errorString, 31: *BindError, 27: *MultiError, 63: reflectlite's rtype, 65, 68, 70: the three interfaces that errors.is asserts; functions 10: errors.Is, 14: errors.is, 13: reflectlite.TypeOf, 48: (rtype).Comparable, 41: (*BindError).Unwrap, 39: (*MultiError).Unwrap.
-/
import Derived.Test.Qxb6615096aDoorProg
import Derived.WalkKit
import Derived.WalkSpells
import Derived.LaidEql
import Derived.Stop.Asserts
import Derived.RowKitTokens
namespace Go.Proofs.Qxb6615096aDoor
open Go.RowKit Go.Extern.Stop Go.Stop Go.Extern

theorem hide {p : Prop} (h : p) : Hid p := h

theorem call13_59 (v : Value) (w : World) : (callFunc 13 #[.iface 59 v]).run Tryd.prog w = .ok (.value (.iface 63 (.agg #[.pointer (some ⟨1, 59, none⟩)]))) w := by kernel_rfl
theorem call48_59 (w : World) : (callFunc 48 #[.agg #[.pointer (some ⟨1, 59, none⟩)]]).run Tryd.prog w = .ok (.value (.bool true)) w := by kernel_rfl
theorem isMethodComparable (v : Value) (w : World) : (Go.method 208 63 v "Comparable").run Tryd.prog w = .ok (48, v) w := by kernel_rfl
theorem isComp : (Tryd.prog.info? 59).map (·.comparable) = some true := by kernel_rfl
theorem isSize : (Tryd.prog.info? 61).map (·.size) = some 1 := by kernel_rfl

theorem noIsE (v : Value) (xT : TypeId) (w : World) : (Instr.typeAssert (.iface 59 v) xT 65 true).run Tryd.prog w = .ok (.tuple #[.nilIface, .bool false]) w := run_typeAssert_lacksB Tryd.underlying65 (by kernel_rfl) (by kernel_rfl) v xT w
theorem noUnwrapE (v : Value) (xT : TypeId) (w : World) : (Instr.typeAssert (.iface 59 v) xT 68 true).run Tryd.prog w = .ok (.tuple #[.nilIface, .bool false]) w := run_typeAssert_lacksB Tryd.underlying68 (by kernel_rfl) (by kernel_rfl) v xT w
theorem noUnwrapsE (v : Value) (xT : TypeId) (w : World) : (Instr.typeAssert (.iface 59 v) xT 70 true).run Tryd.prog w = .ok (.tuple #[.nilIface, .bool false]) w := run_typeAssert_lacksB Tryd.underlying70 (by kernel_rfl) (by kernel_rfl) v xT w
theorem noIsB (v : Value) (xT : TypeId) (w : World) : (Instr.typeAssert (.iface 31 v) xT 65 true).run Tryd.prog w = .ok (.tuple #[.nilIface, .bool false]) w := run_typeAssert_lacksB Tryd.underlying65 (by kernel_rfl) (by kernel_rfl) v xT w
theorem hasUnwrapB (v : Value) (xT : TypeId) (w : World) : (Instr.typeAssert (.iface 31 v) xT 68 true).run Tryd.prog w = .ok (.tuple #[.iface 31 v, .bool true]) w := run_typeAssert_hasB Tryd.underlying68 (by kernel_rfl) v xT w
theorem noIsM (v : Value) (xT : TypeId) (w : World) : (Instr.typeAssert (.iface 27 v) xT 65 true).run Tryd.prog w = .ok (.tuple #[.nilIface, .bool false]) w := run_typeAssert_lacksB Tryd.underlying65 (by kernel_rfl) (by kernel_rfl) v xT w
theorem noUnwrapM (v : Value) (xT : TypeId) (w : World) : (Instr.typeAssert (.iface 27 v) xT 68 true).run Tryd.prog w = .ok (.tuple #[.nilIface, .bool false]) w := run_typeAssert_lacksB Tryd.underlying68 (by kernel_rfl) (by kernel_rfl) v xT w
theorem hasUnwrapsM (v : Value) (xT : TypeId) (w : World) : (Instr.typeAssert (.iface 27 v) xT 70 true).run Tryd.prog w = .ok (.tuple #[.iface 27 v, .bool true]) w := run_typeAssert_hasB Tryd.underlying70 (by kernel_rfl) v xT w
theorem methodUnwrapB (v : Value) (w : World) : (Go.method 208 31 v "Unwrap").run Tryd.prog w = .ok (41, v) w := by kernel_rfl
theorem methodUnwrapM (v : Value) (w : World) : (Go.method 208 27 v "Unwrap").run Tryd.prog w = .ok (39, v) w := by kernel_rfl

/-- errors.is(a BindError that wraps the reason at q, the reason at q, true): true. -/
theorem is_bind_same (p q : Nat) (w : World) (hq : w.cell? ⟨p, 5, none⟩ = some (.iface 59 (.pointer (some ⟨q, 0, none⟩)))) :
    Calls Tryd.prog 14 #[.iface 31 (.pointer (some ⟨p, 0, none⟩)), .iface 59 (.pointer (some ⟨q, 0, none⟩)), .bool true] w fun e w' => e = .returned (.bool true) ∧ w' = w := by
  obtain ⟨i, hi, hcmp⟩ := Option.map_eq_some_iff.1 isComp
  obtain ⟨j, hj, hjs⟩ := Option.map_eq_some_iff.1 isSize
  have nB := noIsB
  have uB := hasUnwrapB
  have mB := methodUnwrapB
  have hne : ∀ v u : Value, (binOp .eql 38 (.iface 31 v) (.iface 59 u)).run Tryd.prog w = .ok (.bool false) w := fun v u => run_eql_iface_types 31 59 v u Tryd.underlying38 (by decide) w
  have heq := run_eql_iface_ptr_same (P := Tryd.prog) w ⟨q, 0, none⟩ Tryd.underlying38 Tryd.underlying59 hi hcmp hj
  go_enter Tryd.func14, Tryd.ntmps14
  go_wp2
  refine wp_loop_rounds 2 ?_
  rw [rounds_succ]
  go_wp2
  rw [rounds_succ]
  go_wp2
  go_ret
  exact ⟨rfl, rfl⟩

/-- errors.is(a BindError that wraps the reason at q, another reason at t, true): false. -/
theorem is_bind_other (p q t : Nat) (cq ct : Array Value) (w : World) (hq : w.cell? ⟨p, 5, none⟩ = some (.iface 59 (.pointer (some ⟨q, 0, none⟩)))) (hne : q ≠ t)
    (hbq : w.heap[q]? = some (.cells cq 61 (0, 0))) (hbt : w.heap[t]? = some (.cells ct 61 (0, 0))) :
    Calls Tryd.prog 14 #[.iface 31 (.pointer (some ⟨p, 0, none⟩)), .iface 59 (.pointer (some ⟨t, 0, none⟩)), .bool true] w fun e w' => e = .returned (.bool false) ∧ w' = w := by
  obtain ⟨i, hi, hcmp⟩ := Option.map_eq_some_iff.1 isComp
  obtain ⟨j, hj, hjs⟩ := Option.map_eq_some_iff.1 isSize
  have nB := noIsB
  have uB := hasUnwrapB
  have mB := methodUnwrapB
  have nE := noIsE
  have uE := noUnwrapE
  have vE := noUnwrapsE
  have hne1 : ∀ v u : Value, (binOp .eql 38 (.iface 31 v) (.iface 59 u)).run Tryd.prog w = .ok (.bool false) w := fun v u => run_eql_iface_types 31 59 v u Tryd.underlying38 (by decide) w
  have hne2 : (⟨q, 0, none⟩ : Addr) ≠ ⟨t, 0, none⟩ := fun h => hne (congrArg Addr.block h)
  have heq := run_eql_iface_ptr_other (P := Tryd.prog) w Tryd.underlying38 Tryd.underlying59 hi hcmp hj (by rw [hjs]; decide) hne2 hbq hbt
  clear hne hne2 hbq hbt
  go_enter Tryd.func14, Tryd.ntmps14
  go_wp2
  refine wp_loop_rounds 2 ?_
  rw [rounds_succ]
  go_wp2
  rw [rounds_succ]
  go_wp2
  go_ret
  exact ⟨rfl, rfl⟩
end Go.Proofs.Qxb6615096aDoor
