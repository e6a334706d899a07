/-
  Closed facts and laws on the model's entries for internal/reflectlite at this program's types (after the guide's ToyasAs.lean): 31: *BindError, 42: **BindError, 27: *MultiError, 38: error, 63: reflectlite's rtype, 52: reflectlite's Value.
-/
import Derived.Test.Qxb6615096aDoorIs
namespace Go.Proofs.Qxb6615096aDoor
open Go.RowKit Go.Extern.Stop Go.Stop Go.Extern

theorem call13_31 (v : Value) (w : World) : (callFunc 13 #[.iface 31 v]).run Tryd.prog w = .ok (.value (.iface 63 (.agg #[.pointer (some ⟨1, 31, none⟩)]))) w := by kernel_rfl
theorem call13_27 (v : Value) (w : World) : (callFunc 13 #[.iface 27 v]).run Tryd.prog w = .ok (.value (.iface 63 (.agg #[.pointer (some ⟨1, 27, none⟩)]))) w := by kernel_rfl
theorem call15_42 (t : Addr) (w : World) : (callFunc 15 #[.iface 42 (.pointer (some t))]).run Tryd.prog w
    = .ok (.value (.agg #[.pointer (some ⟨1, 42, none⟩), .pointer (some ⟨w.heap.size, 0, none⟩), .int .u64 150])) (w.alloc (.cells #[.pointer (some t)] 42)) := by kernel_rfl
theorem call15_31 (e : Addr) (w : World) : (callFunc 15 #[.iface 31 (.pointer (some e))]).run Tryd.prog w
    = .ok (.value (.agg #[.pointer (some ⟨1, 31, none⟩), .pointer (some ⟨w.heap.size, 0, none⟩), .int .u64 150])) (w.alloc (.cells #[.pointer (some e)] 31)) := by kernel_rfl
theorem call16_42 (a : Addr) (w : World) : (callFunc 16 #[.agg #[.pointer (some ⟨1, 42, none⟩), .pointer (some a), .int .u64 150]]).run Tryd.prog w = .ok (.value (.iface 63 (.agg #[.pointer (some ⟨1, 42, none⟩)]))) w := by kernel_rfl
theorem methodKind (h : Value) (w : World) : (Go.method 208 63 (.agg #[h]) "Kind").run Tryd.prog w = .ok (35, h) w := by kernel_rfl
theorem methodElem (h : Value) (w : World) : (Go.method 208 63 (.agg #[h]) "Elem").run Tryd.prog w = .ok (49, .agg #[h]) w := by kernel_rfl
theorem methodImplements (h : Value) (w : World) : (Go.method 208 63 (.agg #[h]) "Implements").run Tryd.prog w = .ok (50, .agg #[h]) w := by kernel_rfl
theorem methodAssignableTo (h : Value) (w : World) : (Go.method 208 63 (.agg #[h]) "AssignableTo").run Tryd.prog w = .ok (47, .agg #[h]) w := by kernel_rfl
theorem call35_42 (w : World) : (callFunc 35 #[.pointer (some ⟨1, 42, none⟩)]).run Tryd.prog w = .ok (.value (.int .u8 22)) w := by kernel_rfl
theorem call35_31 (w : World) : (callFunc 35 #[.pointer (some ⟨1, 31, none⟩)]).run Tryd.prog w = .ok (.value (.int .u8 22)) w := by kernel_rfl
theorem call49_42 (w : World) : (callFunc 49 #[.agg #[.pointer (some ⟨1, 42, none⟩)]]).run Tryd.prog w = .ok (.value (.iface 63 (.agg #[.pointer (some ⟨1, 31, none⟩)]))) w := by kernel_rfl
theorem call50_31 (w : World) : (callFunc 50 #[.agg #[.pointer (some ⟨1, 31, none⟩)], .iface 63 (.agg #[.pointer (some ⟨1, 38, none⟩)])]).run Tryd.prog w = .ok (.value (.bool true)) w := by kernel_rfl
theorem call47_31 (w : World) : (callFunc 47 #[.agg #[.pointer (some ⟨1, 31, none⟩)], .iface 63 (.agg #[.pointer (some ⟨1, 31, none⟩)])]).run Tryd.prog w = .ok (.value (.bool true)) w := by kernel_rfl
theorem call47_27 (w : World) : (callFunc 47 #[.agg #[.pointer (some ⟨1, 27, none⟩)], .iface 63 (.agg #[.pointer (some ⟨1, 31, none⟩)])]).run Tryd.prog w = .ok (.value (.bool false)) w := by kernel_rfl
theorem noAsM (v : Value) (xT : TypeId) (w : World) : (Instr.typeAssert (.iface 27 v) xT 75 true).run Tryd.prog w = .ok (.tuple #[.nilIface, .bool false]) w := run_typeAssert_lacksB Tryd.underlying75 (by kernel_rfl) (by kernel_rfl) v xT w

theorem parts42 (a : Addr) (w : World) : (ReflectliteValue.parts (.agg #[.pointer (some ⟨1, 42, none⟩), .pointer (some a), .int .u64 150])).run Tryd.prog w = .ok (some (42, a, 150)) w := by kernel_rfl
theorem isNil42 (a p : Addr) (W : World) (ha : W.cell? a = some (.pointer (some p))) :
    (ReflectliteValue.method (ReflectliteValue.valueError "reflectlite.Value.IsNil" 0) ReflectliteValue.isNil #[.agg #[.pointer (some ⟨1, 42, none⟩), .pointer (some a), .int .u64 150]]).run Tryd.prog W = .ok (.bool false) W := by
  refine Eq.trans (b := Sem.run Tryd.prog (ReflectliteValue.parts (.agg #[.pointer (some ⟨1, 42, none⟩), .pointer (some a), .int .u64 150]) >>= fun pv => _) W) rfl ?_
  simp only [Sem.run_bind, parts42, Result.andThen]
  simp [ReflectliteValue.isNil, loadVar, isAgg, underlying, Tryd.underlying42, ha, Result.andThen]
theorem elemOf42 (w : World) : (Rtype.elem? 42).run Tryd.prog w = .ok (some 31) w := by kernel_rfl
theorem mk31 (p : Addr) (w : World) : (ReflectliteValue.mk 31 p ReflectliteValue.flagAddr).run Tryd.prog w = .ok (.agg #[.pointer (some ⟨1, 31, none⟩), .pointer (some p), .int .u64 406]) w := by kernel_rfl
theorem elemV42 (a p : Addr) (W : World) (ha : W.cell? a = some (.pointer (some p))) :
    (ReflectliteValue.method (ReflectliteValue.valueError "reflectlite.Value.Elem" 0) ReflectliteValue.elem #[.agg #[.pointer (some ⟨1, 42, none⟩), .pointer (some a), .int .u64 150]]).run Tryd.prog W
      = .ok (.agg #[.pointer (some ⟨1, 31, none⟩), .pointer (some p), .int .u64 406]) W := by
  refine Eq.trans (b := Sem.run Tryd.prog (ReflectliteValue.parts (.agg #[.pointer (some ⟨1, 42, none⟩), .pointer (some a), .int .u64 150]) >>= fun pv => _) W) rfl ?_
  simp only [Sem.run_bind, parts42, Result.andThen]
  simp [ReflectliteValue.elem, loadVar, isAgg, underlying, Tryd.underlying42, ha, Result.andThen, elemOf42, mk31]
theorem parts31a (a : Addr) (w : World) : (ReflectliteValue.parts (.agg #[.pointer (some ⟨1, 31, none⟩), .pointer (some a), .int .u64 406])).run Tryd.prog w = .ok (some (31, a, 406)) w := by kernel_rfl
theorem parts31 (a : Addr) (w : World) : (ReflectliteValue.parts (.agg #[.pointer (some ⟨1, 31, none⟩), .pointer (some a), .int .u64 150])).run Tryd.prog w = .ok (some (31, a, 150)) w := by kernel_rfl
theorem direct31 (w : World) : (Rtype.directlyAssignable 31 31).run Tryd.prog w = .ok true w := by kernel_rfl
theorem set31 (ta b e : Addr) (old : Value) (W : World) (hb : W.cell? b = some (.pointer (some e))) (ht : W.cell? ta = some old) (hf : W.frozen? ta = false) :
    (ReflectliteValue.set #[.agg #[.pointer (some ⟨1, 31, none⟩), .pointer (some ta), .int .u64 406], .agg #[.pointer (some ⟨1, 31, none⟩), .pointer (some b), .int .u64 150]]).run Tryd.prog W
      = .ok (.tuple #[]) (W.setCell ta (.pointer (some e))) := by
  refine Eq.trans (b := Sem.run Tryd.prog (ReflectliteValue.parts (.agg #[.pointer (some ⟨1, 31, none⟩), .pointer (some ta), .int .u64 406]) >>= fun pv => ReflectliteValue.parts (.agg #[.pointer (some ⟨1, 31, none⟩), .pointer (some b), .int .u64 150]) >>= fun px => _) W) rfl ?_
  simp only [Sem.run_bind, parts31a, parts31, Result.andThen]
  simp [ReflectliteValue.flagAddr, loadVar, isAgg, underlying, Tryd.underlying31, hb, Result.andThen, direct31, storeVar, Value.cells, storeCells, Addr.add]
  rw [run_store Tryd.prog W ta _ _ (by rfl)]
  simp [ht, hf]


theorem call17_42 (a p : Addr) (W : World) (ha : W.cell? a = some (.pointer (some p))) : (callFunc 17 #[.agg #[.pointer (some ⟨1, 42, none⟩), .pointer (some a), .int .u64 150]]).run Tryd.prog W = .ok (.value (.bool false)) W := by
  rw [@run_callFunc_extern Tryd.prog 17 _ (ReflectliteValue.method (ReflectliteValue.valueError "reflectlite.Value.IsNil" 0) ReflectliteValue.isNil) Tryd.func17 (by kernel_rfl) (by kernel_rfl) (by kernel_rfl) (by kernel_rfl), isNil42 a p W ha]
  rfl
theorem call19_42 (a p : Addr) (W : World) (ha : W.cell? a = some (.pointer (some p))) : (callFunc 19 #[.agg #[.pointer (some ⟨1, 42, none⟩), .pointer (some a), .int .u64 150]]).run Tryd.prog W = .ok (.value (.agg #[.pointer (some ⟨1, 31, none⟩), .pointer (some p), .int .u64 406])) W := by
  rw [@run_callFunc_extern Tryd.prog 19 _ (ReflectliteValue.method (ReflectliteValue.valueError "reflectlite.Value.Elem" 0) ReflectliteValue.elem) Tryd.func19 (by kernel_rfl) (by kernel_rfl) (by kernel_rfl) (by kernel_rfl), elemV42 a p W ha]
  rfl
theorem call20_31 (ta b e : Addr) (old : Value) (W : World) (hb : W.cell? b = some (.pointer (some e))) (ht : W.cell? ta = some old) (hf : W.frozen? ta = false) :
    (callFunc 20 #[.agg #[.pointer (some ⟨1, 31, none⟩), .pointer (some ta), .int .u64 406], .agg #[.pointer (some ⟨1, 31, none⟩), .pointer (some b), .int .u64 150]]).run Tryd.prog W = .ok (.value (.tuple #[])) (W.setCell ta (.pointer (some e))) := by
  rw [@run_callFunc_extern Tryd.prog 20 _ ReflectliteValue.set Tryd.func20 (by kernel_rfl) (by kernel_rfl) (by kernel_rfl) (by kernel_rfl), set31 ta b e old W hb ht hf]
  rfl
end Go.Proofs.Qxb6615096aDoor
