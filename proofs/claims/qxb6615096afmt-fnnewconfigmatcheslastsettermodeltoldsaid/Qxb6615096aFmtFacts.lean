/-
  The closed facts for a walk over fmt.Errorf and the stopped fmt.errorf (functions 35 and 45 of this dump), after the guide's CheckFmt.lean, at this dump's numbers; and what fmt.Errorf hands back at the four formats of newConfig: a new *errors.errorString, whatever the text.
-/
import Derived.Test.Qxb6615096aFmtProg
import Derived.KernelRfl
import Derived.Stop.CallBack
import Derived.Stop.IfaceNil
import GoSem.ClaimData
import Derived.WalkKit
import Derived.WalkSpells
import Derived.WalkLawsBesides
namespace Go.Proofs.Qxb6615096aFmt
open Go.RowKit Go.Extern.Stop Go.Stop Go.Extern

theorem hide {p : Prop} (h : p) : Hid p := h

@[go_sem] theorem call45 (args : Array Value) (w : World) : (callFunc 45 args).run Tryf.prog w = ((FmtStop.errorf #[9, 84] #[41] args).run Tryf.prog w).andThen fun v w' => .ok (.value v) w' :=
  run_callFunc_extern Tryf.func45 (by kernel_rfl) (by kernel_rfl) (by kernel_rfl) (by kernel_rfl) args w
@[go_sem] theorem guard (name : String) (w : World) : (FmtStop.guard name).run Tryf.prog w = .ok () w := by kernel_rfl
@[go_sem] theorem fmt0 : FmtStop.printed? ⟨#[98, 105, 110, 100, 105, 110, 103, 58, 32, 111, 112, 116, 105, 111, 110, 32, 37, 100, 32, 111, 102, 32, 37, 100, 32, 105, 115, 32, 110, 105, 108]⟩ 2 = some [(0, 100, false), (1, 100, false)] := by kernel_rfl
@[go_sem] theorem fmt0r (w : World) : (FmtDoors.printed ⟨#[98, 105, 110, 100, 105, 110, 103, 58, 32, 111, 112, 116, 105, 111, 110, 32, 37, 100, 32, 111, 102, 32, 37, 100, 32, 105, 115, 32, 110, 105, 108]⟩ 2).run Tryf.prog w = .ok [(0, 100, false), (1, 100, false)] w := by kernel_rfl
@[go_sem] theorem fmt1 : FmtStop.printed? ⟨#[98, 105, 110, 100, 105, 110, 103, 58, 32, 87, 105, 116, 104, 83, 108, 105, 99, 101, 77, 111, 100, 101, 32, 105, 115, 32, 103, 105, 118, 101, 110, 32, 116, 104, 101, 32, 117, 110, 107, 110, 111, 119, 110, 32, 109, 111, 100, 101, 32, 37, 100]⟩ 1 = some [(0, 100, false)] := by kernel_rfl
@[go_sem] theorem fmt1r (w : World) : (FmtDoors.printed ⟨#[98, 105, 110, 100, 105, 110, 103, 58, 32, 87, 105, 116, 104, 83, 108, 105, 99, 101, 77, 111, 100, 101, 32, 105, 115, 32, 103, 105, 118, 101, 110, 32, 116, 104, 101, 32, 117, 110, 107, 110, 111, 119, 110, 32, 109, 111, 100, 101, 32, 37, 100]⟩ 1).run Tryf.prog w = .ok [(0, 100, false)] w := by kernel_rfl
@[go_sem] theorem fmt2 : FmtStop.printed? ⟨#[98, 105, 110, 100, 105, 110, 103, 58, 32, 87, 105, 116, 104, 77, 101, 114, 103, 101, 83, 116, 114, 97, 116, 101, 103, 121, 32, 105, 115, 32, 103, 105, 118, 101, 110, 32, 116, 104, 101, 32, 117, 110, 107, 110, 111, 119, 110, 32, 115, 116, 114, 97, 116, 101, 103, 121, 32, 37, 100]⟩ 1 = some [(0, 100, false)] := by kernel_rfl
@[go_sem] theorem fmt2r (w : World) : (FmtDoors.printed ⟨#[98, 105, 110, 100, 105, 110, 103, 58, 32, 87, 105, 116, 104, 77, 101, 114, 103, 101, 83, 116, 114, 97, 116, 101, 103, 121, 32, 105, 115, 32, 103, 105, 118, 101, 110, 32, 116, 104, 101, 32, 117, 110, 107, 110, 111, 119, 110, 32, 115, 116, 114, 97, 116, 101, 103, 121, 32, 37, 100]⟩ 1).run Tryf.prog w = .ok [(0, 100, false)] w := by kernel_rfl
@[go_sem] theorem fmt3 : FmtStop.printed? ⟨#[98, 105, 110, 100, 105, 110, 103, 58, 32, 37, 115, 32, 105, 115, 32, 103, 105, 118, 101, 110, 32, 37, 100, 44, 32, 98, 101, 108, 111, 119, 32, 122, 101, 114, 111]⟩ 2 = some [(0, 115, false), (1, 100, false)] := by kernel_rfl
@[go_sem] theorem fmt3r (w : World) : (FmtDoors.printed ⟨#[98, 105, 110, 100, 105, 110, 103, 58, 32, 37, 115, 32, 105, 115, 32, 103, 105, 118, 101, 110, 32, 37, 100, 44, 32, 98, 101, 108, 111, 119, 32, 122, 101, 114, 111]⟩ 2).run Tryf.prog w = .ok [(0, 115, false), (1, 100, false)] w := by kernel_rfl
def shape3 : List UInt8 := [5, 3, 0, 0, 0, 0, 0, 0, 0, 105, 110, 116]
@[go_sem] theorem op3_100w (name : String) (x : Int) (w : World) : (FmtStop.operand name true 100 false (.iface 3 (.int .i64 x))).run Tryf.prog w = .ok (shape3, Go.Extern.Stop.digits 8 (x % 2 ^ 64).toNat) w := by kernel_rfl
def shape2 : List UInt8 := [5, 5, 0, 0, 0, 0, 0, 0, 0, 105, 110, 116, 54, 52]
@[go_sem] theorem op2_100w (name : String) (x : Int) (w : World) : (FmtStop.operand name true 100 false (.iface 2 (.int .i64 x))).run Tryf.prog w = .ok (shape2, Go.Extern.Stop.digits 8 (x % 2 ^ 64).toNat) w := by kernel_rfl
def shape36 : List UInt8 := [5, 17, 0, 0, 0, 0, 0, 0, 0, 98, 105, 110, 100, 105, 110, 103, 46, 83, 108, 105, 99, 101, 77, 111, 100, 101]
@[go_sem] theorem op36_100w (name : String) (x : Int) (w : World) : (FmtStop.operand name true 100 false (.iface 36 (.int .i64 x))).run Tryf.prog w = .ok (shape36, Go.Extern.Stop.digits 8 (x % 2 ^ 64).toNat) w := by kernel_rfl
def shape37 : List UInt8 := [5, 21, 0, 0, 0, 0, 0, 0, 0, 98, 105, 110, 100, 105, 110, 103, 46, 77, 101, 114, 103, 101, 83, 116, 114, 97, 116, 101, 103, 121]
@[go_sem] theorem op37_100w (name : String) (x : Int) (w : World) : (FmtStop.operand name true 100 false (.iface 37 (.int .i64 x))).run Tryf.prog w = .ok (shape37, Go.Extern.Stop.digits 8 (x % 2 ^ 64).toNat) w := by kernel_rfl
def shape71 : List UInt8 := [12, 13, 0, 0, 0, 0, 0, 0, 0, 98, 105, 110, 100, 105, 110, 103, 46, 76, 105, 109, 105, 116]
@[go_sem] theorem op71_115w (name : String) (x : ByteArray) (w : World) : (FmtStop.operand name true 115 false (.iface 71 (.string x))).run Tryf.prog w = .ok (shape71, FmtStop.pack x.data.toList) w := by kernel_rfl
@[go_sem] theorem ptr57 (w : World) : (FmtStop.ptrTo "errors.errorString").run Tryf.prog w = .ok 57 w := by kernel_rfl
@[go_sem] theorem elem57 (w : World) : (elemOf 57).run Tryf.prog w = .ok 59 w := by kernel_rfl

/-- A new error came back; nothing that was there turned. -/
def NewError (w : World) (e : Ending) (w' : World) : Prop := (∃ x : Nat, e = .returned (.iface 57 (.pointer (some ⟨x, 0, none⟩)))) ∧ Below w.heap.size w w'
theorem NewError.mk {w w' : World} (x : Nat) (h : Below w.heap.size w w') : NewError w (.returned (.iface 57 (.pointer (some ⟨x, 0, none⟩)))) w' := ⟨⟨x, rfl⟩, h⟩

set_option maxHeartbeats 400000 in
theorem errorf0 (F : Interp) (i n : Int) (b : Nat) (w : World) (hF : F.answers w.tape) (h0 : w.cell? ⟨b, 0, none⟩ = some (.iface 3 (.int .i64 i))) (h1 : w.cell? ⟨b, 1, none⟩ = some (.iface 3 (.int .i64 n))) :
    Calls Tryf.prog 35 #[.string ⟨#[98, 105, 110, 100, 105, 110, 103, 58, 32, 111, 112, 116, 105, 111, 110, 32, 37, 100, 32, 111, 102, 32, 37, 100, 32, 105, 115, 32, 110, 105, 108]⟩, .slice (some ⟨b, 0, none⟩) 2 2] w fun e w' => NewError w e w' := by
  have hF' := answers_open hF
  go_enter Tryf.func35, Tryf.ntmps35
  go_wp2
  go_ret
  exact NewError.mk _ ((Below.refl _ _).alloc (Nat.le_refl _) _).drew

set_option maxHeartbeats 400000 in
theorem errorf1 (F : Interp) (m : Int) (b : Nat) (w : World) (hF : F.answers w.tape) (h0 : w.cell? ⟨b, 0, none⟩ = some (.iface 36 (.int .i64 m))) :
    Calls Tryf.prog 35 #[.string ⟨#[98, 105, 110, 100, 105, 110, 103, 58, 32, 87, 105, 116, 104, 83, 108, 105, 99, 101, 77, 111, 100, 101, 32, 105, 115, 32, 103, 105, 118, 101, 110, 32, 116, 104, 101, 32, 117, 110, 107, 110, 111, 119, 110, 32, 109, 111, 100, 101, 32, 37, 100]⟩, .slice (some ⟨b, 0, none⟩) 1 1] w fun e w' => NewError w e w' := by
  have hF' := answers_open hF
  go_enter Tryf.func35, Tryf.ntmps35
  go_wp2
  go_ret
  exact NewError.mk _ ((Below.refl _ _).alloc (Nat.le_refl _) _).drew

set_option maxHeartbeats 400000 in
theorem errorf2 (F : Interp) (m : Int) (b : Nat) (w : World) (hF : F.answers w.tape) (h0 : w.cell? ⟨b, 0, none⟩ = some (.iface 37 (.int .i64 m))) :
    Calls Tryf.prog 35 #[.string ⟨#[98, 105, 110, 100, 105, 110, 103, 58, 32, 87, 105, 116, 104, 77, 101, 114, 103, 101, 83, 116, 114, 97, 116, 101, 103, 121, 32, 105, 115, 32, 103, 105, 118, 101, 110, 32, 116, 104, 101, 32, 117, 110, 107, 110, 111, 119, 110, 32, 115, 116, 114, 97, 116, 101, 103, 121, 32, 37, 100]⟩, .slice (some ⟨b, 0, none⟩) 1 1] w fun e w' => NewError w e w' := by
  have hF' := answers_open hF
  go_enter Tryf.func35, Tryf.ntmps35
  go_wp2
  go_ret
  exact NewError.mk _ ((Below.refl _ _).alloc (Nat.le_refl _) _).drew

set_option maxHeartbeats 400000 in
theorem errorf3 (F : Interp) (s : ByteArray) (n : Int) (b : Nat) (w : World) (hF : F.answers w.tape) (h0 : w.cell? ⟨b, 0, none⟩ = some (.iface 71 (.string s))) (h1 : w.cell? ⟨b, 1, none⟩ = some (.iface 2 (.int .i64 n))) :
    Calls Tryf.prog 35 #[.string ⟨#[98, 105, 110, 100, 105, 110, 103, 58, 32, 37, 115, 32, 105, 115, 32, 103, 105, 118, 101, 110, 32, 37, 100, 44, 32, 98, 101, 108, 111, 119, 32, 122, 101, 114, 111]⟩, .slice (some ⟨b, 0, none⟩) 2 2] w fun e w' => NewError w e w' := by
  have hF' := answers_open hF
  go_enter Tryf.func35, Tryf.ntmps35
  go_wp2
  go_ret
  exact NewError.mk _ ((Below.refl _ _).alloc (Nat.le_refl _) _).drew

end Go.Proofs.Qxb6615096aFmt
