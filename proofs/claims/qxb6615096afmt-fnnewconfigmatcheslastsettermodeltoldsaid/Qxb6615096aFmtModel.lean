/-
  The plain model: an option, the last option that sets a field, the config that options make. No Go here, but for the values of the config's cells.
-/
import Derived.Test.Qxb6615096aFmtFacts
namespace Go.Proofs.Qxb6615096aFmt

structure Opt where
  nl : Bool
  fd : Int
  n : Int

/-- The option sets the field numbered f. -/
def sets (o : Opt) (f : Nat) : Bool := !o.nl && decide (o.fd = (f : Int))

/-- The number of the last of the m options from i on that sets f. -/
def last (O : Nat → Opt) (f i : Nat) : Nat → Option Int
  | 0 => none
  | m + 1 => if sets (O (i + m)) f = true then some (O (i + m)).n else last O f i m

/-- One of the m options from i on is nil. -/
def anyNil (O : Nat → Opt) (i : Nat) : Nat → Bool
  | 0 => false
  | m + 1 => (O (i + m)).nl || anyNil O i m

theorem last_front (O : Nat → Opt) (f i m : Nat) : last O f i (m + 1) = (last O f (i + 1) m).or (if sets (O i) f = true then some (O i).n else none) := by
  induction m with
  | zero => simp [last]
  | succ m ih =>
    have e : i + 1 + m = i + (m + 1) := by omega
    rw [last, ih, last, e]
    by_cases h : sets (O (i + (m + 1))) f = true
    · simp [h]
    · simp [h]

theorem anyNil_front (O : Nat → Opt) (i m : Nat) : anyNil O i (m + 1) = (anyNil O (i + 1) m || (O i).nl) := by
  induction m with
  | zero => simp [anyNil]
  | succ m ih =>
    have e : i + 1 + m = i + (m + 1) := by omega
    rw [anyNil, ih, anyNil, e, Bool.or_assoc]

theorem sets_nil (o : Opt) (f : Nat) (h : o.nl = true) : sets o f = false := by simp [sets, h]
theorem sets_not (o : Opt) (f : Nat) (h : o.fd ≠ (f : Int)) : sets o f = false := by simp [sets, h]
theorem sets_yes (o : Opt) (f : Nat) (hn : o.nl = false) (h : o.fd = (f : Int)) : sets o f = true := by simp [sets, hn, h]

theorem last_hit (O : Nat → Opt) (f i m : Nat) (h : sets (O (i + m)) f = true) : last O f i (m + 1) = some (O (i + m)).n := by rw [last, if_pos h]
theorem last_miss (O : Nat → Opt) (f i m : Nat) (h : sets (O (i + m)) f = false) : last O f i (m + 1) = last O f i m := by rw [last, if_neg (by simp [h])]
theorem front_some (O : Nat → Opt) (f i m : Nat) (h : (last O f (i + 1) m).isSome = true) : last O f i (m + 1) = last O f (i + 1) m := by
  rw [last_front]; cases hx : last O f (i + 1) m with
  | none => rw [hx] at h; cases h
  | some x => rfl
theorem front_miss (O : Nat → Opt) (f i m : Nat) (h : sets (O i) f = false) : last O f i (m + 1) = last O f (i + 1) m := by
  rw [last_front, if_neg (by simp [h])]; cases last O f (i + 1) m <;> rfl
theorem front_hit (O : Nat → Opt) (f i m : Nat) (h : sets (O i) f = true) (hn : (last O f (i + 1) m).isSome = false) : last O f i (m + 1) = some (O i).n := by
  rw [last_front, if_pos h]; cases hx : last O f (i + 1) m with
  | none => rfl
  | some x => rw [hx] at hn; cases hn

/-- A bool field: set to N != 0; false where nothing sets it. -/
def bv : Option Int → Bool
  | some n => n != 0
  | none => false

/-- The config's cells, each field by the last option that sets it. -/
def cfgCell (g : Nat → Option Int) (j : Nat) : Value :=
  match j with
  | 0 => .int .i64 ((g 0).getD 0)
  | 1 => .bool (bv (g 1))
  | 2 => .int .i64 ((g 2).getD 10000)
  | 3 => .bool (bv (g 3))
  | 4 => .int .i64 ((g 4).getD 1048576)
  | 5 => .int .i64 ((g 5).getD 32)
  | 6 => .int .i64 ((g 6).getD 1000)
  | 7 => .int .i64 ((g 7).getD 0)
  | _ => .nilIface

/-- A value that newConfig refuses. -/
def bad (g : Nat → Option Int) : Prop :=
  ((g 0).getD 0 ≠ 0 ∧ (g 0).getD 0 ≠ 1) ∨ ((g 7).getD 0 ≠ 0 ∧ (g 7).getD 0 ≠ 1) ∨ (g 2).getD 10000 < 0 ∨ (g 4).getD 1048576 < 0 ∨ (g 5).getD 32 < 0 ∨ (g 6).getD 1000 < 0

/-- What an option's closure holds in its box. -/
def boxVal (o : Opt) : Value := if o.fd = 1 ∨ o.fd = 3 then .bool (o.n != 0) else .int .i64 o.n

/-- The option as a function value, its box at b. -/
def optVal (o : Opt) (b : Nat) : Value :=
  if o.nl = true then .nilFunc
  else if o.fd = 0 then .func (.func 36) #[] #[.pointer (some ⟨b, 0, none⟩)]
  else if o.fd = 1 then .func (.func 37) #[] #[.pointer (some ⟨b, 0, none⟩)]
  else if o.fd = 2 then .func (.func 38) #[] #[.pointer (some ⟨b, 0, none⟩)]
  else if o.fd = 3 then .func (.func 39) #[] #[.pointer (some ⟨b, 0, none⟩)]
  else if o.fd = 4 then .func (.func 40) #[] #[.pointer (some ⟨b, 0, none⟩)]
  else if o.fd = 5 then .func (.func 41) #[] #[.pointer (some ⟨b, 0, none⟩)]
  else if o.fd = 6 then .func (.func 42) #[] #[.pointer (some ⟨b, 0, none⟩)]
  else if o.fd = 7 then .func (.func 43) #[] #[.pointer (some ⟨b, 0, none⟩)]
  else .func (.func 44) #[] #[]

end Go.Proofs.Qxb6615096aFmt
