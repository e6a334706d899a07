import Derived.Test.Qxb6614965aFmtFacts
import Derived.Test.Qxb6614965aFmtNum
import Derived.WalkKit
import Derived.WalkSpells
import Derived.WalkLawsBesides
namespace Go.Proofs.Qxb6614965aFmt
open Go.RowKit Go.Extern.Stop Go.Stop Go.Extern Go.Lib

theorem hide {p : Prop} (h : p) : Hid p := h

theorem ret_pair {k : IntKind} {a b : Int} (c : Bool) (h : a = b) : Ending.returned (.tuple #[.int k a, .bool c]) = .returned (.tuple #[.int k b, .bool c]) := by rw [h]

theorem size_of (pre : List UInt8) (u : Nat) (t : ByteArray) (ht : t.data.toList = pre ++ decDigits u) : t.size = pre.length + nDigits u := by
  have h := congrArg List.length ht
  rw [List.length_append, decDigits_length] at h
  simpa using h

theorem byte_of (pre : List UInt8) (u : Nat) (t : ByteArray) (ht : t.data.toList = pre ++ decDigits u) (k : Nat) (hk : k < nDigits u) (h : pre.length + k < t.size) :
    t[pre.length + k].toNat = 48 + Num.pv u (k + 1) % 10 := by
  have h1 : t[pre.length + k] = t.data.toList[pre.length + k]'(by simpa using h) := by simp; rfl
  have h2 : t.data.toList[pre.length + k]? = (decDigits u)[k]? := by rw [ht, List.getElem?_append_right (by omega)]; simp
  have hk' : k < (decDigits u).length := by rw [decDigits_length]; exact hk
  rw [List.getElem?_eq_getElem (by simpa using h), List.getElem?_eq_getElem hk'] at h2
  rw [h1, Option.some.inj h2]
  exact Num.digit u k hk'

theorem round_of (u k : Nat) (c : UInt8) (hk : k < nDigits u) (hc : c.toNat = 48 + Num.pv u (k + 1) % 10) :
    48 ≤ (c.toNat : Int) ∧ (c.toNat : Int) ≤ 57 ∧ (Num.pv u k : Int) * 10 + ((c.toNat : Int) - 48) = (Num.pv u (k + 1) : Nat) := by
  have h1 := Num.pv_succ u k hk
  omega

theorem neg_wrap (u : Nat) (hu : u ≤ 9223372036854775808) : wrap64 (IntKind.u64.wrap (-(u : Int))) = -(u : Int) := by
  have h : IntKind.u64.wrap (-(u : Int)) = (-(u : Int)) % 18446744073709551616 := by simp [IntKind.wrap, IntKind.bits, IntKind.signed]
  rw [h]
  unfold wrap64
  omega

set_option maxHeartbeats 400000 in
theorem parse_pos (u : Nat) (t : ByteArray) (w : World) (ht : t.data.toList = decDigits u) (hu : u ≤ 9223372036854775807) :
    Calls Tryf.prog 11 #[.string t] w fun e w' => e = .returned (.tuple #[.int .i64 u, .bool true]) ∧ w' = w := by
  have hs : t.size = nDigits u := by simpa using size_of [] u t (by simpa using ht)
  have hn0 := nDigits_pos u
  have hn1 := Num.nDigits_le19 u (by omega)
  have hb : ∀ (k : Nat) (h : k < t.size), 48 ≤ (t[k].toNat : Int) ∧ (t[k].toNat : Int) ≤ 57 ∧ (Num.pv u k : Int) * 10 + ((t[k].toNat : Int) - 48) = (Num.pv u (k + 1) : Nat) := fun k h => by
    have := byte_of [] u t (by simpa using ht) k (by omega) (by simpa using h)
    exact round_of u k t[k] (by omega) (by simpa using this)
  have hlead : 1 < t.size → ∀ h : 0 < t.size, (t[0].toNat : Int) ≠ 48 := fun h1 h => by
    have hk' : 0 < (decDigits u).length := by rw [decDigits_length]; omega
    have h3 := Num.lead_digit u (by omega) hk'
    have h4 := byte_of [] u t (by simpa using ht) 0 (by omega) (by simpa using h)
    rw [Num.digit u 0 hk'] at h3
    simp only [List.length_nil, Nat.add_zero, Nat.zero_add] at h3 h4
    omega
  have hfull : Num.pv u t.size = u := by rw [hs]; exact Num.pv_full u
  have h0 : 0 < t.size := by omega
  have h19 : t.size ≤ 19 := by omega
  have HB := hide hb
  have HF := hide hfull
  have hz := hb 0 h0
  have hz1 : 48 ≤ (t[0].toNat : Int) := hz.1
  have hp0 : Num.pv u 0 = 0 := Num.pv_zero u
  have HP := hide hp0
  have hle : ∀ k, Num.pv u k ≤ u := Num.pv_le u
  have HL := hide hle
  clear hz hb hfull hs hn0 hn1 ht hp0 hle
  have h0b : ((0 : Int) == (t.size : Int)) = false := by rw [beq_eq_false_iff_ne]; omega
  have hend : ∀ k, k ≤ t.size → ¬ k < t.size → ((Num.pv u k : Nat) : Int) = u := fun k h1 h2 => by
    rw [show k = t.size by omega, HF.out]
  have HEND := hide hend
  clear hend HF
  have hq : ((t[0].toNat : Int) == 48) = false ∨ (((t[0].toNat : Int) == 48) = true ∧ t.size ≤ 1) := by
    by_cases hq : (t[0].toNat : Int) = 48
    · refine .inr ⟨by rw [beq_iff_eq]; exact hq, ?_⟩
      by_cases h1 : 1 < t.size
      · exact absurd hq (hlead h1 h0)
      · omega
    · exact .inl (by rw [beq_eq_false_iff_ne]; exact hq)
  clear hlead
  rcases hq with hq | ⟨hq, h1⟩
  all_goals
    go_enter Tryf.func11, Tryf.ntmps11
    go_wp2
    go_loop [5, 6] (fun i v => ∃ k : Nat, k ≤ t.size ∧ i = .int .i64 k ∧ v = .int .u64 (Num.pv u k)) (fun i _ => t.size - (intOf i).toNat)
    case atStart => exact ⟨0, Nat.zero_le _, rfl, by rw [HP.out]; rfl⟩
    case round =>
      obtain ⟨k, hk, rfl, rfl⟩ := hrel
      by_cases hlt : k < t.size
      · have hr := HB.out k hlt
        have hl := HL.out (k + 1)
        have hd1 := hr.1
        have hd2 := hr.2.1
        have hd3 : (Num.pv u k : Int) * 10 + ((t[k].toNat : Int) - 48) ≤ 9223372036854775807 := by rw [hr.2.2]; omega
        have HE := hide hr.2.2
        clear hr hl
        go_wp2
        go_round
        case rel => exact ⟨_, _, .int .i64 (k + 1), _, ⟨k + 1, hlt, by go_num, by rw [← HE.out]⟩, rfl, rfl, rfl, rfl⟩
        case measure => simp [intOf]; omega
      · have hl := HL.out k
        go_wp2
        go_ret2
        exact ⟨ret_pair true (HEND.out k hk hlt), rfl⟩

set_option maxHeartbeats 400000 in
theorem parse_neg (u : Nat) (t : ByteArray) (w : World) (ht : t.data.toList = 45 :: decDigits u) (hu1 : 1 ≤ u) (hu : u ≤ 9223372036854775808) :
    Calls Tryf.prog 11 #[.string t] w fun e w' => e = .returned (.tuple #[.int .i64 (-(u : Int)), .bool true]) ∧ w' = w := by
  have hs : t.size = nDigits u + 1 := by have := size_of [45] u t (by simpa using ht); simp at this; omega
  have hn0 := nDigits_pos u
  have hn1 := Num.nDigits_le19 u (by omega)
  have hb : ∀ (k : Nat) (h : k + 1 < t.size), 48 ≤ (t[k + 1].toNat : Int) ∧ (t[k + 1].toNat : Int) ≤ 57 ∧ (Num.pv u k : Int) * 10 + ((t[k + 1].toNat : Int) - 48) = (Num.pv u (k + 1) : Nat) := fun k h => by
    have := byte_of [45] u t (by simpa using ht) k (by omega) (by simp; omega)
    simp only [List.length_cons, List.length_nil, Nat.zero_add, Nat.add_comm 1 k] at this
    exact round_of u k t[k + 1] (by omega) this
  have hlead : 2 < t.size → ∀ h : 1 < t.size, (t[1].toNat : Int) ≠ 48 := fun h1 h => by
    have hk' : 0 < (decDigits u).length := by rw [decDigits_length]; omega
    have h3 := Num.lead_digit u (by omega) hk'
    have h4 := byte_of [45] u t (by simpa using ht) 0 (by omega) (by simp; omega)
    rw [Num.digit u 0 hk'] at h3
    simp only [List.length_cons, List.length_nil, Nat.add_zero, Nat.zero_add] at h3 h4
    omega
  have hfull : Num.pv u (t.size - 1) = u := by rw [hs, Nat.add_sub_cancel]; exact Num.pv_full u
  have h0 : 1 < t.size := by omega
  have h19 : t.size ≤ 20 := by omega
  have HB := hide hb
  have h00 : 0 < t.size := by omega
  have hm : ((t[0].toNat : Int) == 45) = true := by
    have h1 : t[0] = t.data.toList[0]'(by simpa using h00) := by simp; rfl
    have h2 : t.data.toList[0]? = some 45 := by rw [ht]; rfl
    rw [List.getElem?_eq_getElem (by simpa using h00)] at h2
    rw [h1, Option.some.inj h2]; rfl
  have hz := hb 0 h0
  have hz1 : 48 ≤ (t[1].toNat : Int) := hz.1
  have hp0 : Num.pv u 0 = 0 := Num.pv_zero u
  have HP := hide hp0
  have hle : ∀ k, Num.pv u k ≤ u := Num.pv_le u
  have HL := hide hle
  have h0b : ((1 : Int) == (t.size : Int)) = false := by rw [beq_eq_false_iff_ne]; omega
  have hend : ∀ k, k + 1 ≤ t.size → ¬ k + 1 < t.size → Num.pv u k = u := fun k h1 h2 => by
    rw [show k = t.size - 1 by omega, hfull]
  have HEND := hide hend
  clear hz hb hfull hs hn0 hn1 ht hp0 hle hend
  have hq : ((t[1].toNat : Int) == 48) = false ∨ (((t[1].toNat : Int) == 48) = true ∧ t.size ≤ 2) := by
    by_cases hq : (t[1].toNat : Int) = 48
    · refine .inr ⟨by rw [beq_iff_eq]; exact hq, ?_⟩
      by_cases h1 : 2 < t.size
      · exact absurd hq (hlead h1 h0)
      · omega
    · exact .inl (by rw [beq_eq_false_iff_ne]; exact hq)
  clear hlead
  rcases hq with hq | ⟨hq, h1⟩
  all_goals
    go_enter Tryf.func11, Tryf.ntmps11
    go_wp2
    go_loop [5, 6] (fun i v => ∃ k : Nat, k + 1 ≤ t.size ∧ i = .int .i64 (k + 1) ∧ v = .int .u64 (Num.pv u k)) (fun i _ => t.size - (intOf i).toNat)
    case atStart => exact ⟨0, by omega, rfl, by rw [HP.out]; rfl⟩
    case round =>
      obtain ⟨k, hk, rfl, rfl⟩ := hrel
      by_cases hlt : k + 1 < t.size
      · have hr := HB.out k hlt
        have hl := HL.out (k + 1)
        have hd1 := hr.1
        have hd2 := hr.2.1
        have hd3 : (Num.pv u k : Int) * 10 + ((t[k + 1].toNat : Int) - 48) ≤ 9223372036854775808 := by rw [hr.2.2]; omega
        have HE := hide hr.2.2
        clear hr hl
        go_wp2
        go_round
        case rel => exact ⟨k + 1, hlt, by go_num, by rw [← HE.out]⟩
        case measure => simp [intOf]; omega
      · have hl := HL.out k
        have he : Hid (Num.pv u k = u) := HEND.out k hk hlt
        have he1 : 1 ≤ Num.pv u k := by rw [he.out]; exact hu1
        have heb : (((Num.pv u k : Nat) : Int) == 0) = false := by rw [beq_eq_false_iff_ne]; omega
        go_wp2
        go_ret2
        exact ⟨ret_pair true (by rw [he.out]; exact neg_wrap u hu), rfl⟩
end Go.Proofs.Qxb6614965aFmt
