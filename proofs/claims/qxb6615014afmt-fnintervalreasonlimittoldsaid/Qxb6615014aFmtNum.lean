/-
  The plain law on decimal numerals that FnIntervalReasonLimit leans on: no Go here. 'pv u i': the number that the first i digits of u's numeral spell.
-/
import Derived.Lib.ItoaNum
namespace Go.Proofs.Qxb6615014aFmt.Num
open Go.Lib

def pv (u i : Nat) : Nat := u / 10 ^ (nDigits u - i)

theorem pv_zero (u : Nat) : pv u 0 = 0 := by
  unfold pv
  exact Nat.div_eq_of_lt (by simpa using lt_pow_nDigits u)

theorem pv_full (u : Nat) : pv u (nDigits u) = u := by
  unfold pv
  simp

theorem pv_le (u i : Nat) : pv u i ≤ u := Nat.div_le_self _ _

theorem pv_succ (u i : Nat) (h : i < nDigits u) : pv u (i + 1) = pv u i * 10 + pv u (i + 1) % 10 := by
  unfold pv
  obtain ⟨m, hm⟩ : ∃ m, nDigits u - (i + 1) = m := ⟨_, rfl⟩
  rw [hm, show nDigits u - i = m + 1 by omega, Nat.pow_succ, ← Nat.div_div_eq_div_mul]
  omega

theorem digit (u i : Nat) (h : i < (decDigits u).length) : ((decDigits u)[i]).toNat = 48 + pv u (i + 1) % 10 := by
  have hl : i < nDigits u := by rw [← decDigits_length]; exact h
  have he : (decDigits u)[i]? = some (dg u (nDigits u - 1 - i)) := by
    rw [decDigits_eq]
    simp [hl]
  have hg : (decDigits u)[i] = dg u (nDigits u - 1 - i) := by
    rw [List.getElem?_eq_getElem h] at he
    exact Option.some.inj he
  rw [hg]
  unfold dg pv
  rw [show nDigits u - (i + 1) = nDigits u - 1 - i by omega, UInt8.toNat_ofNat']
  have := Nat.mod_lt (u / 10 ^ (nDigits u - 1 - i)) (show 0 < 10 by decide)
  exact Nat.mod_eq_of_lt (by omega)

theorem pow_le (u : Nat) (h : ¬ u < 10) : 10 ^ (nDigits u - 1) ≤ u := by
  induction u using Nat.strongRecOn with
  | _ u ih =>
    rw [nDigits_big h, Nat.add_sub_cancel]
    by_cases h2 : u / 10 < 10
    · rw [nDigits_small h2]; omega
    · have := ih (u / 10) (by omega) h2
      have hp := nDigits_pos (u / 10)
      rw [show nDigits (u / 10) = (nDigits (u / 10) - 1) + 1 by omega, Nat.pow_succ]
      omega

theorem lead (u : Nat) (h : 1 < nDigits u) : 1 ≤ pv u 1 := by
  have h10 : ¬ u < 10 := fun hs => by rw [nDigits_small hs] at h; omega
  unfold pv
  exact (Nat.le_div_iff_mul_le (Nat.pow_pos (by decide))).2 (by simpa using pow_le u h10)

theorem lead_digit (u : Nat) (h : 1 < nDigits u) (h0 : 0 < (decDigits u).length) : ((decDigits u)[0]).toNat ≠ 48 := by
  have h1 := lead u h
  have hs := pv_succ u 0 (by omega)
  rw [pv_zero] at hs
  rw [digit u 0 h0]
  simp only [Nat.zero_add] at hs ⊢
  omega

theorem nDigits_le (k u : Nat) (hk : 1 ≤ k) (h : u < 10 ^ k) : nDigits u ≤ k := by
  induction k generalizing u with
  | zero => omega
  | succ k ih =>
    by_cases hs : u < 10
    · rw [nDigits_small hs]; omega
    · rw [nDigits_big hs]
      rcases Nat.eq_zero_or_pos k with rfl | hk
      · simp at h; omega
      · have := ih (u / 10) hk (by rw [Nat.pow_succ] at h; omega)
        omega

theorem nDigits_le19 (u : Nat) (h : u ≤ 9223372036854775808) : nDigits u ≤ 19 :=
  nDigits_le 19 u (by decide) (by omega)

end Go.Proofs.Qxb6615014aFmt.Num
