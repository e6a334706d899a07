/-
  The walk over FnTermFieldRoundTrip, for every F whose text for this format is the numeral between its two ends.
-/
import Derived.Test.Qxb6614965aFmtTerm
import Derived.Test.Qxb6614965aFmtStr
namespace Go.Proofs.Qxb6614965aFmt
open Go.RowKit Go.Extern.Stop Go.Stop Go.Extern Go.Lib

def headL : List UInt8 := [118, 97, 108, 117, 97, 116, 105, 111, 110, 46, 116, 101, 114, 109, 115, 91]

theorem parse_any (k : Int) (t : ByteArray) (w : World) (ht : t.data.toList = itoa k) (h0 : -9223372036854775808 ≤ k) (h1 : k ≤ 9223372036854775807) :
    Calls Tryf.prog 11 #[.string t] w fun e w' => e = .returned (.tuple #[.int .i64 k, .bool true]) ∧ w' = w := by
  by_cases hneg : k < 0
  · obtain ⟨u, rfl⟩ : ∃ u : Nat, k = -(u : Int) := ⟨k.natAbs, by omega⟩
    have e : itoa (-(u : Int)) = 45 :: decDigits u := by unfold itoa; rw [if_pos (by omega)]; simp
    rw [e] at ht
    exact parse_neg u t w ht (by omega) (by omega)
  · obtain ⟨u, rfl⟩ : ∃ u : Nat, k = u := ⟨k.toNat, by omega⟩
    have e : itoa (u : Int) = decDigits u := by unfold itoa; rw [if_neg (by omega)]; simp
    rw [e] at ht
    exact parse_pos u t w ht (by omega)

theorem itoa_len (k : Int) (h0 : -9223372036854775808 ≤ k) (h1 : k ≤ 9223372036854775807) : 1 ≤ (itoa k).length ∧ (itoa k).length ≤ 20 := by
  unfold itoa
  split
  · have := Num.nDigits_le19 k.natAbs (by omega)
    rw [List.length_cons, decDigits_length]; omega
  · have := Num.nDigits_le19 k.toNat (by omega)
    have := nDigits_pos k.toNat
    rw [decDigits_length]; omega

theorem bne_of (c : UInt8) (h : c = 93) : ((c.toNat : Int) != 93) = false := by rw [h]; rfl

set_option maxHeartbeats 400000 in
theorem main_long (k : Int) (fld : ByteArray) (w : World) (hsz : ¬ fld.size ≤ 1048576) :
    Calls Tryf.prog 4 #[.string fld, .int .i64 k] w fun e w' => e = .returned (.bool true) ∧ w' = w := by
  have h1 : (1048576 : Int) < (fld.size : Int) := by omega
  clear hsz
  go_enter Tryf.func4, Tryf.ntmps4
  go_wp2
  go_ret
  exact ⟨rfl, rfl⟩

set_option maxHeartbeats 400000 in
theorem main_top (F : Interp) (k : Int) (fld : ByteArray) (w : World) (hF : F.answers w.tape) (hsz : fld.size ≤ 1048576) (hf : fld.toList.isEmpty = true)
    (h0 : -9223372036854775808 ≤ k) (h1 : k ≤ 9223372036854775807) (htx : (FmtStop.textOf (F "fmt.Sprintf" (reading k) 0)).data.toList = headL ++ itoa k ++ [93]) :
    Calls Tryf.prog 4 #[.string fld, .int .i64 k] w fun e w' => e = .returned (.bool true) ∧ Grown w w' := by
  have HT := hide htx
  clear htx
  go_enter Tryf.func4, Tryf.ntmps4
  go_wp2_with (first | (go_at_call 9; go_in) | (go_at_call 10; go_in))
  refine (term_top F k w.heap.size fld _ (by exact hF) (by simp) (by simp) hf).mono ?_
  rintro e w1 ⟨rfl, rfl⟩
  generalize FmtStop.textOf (F "fmt.Sprintf" (reading k) 0) = s at HT ⊢
  have hl := itoa_len k h0 h1
  have hs := Str.size_eq s headL (itoa k) 93 HT.out
  have hs1 : s.size = 17 + (itoa k).length := by rw [hs]; simp [headL]; omega
  have h2 : 18 ≤ s.size := by omega
  have h3 : s.size ≤ 100 := by omega
  have hA : (s.extract 0 16).toList = [118, 97, 108, 117, 97, 116, 105, 111, 110, 46, 116, 101, 114, 109, 115, 91] := by
    rw [Str.head_list s ⟨headL.toArray⟩ (itoa k) 93 HT.out 16 rfl]; rfl
  have hB : ∀ h : s.size - 1 < s.size, ((s[s.size - 1].toNat : Int) != 93) = false := fun h => bne_of _ (Str.last_eq s headL (itoa k) 93 HT.out h)
  have hC := Str.mid_eq s headL (itoa k) 93 HT.out 16 rfl
  have HC := hide hC
  have hB' := hB (by omega)
  clear hC hB hs hs1 hl HT
  go_wp2_with fail
  refine (parse_any k _ _ HC.out h0 h1).mono ?_
  rintro e w1 ⟨rfl, rfl⟩
  have hk : (k == k) = true := by simp
  go_wp2
  go_ret
  exact ⟨rfl, by repeat (first | exact Grown.refl _ | apply Grown.drew | apply Grown.alloc)⟩

set_option maxHeartbeats 400000 in
theorem main_dot (F : Interp) (k : Int) (fld : ByteArray) (w : World) (hF : F.answers w.tape) (hsz : fld.size ≤ 1048576) (hf : fld.toList.isEmpty = false)
    (h0 : -9223372036854775808 ≤ k) (h1 : k ≤ 9223372036854775807) (htx : (FmtStop.textOf (F "fmt.Sprintf" (reading k) 0)).data.toList = headL ++ itoa k ++ [93]) :
    Calls Tryf.prog 4 #[.string fld, .int .i64 k] w fun e w' => e = .returned (.bool true) ∧ Grown w w' := by
  have hl := itoa_len k h0 h1
  have hz : (FmtStop.textOf (F "fmt.Sprintf" (reading k) 0)).size ≤ 100 := by
    rw [Str.size_eq _ headL (itoa k) 93 htx]; simp [headL]; omega
  have hst : (fld ++ ⟨#[46]⟩ ++ FmtStop.textOf (F "fmt.Sprintf" (reading k) 0)).data.toList = (fld ++ ⟨#[46]⟩ ++ ⟨#[118, 97, 108, 117, 97, 116, 105, 111, 110, 46, 116, 101, 114, 109, 115, 91]⟩ : ByteArray).data.toList ++ itoa k ++ [93] := by
    rw [Str.app_list, htx, Str.app_list (fld ++ ⟨#[46]⟩)]; simp [headL]
  have HT := hide hst
  clear htx hst
  go_enter Tryf.func4, Tryf.ntmps4
  go_wp2_with (first | (go_at_call 9; go_in) | (go_at_call 10; go_in))
  refine (term_dot F k w.heap.size fld _ (by exact hF) (by simp) (by simp) hf hsz hz).mono ?_
  rintro e w1 ⟨rfl, rfl⟩
  clear hz
  generalize fld ++ ⟨#[46]⟩ ++ FmtStop.textOf (F "fmt.Sprintf" (reading k) 0) = s at HT ⊢
  have hhd : (fld ++ ⟨#[46]⟩ ++ ⟨#[118, 97, 108, 117, 97, 116, 105, 111, 110, 46, 116, 101, 114, 109, 115, 91]⟩ : ByteArray).size = fld.size + 1 + 16 := by
    rw [Str.size_list, Str.app_list, Str.app_list]; simp
  have hhd' : (fld ++ ⟨#[46]⟩ ++ ⟨#[118, 97, 108, 117, 97, 116, 105, 111, 110, 46, 116, 101, 114, 109, 115, 91]⟩ : ByteArray).data.toList.length = fld.size + 1 + 16 := by
    rw [← Str.size_list]; exact hhd
  have hs := Str.size_eq s _ (itoa k) 93 HT.out
  rw [hhd'] at hs
  have h2 : fld.size + 19 ≤ s.size := by omega
  have h3 : s.size ≤ 1048776 := by omega
  have hA := Str.head_eq s _ (itoa k) 93 HT.out (fld.size + 1 + 16) hhd.symm
  have hB := fun h : s.size - 1 < s.size => bne_of _ (Str.last_eq s _ (itoa k) 93 HT.out h)
  have hC := Str.mid_eq s _ (itoa k) 93 HT.out (fld.size + 1 + 16) hhd'.symm
  have HC := hide hC
  have hlt : s.size - 1 < s.size := by clear hB hs; omega
  have hB' := hB hlt
  clear hC hB hs hl HT hhd hhd'
  go_wp2_with fail
  refine (parse_any k _ _ HC.out h0 h1).mono ?_
  rintro e w1 ⟨rfl, rfl⟩
  have hk : (k == k) = true := by simp
  go_wp2
  go_ret
  exact ⟨rfl, by repeat (first | exact Grown.refl _ | apply Grown.drew | apply Grown.alloc)⟩

theorem main_all (F : Interp) (k : Int) (fld : ByteArray) (w : World) (hF : F.answers w.tape)
    (h0 : -9223372036854775808 ≤ k) (h1 : k ≤ 9223372036854775807) (htx : (FmtStop.textOf (F "fmt.Sprintf" (reading k) 0)).data.toList = headL ++ itoa k ++ [93]) :
    Calls Tryf.prog 4 #[.string fld, .int .i64 k] w fun e w' => e = .returned (.bool true) ∧ Grown w w' := by
  by_cases hsz : fld.size ≤ 1048576
  · cases hf : fld.toList.isEmpty
    · exact main_dot F k fld w hF hsz hf h0 h1 htx
    · exact main_top F k fld w hF hsz hf h0 h1 htx
  · exact (main_long k fld w hsz).mono fun e w' ⟨h, hw⟩ => ⟨h, hw ▸ Grown.refl _⟩

end Go.Proofs.Qxb6614965aFmt
