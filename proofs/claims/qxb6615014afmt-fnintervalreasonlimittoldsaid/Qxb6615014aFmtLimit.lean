/-
  The walk of FnIntervalReasonLimit.
-/
import Derived.Test.Qxb6615014aFmtReason
namespace Go.Proofs.Qxb6615014aFmt
open Go.RowKit Go.Extern.Stop Go.Stop Go.Extern Go.Lib

theorem ext_l' (a b : ByteArray) (n : Nat) (hn : n = a.size) : (a ++ b).extract 0 n = a := by
  apply Str.bytes_ext
  rw [Str.ext_list, Str.app_list, hn, Str.size_list]; simp

theorem ext_r (a b : ByteArray) (n m : Nat) (hn : n = a.size) (hm : m = a.size + b.size) : (a ++ b).extract n m = b := by
  apply Str.bytes_ext
  rw [Str.ext_list, Str.app_list, hn, hm, Str.size_list, Str.size_list]
  simp [List.take_of_length_le]

set_option maxHeartbeats 800000 in
theorem limit_ok (F : Interp) (g T : ByteArray) (u : Nat) (w : World) (h : g.size ≤ 1048576) (hF : F.answers w.tape) (hT : T.size = 74)
    (hr : FmtStop.textOf (F "fmt.Sprintf" (reading g.data.toList) 0) = g ++ T)
    (hb : ∀ (k : Nat) (h : k + 64 < T.size), 48 ≤ (T[k + 64].toNat : Int) ∧ (T[k + 64].toNat : Int) ≤ 57 ∧ (Num.pv u k : Int) * 10 + ((T[k + 64].toNat : Int) - 48) = (Num.pv u (k + 1) : Nat))
    (hsp : ∀ h : 63 < T.size, ((T[63].toNat : Int)) = 32) (hld : ∀ h : 64 < T.size, ((T[64].toNat : Int) == 48) = false)
    (hu : u = 9223372036) (hfull : Num.pv u 10 = u) :
    Calls Tryf.prog 4 #[.string g] w fun e w' => e = .returned (.bool true) ∧ Grown w w' := by
  have HR := hide hr
  have HB := hide hb
  have HSP := hide hsp
  have HLD := hide hld
  have HU := hide hu
  have HF := hide hfull
  have hle : ∀ k, Num.pv u k ≤ 9223372036 := fun k => by have := Num.pv_le u k; omega
  have HL := hide hle
  have hp0 : Hid (Num.pv u 0 = 0) := Num.pv_zero u
  clear hr hb hsp hld hu hfull hle
  go_enter Tryf.func4, Tryf.ntmps4
  go_wp2_with (first | (go_at_call 7; go_in))
  refine (reason_any F g _ (by exact hF)).mono ?_
  rintro e w1 ⟨rfl, rfl⟩
  rw [HR.out]
  have he := ext_l' g T g.size rfl
  have he2 := ext_r g T g.size (g.size + 74) rfl (by rw [hT])
  go_wp2
  clear he he2
  go_loop [5] (fun i => ∃ k : Nat, k ≤ 10 ∧ i = .int .i64 (k + 64)) (fun i => (intOf i).toNat)
  case atStart => exact ⟨10, by omega, rfl⟩
  case round =>
    obtain ⟨k, hk, rfl⟩ := hrel
    by_cases hk0 : k = 0
    · subst hk0
      have hs := HSP.out (by omega)
      have hl := HLD.out (by omega)
      go_wp2
      all_goals
        go_loop [7, 8] (fun n j => ∃ k : Nat, k ≤ 10 ∧ j = .int .i64 (k + 64) ∧ n = .int .u64 (Num.pv u k)) (fun _ j => (74 - intOf j).toNat)
        case atStart => exact ⟨0, by omega, rfl, by rw [hp0.out]; rfl⟩
        case round =>
          obtain ⟨k, hk, rfl, rfl⟩ := hrel
          by_cases hlt : k < 10
          · have hr := HB.out k (by omega)
            have hl2 := HL.out (k + 1)
            have hr1 := hr.1
            have hr2 := hr.2.1
            have hr3 : (Num.pv u k : Int) * 10 + ((T[k + 64].toNat : Int) - 48) ≤ 9223372036 := by rw [hr.2.2]; omega
            have HE := hide hr.2.2
            clear hr hl2
            go_wp2
            go_round
            case rel => exact ⟨k + 1, by omega, by go_num, by rw [← HE.out]⟩
            case measure => simp [intOf]; omega
          · obtain rfl : k = 10 := by omega
            have hx : (Num.pv u 10 : Int) ≤ 9223372036 := by rw [HF.out, HU.out]; omega
            have hx2 : (9223372036 : Int) < (Num.pv u 10 : Int) + 1 := by rw [HF.out, HU.out]; omega
            go_wp2
            go_ret
            exact ⟨rfl, by repeat (first | exact Grown.refl _ | apply Grown.drew | apply Grown.alloc)⟩
    · obtain ⟨m, rfl⟩ : ∃ m, k = m + 1 := ⟨k - 1, by omega⟩
      have hr := HB.out m (by omega)
      have hr1 := hr.1
      have hr2 := hr.2.1
      clear hr
      go_wp2
      go_round
      case rel => exact ⟨m, by omega, by go_num⟩
      case measure => simp [intOf]; omega
end Go.Proofs.Qxb6615014aFmt
