/-
  The told card of FnIntervalReasonLimit, after the guide's LabelTold.lean and HexbadSeven.lean.
-/
import Derived.Test.Qxb6615014aFmtText
import Derived.Test.Qxb6615014aFmtLimit
namespace Go.Proofs.Qxb6615014aFmt
open Go.ChangeShapes Go.WideShapes Go.ChangeAt Go.RowKit Go.Kit
open Go.ChangeMaps (open_string shut_string)
open Go.Extern.Stop Go.Stop Go.Extern

theorem byte_of (pre : List UInt8) (u : Nat) (t : ByteArray) (ht : t.data.toList = pre ++ Lib.decDigits u) (k : Nat) (hk : k < Lib.nDigits u) (n : Nat) (hn : n = pre.length + k) (h : n < t.size) :
    t[n].toNat = 48 + Num.pv u (k + 1) % 10 := by
  have h2 : t.data.toList[n]? = (Lib.decDigits u)[k]? := by rw [ht, hn, List.getElem?_append_right (by omega)]; simp
  have hk' : k < (Lib.decDigits u).length := by rw [Lib.decDigits_length]; exact hk
  rw [List.getElem?_eq_getElem (by simpa using h), List.getElem?_eq_getElem hk'] at h2
  rw [Str.get_list t n h, Option.some.inj h2]
  exact Num.digit u k hk'

theorem round_of (u k : Nat) (c : UInt8) (hk : k < Lib.nDigits u) (hc : c.toNat = 48 + Num.pv u (k + 1) % 10) :
    48 ≤ (c.toNat : Int) ∧ (c.toNat : Int) ≤ 57 ∧ (Num.pv u k : Int) * 10 + ((c.toNat : Int) - 48) = (Num.pv u (k + 1) : Nat) := by
  have h1 := Num.pv_succ u k hk
  omega

theorem nd : Lib.nDigits 9223372036 = 10 := Lib.nDigits_unique 9 9223372036 (by decide) (by decide)

theorem tail_list : (⟨tailL.toArray⟩ : ByteArray).data.toList = midL ++ Lib.decDigits 9223372036 := rfl

theorem tail_size : (⟨tailL.toArray⟩ : ByteArray).size = 74 := by
  rw [Str.size_list]
  exact tail_len.trans (by rw [nd])

theorem mid_last : midL[63]? = some 32 := by decide

theorem sp_of (t : ByteArray) (l : List UInt8) (ht : t.data.toList = midL ++ l) (h : 63 < t.size) : (t[63].toNat : Int) = 32 := by
  have h2 : t.data.toList[63]? = some 32 := by
    rw [ht, List.getElem?_append_left (by decide)]; exact mid_last
  rw [List.getElem?_eq_getElem (by simpa using h)] at h2
  rw [Str.get_list t 63 h, Option.some.inj h2]
  rfl

theorem lead_of (t : ByteArray) (u : Nat) (ht : t.data.toList = midL ++ Lib.decDigits u) (hn : 1 < Lib.nDigits u) (h : 64 < t.size) : ((t[64].toNat : Int) == 48) = false := by
  have h1 := byte_of midL u t ht 0 (by omega) 64 rfl h
  have hk' : 0 < (Lib.decDigits u).length := by rw [Lib.decDigits_length]; omega
  have h3 := Num.lead_digit u hn hk'
  rw [Num.digit u 0 hk'] at h3
  rw [beq_eq_false_iff_ne]
  omega

set_option maxHeartbeats 400000 in
theorem limit_long (g : ByteArray) (w : World) (h : ¬ g.size ≤ 1048576) :
    Calls Tryf.prog 4 #[.string g] w fun e w' => e = .returned (.bool true) ∧ w' = w := by
  have h1 : (1048576 : Int) < (g.size : Int) := by omega
  clear h
  go_enter Tryf.func4, Tryf.ntmps4
  go_wp2
  go_ret
  exact ⟨rfl, rfl⟩

theorem limit_all (F : Interp) (g : ByteArray) (w : World) (hF : F.told.answers w.tape) :
    Calls Tryf.prog 4 #[.string g] w fun e w' => e = .returned (.bool true) ∧ Grown w w' := by
  by_cases h : g.size ≤ 1048576
  · exact limit_ok F.told g ⟨tailL.toArray⟩ 9223372036 w h hF tail_size (text_is F g h)
      (fun k hk => round_of 9223372036 k _ (by rw [tail_size] at hk; rw [nd]; omega) (byte_of midL 9223372036 _ tail_list k (by rw [tail_size] at hk; rw [nd]; omega) (k + 64) (Nat.add_comm k 64) hk))
      (sp_of _ _ tail_list) (lead_of _ _ tail_list (by rw [nd]; decide)) rfl (by have := Num.pv_full 9223372036; rw [nd] at this; exact this)
  · exact (limit_long g w h).mono fun e w' ⟨h, hw⟩ => ⟨h, hw ▸ Grown.refl _⟩

set_option maxRecDepth 100000 in
theorem limit_lifted (os : Os) (started : os.Started) (H : Type) (enc : TypeId × Value → H) :
    ReturnsInTold none {} Tryf.checked os 4 .any Input.okWide ((OpenSpec.ofChange Rows.fnIntervalReasonLimitSpec).preRow enc Tryf.prog Tryf.f4 [] false []) (fun F => ((OpenSpec.ofChange Rows.fnIntervalReasonLimitSpec).at F).post enc Tryf.prog Tryf.f4 false true false false) (aloneAtReturn Tryf.prog) nothingAlways := by
  refine returnsInTold_of_row (C := Tryf.checked) (s := OpenSpec.ofChange Rows.fnIntervalReasonLimitSpec) (by kernel_rfl) own started (by kernel_rfl) Tryf.func4
    (OpenSpec.witness_stopped (enc := enc) (C := Tryf.checked) false ⟨#[], #[.string ⟨#[]⟩], []⟩ 8 (by kernel_rfl) (by kernel_rfl) (by kernel_rfl) (by kernel_rfl)) ?_
  intro F W base args ds gs before _ hF hval0 hW _ _ hsz _ _
  have hval : ∀ (j : Nat) t v, Tryf.f4.params[j]? = some t → args[j]? = some v → Value.okWide Tryf.prog W .any base t v := hval0
  have hW' := hW
  obtain ⟨p, q, hA0, hV, rfl, hfz, hnd⟩ := hW
  have hA : DataW.TrodAll enc Tryf.prog W 0 (fun _ => true) true Tryf.f4.params.toList args.toList ds p := hA0
  rw [Tryf.params4] at hA hval
  obtain ⟨v0, d0, rfl, rfl, h0⟩ := trodAll_one hA
  obtain ⟨rfl, rfl⟩ := trodVars_none hV
  obtain ⟨a, rfl, rfl, rfl, wa⟩ := open_string Tryf.underlying9 (hval 0 9 v0 rfl rfl) h0
  clear hA0 hval0
  refine (limit_all F a W hF).mono fun e W' ⟨he, hg⟩ => ?_
  subst he
  refine ⟨_, rfl, _, _, _, [], [], [], hW', trodAll_mk1 (shut_bool Tryf.underlying4 _), trodAll_mk1 (shut_string Tryf.underlying9 wa), rfl, hg.frame _, fun h => by cases h⟩

theorem interval_limit : Rows.FnIntervalReasonLimitToldSaid :=
  Claim7.holds_of_told_any 4 Tryf.f4 "fmt.Sprintf" [] [] _ _ _ (by kernel_rfl) rfl rfl rfl laidOut (by kernel_rfl) rfl ⟨rfl, rfl, rfl, rfl, rfl, rfl, rfl⟩ rfl rfl (by kernel_rfl) (by kernel_rfl) Tryf.func4 (by kernel_rfl)
    (of_decide_eq_true (by kernel_rfl)) (of_decide_eq_true (by kernel_rfl)) stops.symm rfl stopKnobs.symm (by kernel_rfl)
    (by kernel_rfl) (by kernel_rfl) (by kernel_rfl) (by kernel_rfl) (by kernel_rfl) (by kernel_rfl) (by kernel_rfl) (by kernel_rfl) (by kernel_rfl) rfl (by kernel_rfl) rfl rfl
    rfl rfl
    rfl (by kernel_rfl) (by kernel_rfl) (by kernel_rfl) (by decide) (by kernel_rfl)
    (OpenClaim.moreEntering_of (by kernel_rfl) (by kernel_rfl) (by kernel_rfl) (by kernel_rfl) (by kernel_rfl) (by kernel_rfl) (by kernel_rfl) (by kernel_rfl) (by kernel_rfl) (by kernel_rfl))
    ⟨_, WideRow.started_initial, quiet _⟩
    (fun os started _ H enc _ => limit_lifted os started H enc)

#print axioms interval_limit
end Go.Proofs.Qxb6615014aFmt
