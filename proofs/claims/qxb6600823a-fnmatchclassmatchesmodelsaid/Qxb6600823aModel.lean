/-
  zzModelClass_b1, letter by letter.
-/
import Derived.Test.Qxb6600823aInSet
namespace Go.Proofs.Qxb6600823a
open Go.RowKit
set_option linter.unusedVariables false

theorem alpha_eq (c : Int) : alphaB c = (lowB c || uppB c) := by
  rw [Bool.eq_iff_iff]; simp [alphaB, lowB, uppB]
theorem alnum_eq (c : Int) : alnumB c = ((lowB c || uppB c) || digB c) := by
  rw [Bool.eq_iff_iff]; simp [alnumB, lowB, uppB, digB]; omega
theorem hex_eq (c : Int) : hexB c = (digB c || hexLB c) := by
  rw [Bool.eq_iff_iff]; simp [hexB, hexLB, digB]
theorem ctl_eq (c : Int) (h0 : 0 ≤ c) : ctlB c = (decide (c < 128) && (c != 32) && !punB c && !alnumB c) := by
  rw [Bool.eq_iff_iff]; simp [ctlB, punB, alnumB]; omega

set_option maxHeartbeats 400000 in
theorem model_d (c : Int) (h0 : 0 ≤ c) (h255 : c ≤ 255) (w : World) :
    Calls Try.prog 20 #[.int .u8 c, .int .u8 100] w fun e w' => e = .returned (.bool (digB c)) ∧ w' = w := by
  have e1 := set_dec c h0 h255
  go_enter Try.func20, Try.ntmps20
  go_wp2_with (first | (go_at_call 27; refine (inSet_any _ _ (by decide) _).mono ?_; rintro e w' ⟨rfl, hw⟩; obtain rfl := hw.symm))
  go_ret
  exact ⟨rfl, rfl⟩
set_option maxHeartbeats 400000 in
theorem model_l (c : Int) (h0 : 0 ≤ c) (h255 : c ≤ 255) (w : World) :
    Calls Try.prog 20 #[.int .u8 c, .int .u8 108] w fun e w' => e = .returned (.bool (lowB c)) ∧ w' = w := by
  have e1 := set_low c h0 h255
  go_enter Try.func20, Try.ntmps20
  go_wp2_with (first | (go_at_call 27; refine (inSet_any _ _ (by decide) _).mono ?_; rintro e w' ⟨rfl, hw⟩; obtain rfl := hw.symm))
  go_ret
  exact ⟨rfl, rfl⟩
set_option maxHeartbeats 400000 in
theorem model_u (c : Int) (h0 : 0 ≤ c) (h255 : c ≤ 255) (w : World) :
    Calls Try.prog 20 #[.int .u8 c, .int .u8 117] w fun e w' => e = .returned (.bool (uppB c)) ∧ w' = w := by
  have e1 := set_upp c h0 h255
  go_enter Try.func20, Try.ntmps20
  go_wp2_with (first | (go_at_call 27; refine (inSet_any _ _ (by decide) _).mono ?_; rintro e w' ⟨rfl, hw⟩; obtain rfl := hw.symm))
  go_ret
  exact ⟨rfl, rfl⟩
set_option maxHeartbeats 400000 in
theorem model_s (c : Int) (h0 : 0 ≤ c) (h255 : c ≤ 255) (w : World) :
    Calls Try.prog 20 #[.int .u8 c, .int .u8 115] w fun e w' => e = .returned (.bool (spcB c)) ∧ w' = w := by
  have e1 := set_spc c h0 h255
  go_enter Try.func20, Try.ntmps20
  go_wp2_with (first | (go_at_call 27; refine (inSet_any _ _ (by decide) _).mono ?_; rintro e w' ⟨rfl, hw⟩; obtain rfl := hw.symm))
  go_ret
  exact ⟨rfl, rfl⟩
set_option maxHeartbeats 400000 in
theorem model_p (c : Int) (h0 : 0 ≤ c) (h255 : c ≤ 255) (w : World) :
    Calls Try.prog 20 #[.int .u8 c, .int .u8 112] w fun e w' => e = .returned (.bool (punB c)) ∧ w' = w := by
  have e1 := set_pun c h0 h255
  go_enter Try.func20, Try.ntmps20
  go_wp2_with (first | (go_at_call 27; refine (inSet_any _ _ (by decide) _).mono ?_; rintro e w' ⟨rfl, hw⟩; obtain rfl := hw.symm))
  go_ret
  exact ⟨rfl, rfl⟩
set_option maxHeartbeats 800000 in
theorem model_a (c : Int) (h0 : 0 ≤ c) (h255 : c ≤ 255) (w : World) :
    Calls Try.prog 20 #[.int .u8 c, .int .u8 97] w fun e w' => e = .returned (.bool (alphaB c)) ∧ w' = w := by
  have s0 := set_low c h0 h255
  have s1 := set_upp c h0 h255
  have E : Hid (alphaB c = (lowB c || uppB c)) := alpha_eq c
  (cases k0 : lowB c) <;> (cases k1 : uppB c)
  all_goals
    rw [k0] at s0
    rw [k1] at s1
    have E2 := E.out
    rw [k0, k1] at E2
    have E3 : Hid (alphaB c = _) := E2
    clear E2 E k0 k1
    go_enter Try.func20, Try.ntmps20
    go_wp2_with (first | (go_at_call 27; refine (inSet_any _ _ (by decide) _).mono ?_; rintro e w' ⟨rfl, hw⟩; obtain rfl := hw.symm))
    go_ret
    exact ⟨ret_bool E3.out.symm, rfl⟩
set_option maxHeartbeats 800000 in
theorem model_w (c : Int) (h0 : 0 ≤ c) (h255 : c ≤ 255) (w : World) :
    Calls Try.prog 20 #[.int .u8 c, .int .u8 119] w fun e w' => e = .returned (.bool (alnumB c)) ∧ w' = w := by
  have s0 := set_low c h0 h255
  have s1 := set_upp c h0 h255
  have s2 := set_dec c h0 h255
  have E : Hid (alnumB c = ((lowB c || uppB c) || digB c)) := alnum_eq c
  (cases k0 : lowB c) <;> (cases k1 : uppB c) <;> (cases k2 : digB c)
  all_goals
    rw [k0] at s0
    rw [k1] at s1
    rw [k2] at s2
    have E2 := E.out
    rw [k0, k1, k2] at E2
    have E3 : Hid (alnumB c = _) := E2
    clear E2 E k0 k1 k2
    go_enter Try.func20, Try.ntmps20
    go_wp2_with (first | (go_at_call 27; refine (inSet_any _ _ (by decide) _).mono ?_; rintro e w' ⟨rfl, hw⟩; obtain rfl := hw.symm))
    go_ret
    exact ⟨ret_bool E3.out.symm, rfl⟩
set_option maxHeartbeats 800000 in
theorem model_x (c : Int) (h0 : 0 ≤ c) (h255 : c ≤ 255) (w : World) :
    Calls Try.prog 20 #[.int .u8 c, .int .u8 120] w fun e w' => e = .returned (.bool (hexB c)) ∧ w' = w := by
  have s0 := set_dec c h0 h255
  have s1 := set_hex c h0 h255
  have E : Hid (hexB c = (digB c || hexLB c)) := hex_eq c
  (cases k0 : digB c) <;> (cases k1 : hexLB c)
  all_goals
    rw [k0] at s0
    rw [k1] at s1
    have E2 := E.out
    rw [k0, k1] at E2
    have E3 : Hid (hexB c = _) := E2
    clear E2 E k0 k1
    go_enter Try.func20, Try.ntmps20
    go_wp2_with (first | (go_at_call 27; refine (inSet_any _ _ (by decide) _).mono ?_; rintro e w' ⟨rfl, hw⟩; obtain rfl := hw.symm))
    go_ret
    exact ⟨ret_bool E3.out.symm, rfl⟩
set_option maxHeartbeats 400000 in
theorem model_z (c : Int) (h0 : 0 ≤ c) (h255 : c ≤ 255) (w : World) :
    Calls Try.prog 20 #[.int .u8 c, .int .u8 122] w fun e w' => e = .returned (.bool (nulB c)) ∧ w' = w := by
  have E : Hid (nulB c = (c == 0)) := (rfl : nulB c = (c == 0))
  go_enter Try.func20, Try.ntmps20
  go_wp2_with fail
  go_ret
  exact ⟨ret_bool E.out.symm, rfl⟩
end Go.Proofs.Qxb6600823a
