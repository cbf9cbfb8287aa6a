/-
  FnDigitValueAgreesWithClasses: the walk.
-/
import Derived.Test.Qxb6600823aMatch
namespace Go.Proofs.Qxb6600823a
open Go.RowKit
set_option linter.unusedVariables false

theorem mcB_d (c : Int) : mcB c 100 = digB c := rfl
theorem mcB_x (c : Int) : mcB c 120 = hexB c := rfl
theorem mcB_w (c : Int) : mcB c 119 = alnumB c := rfl
theorem mcB_l (c : Int) : mcB c 108 = lowB c := rfl

set_option maxHeartbeats 400000 in
theorem agree_0 (c : Int) (h0 : 0 ≤ c) (h255 : c ≤ 255) (h : c ≤ 47) (w : World) :
    Calls Try.prog 7 #[.int .u8 c] w fun e w' => e = .returned (.bool true) ∧ w' = w := by
  have ev : digV c = 99 := by unfold digV; omega
  have ed : mcB c 100 = false := by rw [mcB_d]; exact decide_eq_false (by omega)
  have ex : mcB c 120 = false := by rw [mcB_x]; exact decide_eq_false (by omega)
  have ew : mcB c 119 = false := by rw [mcB_w]; exact decide_eq_false (by omega)
  have el : mcB c 108 = false := by rw [mcB_l]; exact decide_eq_false (by omega)
  go_enter Try.func7, Try.ntmps7
  go_wp2_with (first | (go_at_call 13; refine (zzDigitValue_any _ (by first | assumption | omega) (by first | assumption | omega) _).mono ?_; rintro e w' ⟨rfl, rfl⟩) | (go_at_call 11; refine (zzMatchClass_any _ _ (by decide) (by decide) _).mono ?_; rintro e w' ⟨rfl, rfl⟩))
  go_ret
  exact ⟨rfl, rfl⟩

set_option maxHeartbeats 400000 in
theorem agree_1 (c : Int) (h0 : 0 ≤ c) (h255 : c ≤ 255) (h : 48 ≤ c) (h' : c ≤ 57) (w : World) :
    Calls Try.prog 7 #[.int .u8 c] w fun e w' => e = .returned (.bool true) ∧ w' = w := by
  have ev : digV c = c - 48 := by unfold digV; omega
  have ed : mcB c 100 = true := by rw [mcB_d]; exact decide_eq_true (by omega)
  have ex : mcB c 120 = true := by rw [mcB_x]; exact decide_eq_true (by omega)
  have ew : mcB c 119 = true := by rw [mcB_w]; exact decide_eq_true (by omega)
  have el : mcB c 108 = false := by rw [mcB_l]; exact decide_eq_false (by omega)
  have d0 : decide (c - 48 < 0) = false := decide_eq_false (by omega)
  have d1 : decide (c - 48 < 10) = true := decide_eq_true (by omega)
  have d2 : decide (c - 48 < 16) = true := decide_eq_true (by omega)
  have d3 : (c - 48 != 99) = true := by rw [bne_iff_ne]; omega
  go_enter Try.func7, Try.ntmps7
  go_wp2_with (first | (go_at_call 13; refine (zzDigitValue_any _ (by first | assumption | omega) (by first | assumption | omega) _).mono ?_; rintro e w' ⟨rfl, rfl⟩) | (go_at_call 11; refine (zzMatchClass_any _ _ (by decide) (by decide) _).mono ?_; rintro e w' ⟨rfl, rfl⟩))
  go_ret
  exact ⟨rfl, rfl⟩

set_option maxHeartbeats 400000 in
theorem agree_2 (c : Int) (h0 : 0 ≤ c) (h255 : c ≤ 255) (h : 58 ≤ c) (h' : c ≤ 64) (w : World) :
    Calls Try.prog 7 #[.int .u8 c] w fun e w' => e = .returned (.bool true) ∧ w' = w := by
  have ev : digV c = 99 := by unfold digV; omega
  have ed : mcB c 100 = false := by rw [mcB_d]; exact decide_eq_false (by omega)
  have ex : mcB c 120 = false := by rw [mcB_x]; exact decide_eq_false (by omega)
  have ew : mcB c 119 = false := by rw [mcB_w]; exact decide_eq_false (by omega)
  have el : mcB c 108 = false := by rw [mcB_l]; exact decide_eq_false (by omega)
  go_enter Try.func7, Try.ntmps7
  go_wp2_with (first | (go_at_call 13; refine (zzDigitValue_any _ (by first | assumption | omega) (by first | assumption | omega) _).mono ?_; rintro e w' ⟨rfl, rfl⟩) | (go_at_call 11; refine (zzMatchClass_any _ _ (by decide) (by decide) _).mono ?_; rintro e w' ⟨rfl, rfl⟩))
  go_ret
  exact ⟨rfl, rfl⟩

set_option maxHeartbeats 400000 in
theorem agree_3 (c : Int) (h0 : 0 ≤ c) (h255 : c ≤ 255) (h : 65 ≤ c) (h' : c ≤ 70) (w : World) :
    Calls Try.prog 7 #[.int .u8 c] w fun e w' => e = .returned (.bool true) ∧ w' = w := by
  have ev : digV c = c - 65 + 10 := by unfold digV; omega
  have ed : mcB c 100 = false := by rw [mcB_d]; exact decide_eq_false (by omega)
  have ex : mcB c 120 = true := by rw [mcB_x]; exact decide_eq_true (by omega)
  have ew : mcB c 119 = true := by rw [mcB_w]; exact decide_eq_true (by omega)
  have el : mcB c 108 = false := by rw [mcB_l]; exact decide_eq_false (by omega)
  have d0 : decide (c - 65 + 10 < 0) = false := decide_eq_false (by omega)
  have d1 : decide (c - 65 + 10 < 10) = false := decide_eq_false (by omega)
  have d2 : decide (c - 65 + 10 < 16) = true := decide_eq_true (by omega)
  have d3 : (c - 65 + 10 != 99) = true := by rw [bne_iff_ne]; omega
  go_enter Try.func7, Try.ntmps7
  go_wp2_with (first | (go_at_call 13; refine (zzDigitValue_any _ (by first | assumption | omega) (by first | assumption | omega) _).mono ?_; rintro e w' ⟨rfl, rfl⟩) | (go_at_call 11; refine (zzMatchClass_any _ _ (by decide) (by decide) _).mono ?_; rintro e w' ⟨rfl, rfl⟩))
  go_ret
  exact ⟨rfl, rfl⟩

set_option maxHeartbeats 400000 in
theorem agree_4 (c : Int) (h0 : 0 ≤ c) (h255 : c ≤ 255) (h : 71 ≤ c) (h' : c ≤ 90) (w : World) :
    Calls Try.prog 7 #[.int .u8 c] w fun e w' => e = .returned (.bool true) ∧ w' = w := by
  have ev : digV c = c - 65 + 10 := by unfold digV; omega
  have ed : mcB c 100 = false := by rw [mcB_d]; exact decide_eq_false (by omega)
  have ex : mcB c 120 = false := by rw [mcB_x]; exact decide_eq_false (by omega)
  have ew : mcB c 119 = true := by rw [mcB_w]; exact decide_eq_true (by omega)
  have el : mcB c 108 = false := by rw [mcB_l]; exact decide_eq_false (by omega)
  have d0 : decide (c - 65 + 10 < 0) = false := decide_eq_false (by omega)
  have d1 : decide (c - 65 + 10 < 10) = false := decide_eq_false (by omega)
  have d2 : decide (c - 65 + 10 < 16) = false := decide_eq_false (by omega)
  have d3 : (c - 65 + 10 != 99) = true := by rw [bne_iff_ne]; omega
  go_enter Try.func7, Try.ntmps7
  go_wp2_with (first | (go_at_call 13; refine (zzDigitValue_any _ (by first | assumption | omega) (by first | assumption | omega) _).mono ?_; rintro e w' ⟨rfl, rfl⟩) | (go_at_call 11; refine (zzMatchClass_any _ _ (by decide) (by decide) _).mono ?_; rintro e w' ⟨rfl, rfl⟩))
  go_ret
  exact ⟨rfl, rfl⟩

set_option maxHeartbeats 400000 in
theorem agree_5 (c : Int) (h0 : 0 ≤ c) (h255 : c ≤ 255) (h : 91 ≤ c) (h' : c ≤ 96) (w : World) :
    Calls Try.prog 7 #[.int .u8 c] w fun e w' => e = .returned (.bool true) ∧ w' = w := by
  have ev : digV c = 99 := by unfold digV; omega
  have ed : mcB c 100 = false := by rw [mcB_d]; exact decide_eq_false (by omega)
  have ex : mcB c 120 = false := by rw [mcB_x]; exact decide_eq_false (by omega)
  have ew : mcB c 119 = false := by rw [mcB_w]; exact decide_eq_false (by omega)
  have el : mcB c 108 = false := by rw [mcB_l]; exact decide_eq_false (by omega)
  go_enter Try.func7, Try.ntmps7
  go_wp2_with (first | (go_at_call 13; refine (zzDigitValue_any _ (by first | assumption | omega) (by first | assumption | omega) _).mono ?_; rintro e w' ⟨rfl, rfl⟩) | (go_at_call 11; refine (zzMatchClass_any _ _ (by decide) (by decide) _).mono ?_; rintro e w' ⟨rfl, rfl⟩))
  go_ret
  exact ⟨rfl, rfl⟩

set_option maxHeartbeats 400000 in
theorem agree_6 (c : Int) (h0 : 0 ≤ c) (h255 : c ≤ 255) (h : 97 ≤ c) (h' : c ≤ 102) (w : World) :
    Calls Try.prog 7 #[.int .u8 c] w fun e w' => e = .returned (.bool true) ∧ w' = w := by
  have ev : digV c = c - 97 + 10 := by unfold digV; omega
  have ed : mcB c 100 = false := by rw [mcB_d]; exact decide_eq_false (by omega)
  have ex : mcB c 120 = true := by rw [mcB_x]; exact decide_eq_true (by omega)
  have ew : mcB c 119 = true := by rw [mcB_w]; exact decide_eq_true (by omega)
  have el : mcB c 108 = true := by rw [mcB_l]; exact decide_eq_true (by omega)
  have eu : digV (c - 32) = c - 97 + 10 := by unfold digV; omega
  have b0 : 0 ≤ c - 32 := by omega
  have b1 : c - 32 ≤ 255 := by omega
  have d0 : decide (c - 97 + 10 < 0) = false := decide_eq_false (by omega)
  have d1 : decide (c - 97 + 10 < 10) = false := decide_eq_false (by omega)
  have d2 : decide (c - 97 + 10 < 16) = true := decide_eq_true (by omega)
  have d3 : (c - 97 + 10 != 99) = true := by rw [bne_iff_ne]; omega
  go_enter Try.func7, Try.ntmps7
  go_wp2_with (first | (go_at_call 13; refine (zzDigitValue_any _ (by first | assumption | omega) (by first | assumption | omega) _).mono ?_; rintro e w' ⟨rfl, rfl⟩) | (go_at_call 11; refine (zzMatchClass_any _ _ (by decide) (by decide) _).mono ?_; rintro e w' ⟨rfl, rfl⟩))
  go_ret
  exact ⟨rfl, rfl⟩

set_option maxHeartbeats 400000 in
theorem agree_7 (c : Int) (h0 : 0 ≤ c) (h255 : c ≤ 255) (h : 103 ≤ c) (h' : c ≤ 122) (w : World) :
    Calls Try.prog 7 #[.int .u8 c] w fun e w' => e = .returned (.bool true) ∧ w' = w := by
  have ev : digV c = c - 97 + 10 := by unfold digV; omega
  have ed : mcB c 100 = false := by rw [mcB_d]; exact decide_eq_false (by omega)
  have ex : mcB c 120 = false := by rw [mcB_x]; exact decide_eq_false (by omega)
  have ew : mcB c 119 = true := by rw [mcB_w]; exact decide_eq_true (by omega)
  have el : mcB c 108 = true := by rw [mcB_l]; exact decide_eq_true (by omega)
  have eu : digV (c - 32) = c - 97 + 10 := by unfold digV; omega
  have b0 : 0 ≤ c - 32 := by omega
  have b1 : c - 32 ≤ 255 := by omega
  have d0 : decide (c - 97 + 10 < 0) = false := decide_eq_false (by omega)
  have d1 : decide (c - 97 + 10 < 10) = false := decide_eq_false (by omega)
  have d2 : decide (c - 97 + 10 < 16) = false := decide_eq_false (by omega)
  have d3 : (c - 97 + 10 != 99) = true := by rw [bne_iff_ne]; omega
  go_enter Try.func7, Try.ntmps7
  go_wp2_with (first | (go_at_call 13; refine (zzDigitValue_any _ (by first | assumption | omega) (by first | assumption | omega) _).mono ?_; rintro e w' ⟨rfl, rfl⟩) | (go_at_call 11; refine (zzMatchClass_any _ _ (by decide) (by decide) _).mono ?_; rintro e w' ⟨rfl, rfl⟩))
  go_ret
  exact ⟨rfl, rfl⟩

set_option maxHeartbeats 400000 in
theorem agree_8 (c : Int) (h0 : 0 ≤ c) (h255 : c ≤ 255) (h : 123 ≤ c) (w : World) :
    Calls Try.prog 7 #[.int .u8 c] w fun e w' => e = .returned (.bool true) ∧ w' = w := by
  have ev : digV c = 99 := by unfold digV; omega
  have ed : mcB c 100 = false := by rw [mcB_d]; exact decide_eq_false (by omega)
  have ex : mcB c 120 = false := by rw [mcB_x]; exact decide_eq_false (by omega)
  have ew : mcB c 119 = false := by rw [mcB_w]; exact decide_eq_false (by omega)
  have el : mcB c 108 = false := by rw [mcB_l]; exact decide_eq_false (by omega)
  go_enter Try.func7, Try.ntmps7
  go_wp2_with (first | (go_at_call 13; refine (zzDigitValue_any _ (by first | assumption | omega) (by first | assumption | omega) _).mono ?_; rintro e w' ⟨rfl, rfl⟩) | (go_at_call 11; refine (zzMatchClass_any _ _ (by decide) (by decide) _).mono ?_; rintro e w' ⟨rfl, rfl⟩))
  go_ret
  exact ⟨rfl, rfl⟩

theorem agree_any (c : Int) (h0 : 0 ≤ c) (h255 : c ≤ 255) (w : World) :
    Calls Try.prog 7 #[.int .u8 c] w fun e w' => e = .returned (.bool true) ∧ w' = w := by
  rcases ranges c with h | ⟨h, h'⟩ | ⟨h, h'⟩ | ⟨h, h'⟩ | ⟨h, h'⟩ | ⟨h, h'⟩ | ⟨h, h'⟩ | ⟨h, h'⟩ | h
  · exact agree_0 c h0 h255 h w
  · exact agree_1 c h0 h255 h h' w
  · exact agree_2 c h0 h255 h h' w
  · exact agree_3 c h0 h255 h h' w
  · exact agree_4 c h0 h255 h h' w
  · exact agree_5 c h0 h255 h h' w
  · exact agree_6 c h0 h255 h h' w
  · exact agree_7 c h0 h255 h h' w
  · exact agree_8 c h0 h255 h w
end Go.Proofs.Qxb6600823a
