/-
  matchClass, letter by letter.
-/
import Derived.Test.Qxb6600823aBytes
namespace Go.Proofs.Qxb6600823a
open Go.RowKit
set_option linter.unusedSimpArgs false

def ctlB (c : Int) : Bool := decide (c < 32 ∨ c = 127)
def lowB (c : Int) : Bool := decide (97 ≤ c ∧ c ≤ 122)
def uppB (c : Int) : Bool := decide (65 ≤ c ∧ c ≤ 90)
def punB (c : Int) : Bool := decide (32 < c ∧ c < 127) && !alnumB c
def spcB (c : Int) : Bool := decide (c = 32 ∨ (9 ≤ c ∧ c ≤ 13))
def nulB (c : Int) : Bool := decide (c = 0)

set_option maxHeartbeats 400000 in
theorem mc_a (c : Int) (w : World) :
    Calls Try.prog 19 #[.int .u8 c, .int .u8 97] w fun e w' => e = .returned (.bool (alphaB c)) ∧ w' = w := by
  go_enter Try.func19, Try.ntmps19
  go_wp2_with (first | (go_at_call 23; refine (isAlpha_any _ _).mono ?_; rintro e w' ⟨rfl, rfl⟩))
  go_ret
  exact ⟨rfl, rfl⟩
set_option maxHeartbeats 400000 in
theorem mc_A (c : Int) (w : World) :
    Calls Try.prog 19 #[.int .u8 c, .int .u8 65] w fun e w' => e = .returned (.bool (!alphaB c)) ∧ w' = w := by
  go_enter Try.func19, Try.ntmps19
  go_wp2_with (first | (go_at_call 23; refine (isAlpha_any _ _).mono ?_; rintro e w' ⟨rfl, rfl⟩))
  go_ret
  exact ⟨rfl, rfl⟩
set_option maxHeartbeats 400000 in
theorem mc_c (c : Int) (w : World) :
    Calls Try.prog 19 #[.int .u8 c, .int .u8 99] w fun e w' => e = .returned (.bool (ctlB c)) ∧ w' = w := by
  by_cases h : c < 32 <;> by_cases h2 : c ≤ 126
  all_goals
    go_enter Try.func19, Try.ntmps19
    go_wp2
    all_goals go_ret
    all_goals exact ⟨ret_bool (by rw [Bool.eq_iff_iff]; simp [ctlB]; try omega), rfl⟩
set_option maxHeartbeats 400000 in
theorem mc_C (c : Int) (w : World) :
    Calls Try.prog 19 #[.int .u8 c, .int .u8 67] w fun e w' => e = .returned (.bool (!ctlB c)) ∧ w' = w := by
  by_cases h : c < 32 <;> by_cases h2 : c ≤ 126
  all_goals
    go_enter Try.func19, Try.ntmps19
    go_wp2
    all_goals go_ret
    all_goals exact ⟨ret_bool (by rw [Bool.eq_iff_iff]; simp [ctlB]; try omega), rfl⟩
set_option maxHeartbeats 400000 in
theorem mc_d (c : Int) (w : World) :
    Calls Try.prog 19 #[.int .u8 c, .int .u8 100] w fun e w' => e = .returned (.bool (digB c)) ∧ w' = w := by
  go_enter Try.func19, Try.ntmps19
  go_wp2_with (first | (go_at_call 24; refine (isDigit_any _ _).mono ?_; rintro e w' ⟨rfl, rfl⟩))
  go_ret
  exact ⟨rfl, rfl⟩
set_option maxHeartbeats 400000 in
theorem mc_D (c : Int) (w : World) :
    Calls Try.prog 19 #[.int .u8 c, .int .u8 68] w fun e w' => e = .returned (.bool (!digB c)) ∧ w' = w := by
  go_enter Try.func19, Try.ntmps19
  go_wp2_with (first | (go_at_call 24; refine (isDigit_any _ _).mono ?_; rintro e w' ⟨rfl, rfl⟩))
  go_ret
  exact ⟨rfl, rfl⟩
set_option maxHeartbeats 400000 in
theorem mc_l (c : Int) (w : World) :
    Calls Try.prog 19 #[.int .u8 c, .int .u8 108] w fun e w' => e = .returned (.bool (lowB c)) ∧ w' = w := by
  by_cases h : 97 ≤ c
  all_goals
    go_enter Try.func19, Try.ntmps19
    go_wp2
    all_goals go_ret
    all_goals exact ⟨ret_bool (by rw [Bool.eq_iff_iff]; simp [lowB]; try omega), rfl⟩
set_option maxHeartbeats 400000 in
theorem mc_L (c : Int) (w : World) :
    Calls Try.prog 19 #[.int .u8 c, .int .u8 76] w fun e w' => e = .returned (.bool (!lowB c)) ∧ w' = w := by
  by_cases h : 97 ≤ c
  all_goals
    go_enter Try.func19, Try.ntmps19
    go_wp2
    all_goals go_ret
    all_goals exact ⟨ret_bool (by rw [Bool.eq_iff_iff]; simp [lowB]; try omega), rfl⟩
set_option maxHeartbeats 400000 in
theorem mc_p (c : Int) (w : World) :
    Calls Try.prog 19 #[.int .u8 c, .int .u8 112] w fun e w' => e = .returned (.bool (punB c)) ∧ w' = w := by
  by_cases h : 32 < c <;> by_cases h2 : c < 127
  all_goals
    go_enter Try.func19, Try.ntmps19
    go_wp2_with (first | (go_at_call 25; refine (isAlnum_any _ _).mono ?_; rintro e w' ⟨rfl, rfl⟩))
    all_goals go_ret
    all_goals exact ⟨ret_bool (by rw [Bool.eq_iff_iff]; simp [punB]; try omega), rfl⟩
set_option maxHeartbeats 400000 in
theorem mc_P (c : Int) (w : World) :
    Calls Try.prog 19 #[.int .u8 c, .int .u8 80] w fun e w' => e = .returned (.bool (!punB c)) ∧ w' = w := by
  by_cases h : 32 < c <;> by_cases h2 : c < 127
  all_goals
    go_enter Try.func19, Try.ntmps19
    go_wp2_with (first | (go_at_call 25; refine (isAlnum_any _ _).mono ?_; rintro e w' ⟨rfl, rfl⟩))
    all_goals go_ret
    all_goals exact ⟨ret_bool (by rw [Bool.eq_iff_iff]; simp [punB]; try omega), rfl⟩
set_option maxHeartbeats 400000 in
theorem mc_s (c : Int) (w : World) :
    Calls Try.prog 19 #[.int .u8 c, .int .u8 115] w fun e w' => e = .returned (.bool (spcB c)) ∧ w' = w := by
  by_cases h : c ≤ 31 <;> by_cases h2 : 9 ≤ c
  all_goals
    go_enter Try.func19, Try.ntmps19
    go_wp2
    all_goals go_ret
    all_goals exact ⟨ret_bool (by rw [Bool.eq_iff_iff]; simp [spcB]; try omega), rfl⟩
set_option maxHeartbeats 400000 in
theorem mc_S (c : Int) (w : World) :
    Calls Try.prog 19 #[.int .u8 c, .int .u8 83] w fun e w' => e = .returned (.bool (!spcB c)) ∧ w' = w := by
  by_cases h : c ≤ 31 <;> by_cases h2 : 9 ≤ c
  all_goals
    go_enter Try.func19, Try.ntmps19
    go_wp2
    all_goals go_ret
    all_goals exact ⟨ret_bool (by rw [Bool.eq_iff_iff]; simp [spcB]; try omega), rfl⟩
set_option maxHeartbeats 400000 in
theorem mc_u (c : Int) (w : World) :
    Calls Try.prog 19 #[.int .u8 c, .int .u8 117] w fun e w' => e = .returned (.bool (uppB c)) ∧ w' = w := by
  by_cases h : 65 ≤ c
  all_goals
    go_enter Try.func19, Try.ntmps19
    go_wp2
    all_goals go_ret
    all_goals exact ⟨ret_bool (by rw [Bool.eq_iff_iff]; simp [uppB]; try omega), rfl⟩
set_option maxHeartbeats 400000 in
theorem mc_U (c : Int) (w : World) :
    Calls Try.prog 19 #[.int .u8 c, .int .u8 85] w fun e w' => e = .returned (.bool (!uppB c)) ∧ w' = w := by
  by_cases h : 65 ≤ c
  all_goals
    go_enter Try.func19, Try.ntmps19
    go_wp2
    all_goals go_ret
    all_goals exact ⟨ret_bool (by rw [Bool.eq_iff_iff]; simp [uppB]; try omega), rfl⟩
set_option maxHeartbeats 400000 in
theorem mc_w (c : Int) (w : World) :
    Calls Try.prog 19 #[.int .u8 c, .int .u8 119] w fun e w' => e = .returned (.bool (alnumB c)) ∧ w' = w := by
  go_enter Try.func19, Try.ntmps19
  go_wp2_with (first | (go_at_call 25; refine (isAlnum_any _ _).mono ?_; rintro e w' ⟨rfl, rfl⟩))
  go_ret
  exact ⟨rfl, rfl⟩
set_option maxHeartbeats 400000 in
theorem mc_W (c : Int) (w : World) :
    Calls Try.prog 19 #[.int .u8 c, .int .u8 87] w fun e w' => e = .returned (.bool (!alnumB c)) ∧ w' = w := by
  go_enter Try.func19, Try.ntmps19
  go_wp2_with (first | (go_at_call 25; refine (isAlnum_any _ _).mono ?_; rintro e w' ⟨rfl, rfl⟩))
  go_ret
  exact ⟨rfl, rfl⟩
set_option maxHeartbeats 400000 in
theorem mc_x (c : Int) (w : World) :
    Calls Try.prog 19 #[.int .u8 c, .int .u8 120] w fun e w' => e = .returned (.bool (hexB c)) ∧ w' = w := by
  go_enter Try.func19, Try.ntmps19
  go_wp2_with (first | (go_at_call 26; refine (isHex_any _ _).mono ?_; rintro e w' ⟨rfl, rfl⟩))
  go_ret
  exact ⟨rfl, rfl⟩
set_option maxHeartbeats 400000 in
theorem mc_X (c : Int) (w : World) :
    Calls Try.prog 19 #[.int .u8 c, .int .u8 88] w fun e w' => e = .returned (.bool (!hexB c)) ∧ w' = w := by
  go_enter Try.func19, Try.ntmps19
  go_wp2_with (first | (go_at_call 26; refine (isHex_any _ _).mono ?_; rintro e w' ⟨rfl, rfl⟩))
  go_ret
  exact ⟨rfl, rfl⟩
set_option maxHeartbeats 400000 in
theorem mc_z (c : Int) (w : World) :
    Calls Try.prog 19 #[.int .u8 c, .int .u8 122] w fun e w' => e = .returned (.bool (nulB c)) ∧ w' = w := by
  by_cases h : c = 0
  all_goals
    go_enter Try.func19, Try.ntmps19
    go_wp2
    all_goals go_ret
    all_goals exact ⟨ret_bool (by rw [Bool.eq_iff_iff]; simp [nulB]; try omega), rfl⟩
set_option maxHeartbeats 400000 in
theorem mc_Z (c : Int) (w : World) :
    Calls Try.prog 19 #[.int .u8 c, .int .u8 90] w fun e w' => e = .returned (.bool (!nulB c)) ∧ w' = w := by
  by_cases h : c = 0
  all_goals
    go_enter Try.func19, Try.ntmps19
    go_wp2
    all_goals go_ret
    all_goals exact ⟨ret_bool (by rw [Bool.eq_iff_iff]; simp [nulB]; try omega), rfl⟩
end Go.Proofs.Qxb6600823a
