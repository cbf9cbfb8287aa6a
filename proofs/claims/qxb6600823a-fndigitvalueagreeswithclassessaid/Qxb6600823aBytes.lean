/-
  The plain walks over the leaf functions of package lua on one byte: isDigit, isAlpha, isAlnum, isHex, digitValue: each computes a plain function.
-/
import Derived.Test.Qxb6600823aRows
import Derived.WalkKit
namespace Go.Proofs.Qxb6600823a
open Go.RowKit
set_option linter.unusedSimpArgs false

def digB (c : Int) : Bool := decide (48 ≤ c ∧ c ≤ 57)
def alphaB (c : Int) : Bool := decide ((97 ≤ c ∧ c ≤ 122) ∨ (65 ≤ c ∧ c ≤ 90))
def alnumB (c : Int) : Bool := decide ((97 ≤ c ∧ c ≤ 122) ∨ (65 ≤ c ∧ c ≤ 90) ∨ (48 ≤ c ∧ c ≤ 57))
def hexB (c : Int) : Bool := decide ((48 ≤ c ∧ c ≤ 57) ∨ (97 ≤ c ∧ c ≤ 102) ∨ (65 ≤ c ∧ c ≤ 70))
def digV (c : Int) : Int := if 48 ≤ c ∧ c ≤ 57 then c - 48 else if 97 ≤ c ∧ c ≤ 122 then c - 97 + 10 else if 65 ≤ c ∧ c ≤ 90 then c - 65 + 10 else 99

theorem ret_bool {a b : Bool} (h : a = b) : Ending.returned (.bool a) = .returned (.bool b) := by rw [h]

set_option maxHeartbeats 400000 in
theorem isDigit_any (c : Int) (w : World) :
    Calls Try.prog 24 #[.int .u8 c] w fun e w' => e = .returned (.bool (digB c)) ∧ w' = w := by
  by_cases h1 : 48 ≤ c
  · by_cases h2 : c ≤ 57
    all_goals
      go_enter Try.func24, Try.ntmps24
      go_wp2
      go_ret
      exact ⟨ret_bool (by rw [Bool.eq_iff_iff]; simp only [digB, Bool.or_eq_true, decide_eq_true_eq, reduceCtorEq, false_iff, true_iff]; omega), rfl⟩
  · go_enter Try.func24, Try.ntmps24
    go_wp2
    go_ret
    exact ⟨ret_bool (by rw [Bool.eq_iff_iff]; simp only [digB, Bool.or_eq_true, decide_eq_true_eq, reduceCtorEq, false_iff, true_iff]; omega), rfl⟩


/-- The ranges of a number on which all the byte classes stand still. -/
theorem ranges (c : Int) : c ≤ 47 ∨ (48 ≤ c ∧ c ≤ 57) ∨ (58 ≤ c ∧ c ≤ 64) ∨ (65 ≤ c ∧ c ≤ 70) ∨ (71 ≤ c ∧ c ≤ 90) ∨ (91 ≤ c ∧ c ≤ 96) ∨ (97 ≤ c ∧ c ≤ 102) ∨ (103 ≤ c ∧ c ≤ 122) ∨ 123 ≤ c := by omega

set_option maxHeartbeats 400000 in
theorem isAlpha_any (c : Int) (w : World) :
    Calls Try.prog 23 #[.int .u8 c] w fun e w' => e = .returned (.bool (alphaB c)) ∧ w' = w := by
  rcases ranges c with h | ⟨h, h'⟩ | ⟨h, h'⟩ | ⟨h, h'⟩ | ⟨h, h'⟩ | ⟨h, h'⟩ | ⟨h, h'⟩ | ⟨h, h'⟩ | h
  all_goals
    go_enter Try.func23, Try.ntmps23
    go_wp2
    go_ret
    exact ⟨ret_bool (by rw [Bool.eq_iff_iff]; simp only [alphaB, Bool.or_eq_true, decide_eq_true_eq, reduceCtorEq, false_iff, true_iff]; omega), rfl⟩

set_option maxHeartbeats 400000 in
theorem isAlnum_any (c : Int) (w : World) :
    Calls Try.prog 25 #[.int .u8 c] w fun e w' => e = .returned (.bool (alnumB c)) ∧ w' = w := by
  rcases ranges c with h | ⟨h, h'⟩ | ⟨h, h'⟩ | ⟨h, h'⟩ | ⟨h, h'⟩ | ⟨h, h'⟩ | ⟨h, h'⟩ | ⟨h, h'⟩ | h
  all_goals
    go_enter Try.func25, Try.ntmps25
    go_wp2
    go_ret
    exact ⟨ret_bool (by rw [Bool.eq_iff_iff]; simp only [alnumB, Bool.or_eq_true, decide_eq_true_eq, reduceCtorEq, false_iff, true_iff]; omega), rfl⟩

set_option maxHeartbeats 400000 in
theorem isHex_any (c : Int) (w : World) :
    Calls Try.prog 26 #[.int .u8 c] w fun e w' => e = .returned (.bool (hexB c)) ∧ w' = w := by
  rcases ranges c with h | ⟨h, h'⟩ | ⟨h, h'⟩ | ⟨h, h'⟩ | ⟨h, h'⟩ | ⟨h, h'⟩ | ⟨h, h'⟩ | ⟨h, h'⟩ | h
  all_goals
    go_enter Try.func26, Try.ntmps26
    go_wp2
    go_ret
    exact ⟨ret_bool (by rw [Bool.eq_iff_iff]; simp only [hexB, Bool.or_eq_true, decide_eq_true_eq, reduceCtorEq, false_iff, true_iff]; omega), rfl⟩

theorem ret_int {k : IntKind} {a b : Int} (h : a = b) : Ending.returned (.int k a) = .returned (.int k b) := by rw [h]

set_option maxHeartbeats 400000 in
theorem digitValue_any (c : Int) (h0 : 0 ≤ c) (h255 : c ≤ 255) (w : World) :
    Calls Try.prog 21 #[.int .u8 c] w fun e w' => e = .returned (.int .i64 (digV c)) ∧ w' = w := by
  rcases ranges c with h | ⟨h, h'⟩ | ⟨h, h'⟩ | ⟨h, h'⟩ | ⟨h, h'⟩ | ⟨h, h'⟩ | ⟨h, h'⟩ | ⟨h, h'⟩ | h
  all_goals
    go_enter Try.func21, Try.ntmps21
    go_wp2
    go_ret
    exact ⟨ret_int (by unfold digV; omega), rfl⟩

set_option maxHeartbeats 400000 in
theorem zzDigitValue_any (c : Int) (h0 : 0 ≤ c) (h255 : c ≤ 255) (w : World) :
    Calls Try.prog 13 #[.int .u8 c] w fun e w' => e = .returned (.int .i64 (digV c)) ∧ w' = w := by
  go_enter Try.func13, Try.ntmps13
  go_wp2_with (go_at_call 21; refine (digitValue_any _ (by assumption) (by assumption) _).mono ?_; rintro e w' ⟨rfl, rfl⟩)
  go_ret
  exact ⟨rfl, rfl⟩

end Go.Proofs.Qxb6600823a
