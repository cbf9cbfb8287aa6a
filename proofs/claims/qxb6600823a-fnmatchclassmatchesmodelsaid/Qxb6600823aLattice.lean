/-
  FnMatchClassLattice: the walk.
-/
import Derived.Test.Qxb6600823aMatch
import Derived.BigQuiet
import Derived.Deep.QuietTactic
namespace Go.Proofs.Qxb6600823a
open Go.RowKit
set_option linter.unusedVariables false

theorem zzMatchClass_byte (c : Int) (b : UInt8) (w : World) :
    Calls Try.prog 11 #[.int .u8 c, .int .u8 (b.toNat : Int)] w fun e w' => e = .returned (.bool (mcB c (b.toNat : Int))) ∧ w' = w :=
  zzMatchClass_any c b.toNat (by omega) (by have := b.toNat_lt; omega) w

def low10 : ByteArray := ⟨#[97, 99, 100, 108, 112, 115, 117, 119, 120, 122]⟩
def upp10 : ByteArray := ⟨#[65, 67, 68, 76, 80, 83, 85, 87, 88, 90]⟩
theorem low10_size (k : Nat) (h : k < 10) : k < low10.size := h
theorem upp10_size (k : Nat) (h : k < 10) : k < upp10.size := h
theorem upp_low (c : Int) (k : Nat) (h : k < 10) : (mcB c ((upp10[k]'(upp10_size k h)).toNat : Int) == mcB c ((low10[k]'(low10_size k h)).toNat : Int)) = false := by
  have hb : ∀ x : Bool, ((!x) == x) = false := by decide
  match k, h with
  | 0, _ => exact hb (alphaB c)
  | 1, _ => exact hb (ctlB c)
  | 2, _ => exact hb (digB c)
  | 3, _ => exact hb (lowB c)
  | 4, _ => exact hb (punB c)
  | 5, _ => exact hb (spcB c)
  | 6, _ => exact hb (uppB c)
  | 7, _ => exact hb (alnumB c)
  | 8, _ => exact hb (hexB c)
  | 9, _ => exact hb (nulB c)
  | n + 10, h => exact absurd h (by omega)

theorem drew_add {w wr : World} {n : Nat} (h : Hid (wr = w.drewN n)) (m : Nat) : Hid (wr.drewN m = w.drewN (n + m)) := by
  have h' : wr = w.drewN n := h.out
  have e : wr.drewN m = w.drewN (n + m) := by rw [h', World.drewN_drewN]
  exact e

theorem mcB_facts (c : Int) : mcB c 108 = lowB c ∧ mcB c 117 = uppB c ∧ mcB c 97 = alphaB c ∧ mcB c 100 = digB c ∧ mcB c 119 = alnumB c ∧ mcB c 120 = hexB c := ⟨rfl, rfl, rfl, rfl, rfl, rfl⟩

set_option maxHeartbeats 400000 in
theorem lat_0 (c : Int) (h0 : 0 ≤ c) (h255 : c ≤ 255) (w : World)
   (e1 : mcB c 108 = true) (e2 : mcB c 117 = false) (e3 : mcB c 97 = true) (e4 : mcB c 100 = false) (e5 : mcB c 119 = true) (e6 : mcB c 120 = true) :
    Calls Try.prog 5 #[.int .u8 c] w fun e w' => e = .returned (.bool true) ∧ ∃ n, w' = w.drewN n := by
  go_enter Try.func5, Try.ntmps5
  go_wp2_with (first | (go_at_call 11; refine (zzMatchClass_any _ _ (by decide) (by decide) _).mono ?_; rintro e w' ⟨rfl, hw⟩; obtain rfl := hw.symm))
  go_loopw [9] (fun i wr => ∃ k n : Nat, k ≤ 10 ∧ i = .int .i64 k ∧ Hid (wr = w.drewN n)) (fun i _ => 10 - (intOf i).toNat)
  case atStart => exact ⟨0, 0, Nat.zero_le _, rfl, (rfl : w = w.drewN 0)⟩
  case round =>
    obtain ⟨k, n, hk, rfl, hwr⟩ := hrel
    by_cases hlt : k < 10
    · have hi : (k : Int) < 10 := by omega
      have hcmp : (mcB c ((upp10[k]'(upp10_size k hlt)).toNat : Int) == mcB c ((low10[k]'(low10_size k hlt)).toNat : Int)) = false := upp_low c k hlt
      simp only [upp10, low10] at hcmp
      go_wp2_with fail
      go_quiet ((go_at_call 11; exact Calls.quiet_of_same (zzMatchClass_byte _ _ _)))
      go_wp2
      go_roundw
      case rel => exact ⟨k + 1, n + nq, by omega, by go_num, drew_add hwr nq⟩
      case measure => simp [intOf]; omega
    · go_wp2
      go_ret
      exact ⟨rfl, n, hwr.out⟩

set_option maxHeartbeats 400000 in
theorem lat_1 (c : Int) (h0 : 0 ≤ c) (h255 : c ≤ 255) (w : World)
   (e1 : mcB c 108 = true) (e2 : mcB c 117 = false) (e3 : mcB c 97 = true) (e4 : mcB c 100 = false) (e5 : mcB c 119 = true) (e6 : mcB c 120 = false) :
    Calls Try.prog 5 #[.int .u8 c] w fun e w' => e = .returned (.bool true) ∧ ∃ n, w' = w.drewN n := by
  go_enter Try.func5, Try.ntmps5
  go_wp2_with (first | (go_at_call 11; refine (zzMatchClass_any _ _ (by decide) (by decide) _).mono ?_; rintro e w' ⟨rfl, hw⟩; obtain rfl := hw.symm))
  go_loopw [9] (fun i wr => ∃ k n : Nat, k ≤ 10 ∧ i = .int .i64 k ∧ Hid (wr = w.drewN n)) (fun i _ => 10 - (intOf i).toNat)
  case atStart => exact ⟨0, 0, Nat.zero_le _, rfl, (rfl : w = w.drewN 0)⟩
  case round =>
    obtain ⟨k, n, hk, rfl, hwr⟩ := hrel
    by_cases hlt : k < 10
    · have hi : (k : Int) < 10 := by omega
      have hcmp : (mcB c ((upp10[k]'(upp10_size k hlt)).toNat : Int) == mcB c ((low10[k]'(low10_size k hlt)).toNat : Int)) = false := upp_low c k hlt
      simp only [upp10, low10] at hcmp
      go_wp2_with fail
      go_quiet ((go_at_call 11; exact Calls.quiet_of_same (zzMatchClass_byte _ _ _)))
      go_wp2
      go_roundw
      case rel => exact ⟨k + 1, n + nq, by omega, by go_num, drew_add hwr nq⟩
      case measure => simp [intOf]; omega
    · go_wp2
      go_ret
      exact ⟨rfl, n, hwr.out⟩

set_option maxHeartbeats 400000 in
theorem lat_2 (c : Int) (h0 : 0 ≤ c) (h255 : c ≤ 255) (w : World)
   (e1 : mcB c 108 = false) (e2 : mcB c 117 = true) (e3 : mcB c 97 = true) (e4 : mcB c 100 = false) (e5 : mcB c 119 = true) (e6 : mcB c 120 = true) :
    Calls Try.prog 5 #[.int .u8 c] w fun e w' => e = .returned (.bool true) ∧ ∃ n, w' = w.drewN n := by
  go_enter Try.func5, Try.ntmps5
  go_wp2_with (first | (go_at_call 11; refine (zzMatchClass_any _ _ (by decide) (by decide) _).mono ?_; rintro e w' ⟨rfl, hw⟩; obtain rfl := hw.symm))
  go_loopw [9] (fun i wr => ∃ k n : Nat, k ≤ 10 ∧ i = .int .i64 k ∧ Hid (wr = w.drewN n)) (fun i _ => 10 - (intOf i).toNat)
  case atStart => exact ⟨0, 0, Nat.zero_le _, rfl, (rfl : w = w.drewN 0)⟩
  case round =>
    obtain ⟨k, n, hk, rfl, hwr⟩ := hrel
    by_cases hlt : k < 10
    · have hi : (k : Int) < 10 := by omega
      have hcmp : (mcB c ((upp10[k]'(upp10_size k hlt)).toNat : Int) == mcB c ((low10[k]'(low10_size k hlt)).toNat : Int)) = false := upp_low c k hlt
      simp only [upp10, low10] at hcmp
      go_wp2_with fail
      go_quiet ((go_at_call 11; exact Calls.quiet_of_same (zzMatchClass_byte _ _ _)))
      go_wp2
      go_roundw
      case rel => exact ⟨k + 1, n + nq, by omega, by go_num, drew_add hwr nq⟩
      case measure => simp [intOf]; omega
    · go_wp2
      go_ret
      exact ⟨rfl, n, hwr.out⟩

set_option maxHeartbeats 400000 in
theorem lat_3 (c : Int) (h0 : 0 ≤ c) (h255 : c ≤ 255) (w : World)
   (e1 : mcB c 108 = false) (e2 : mcB c 117 = true) (e3 : mcB c 97 = true) (e4 : mcB c 100 = false) (e5 : mcB c 119 = true) (e6 : mcB c 120 = false) :
    Calls Try.prog 5 #[.int .u8 c] w fun e w' => e = .returned (.bool true) ∧ ∃ n, w' = w.drewN n := by
  go_enter Try.func5, Try.ntmps5
  go_wp2_with (first | (go_at_call 11; refine (zzMatchClass_any _ _ (by decide) (by decide) _).mono ?_; rintro e w' ⟨rfl, hw⟩; obtain rfl := hw.symm))
  go_loopw [9] (fun i wr => ∃ k n : Nat, k ≤ 10 ∧ i = .int .i64 k ∧ Hid (wr = w.drewN n)) (fun i _ => 10 - (intOf i).toNat)
  case atStart => exact ⟨0, 0, Nat.zero_le _, rfl, (rfl : w = w.drewN 0)⟩
  case round =>
    obtain ⟨k, n, hk, rfl, hwr⟩ := hrel
    by_cases hlt : k < 10
    · have hi : (k : Int) < 10 := by omega
      have hcmp : (mcB c ((upp10[k]'(upp10_size k hlt)).toNat : Int) == mcB c ((low10[k]'(low10_size k hlt)).toNat : Int)) = false := upp_low c k hlt
      simp only [upp10, low10] at hcmp
      go_wp2_with fail
      go_quiet ((go_at_call 11; exact Calls.quiet_of_same (zzMatchClass_byte _ _ _)))
      go_wp2
      go_roundw
      case rel => exact ⟨k + 1, n + nq, by omega, by go_num, drew_add hwr nq⟩
      case measure => simp [intOf]; omega
    · go_wp2
      go_ret
      exact ⟨rfl, n, hwr.out⟩

set_option maxHeartbeats 400000 in
theorem lat_4 (c : Int) (h0 : 0 ≤ c) (h255 : c ≤ 255) (w : World)
   (e1 : mcB c 108 = false) (e2 : mcB c 117 = false) (e3 : mcB c 97 = false) (e4 : mcB c 100 = true) (e5 : mcB c 119 = true) (e6 : mcB c 120 = true) :
    Calls Try.prog 5 #[.int .u8 c] w fun e w' => e = .returned (.bool true) ∧ ∃ n, w' = w.drewN n := by
  go_enter Try.func5, Try.ntmps5
  go_wp2_with (first | (go_at_call 11; refine (zzMatchClass_any _ _ (by decide) (by decide) _).mono ?_; rintro e w' ⟨rfl, hw⟩; obtain rfl := hw.symm))
  go_loopw [9] (fun i wr => ∃ k n : Nat, k ≤ 10 ∧ i = .int .i64 k ∧ Hid (wr = w.drewN n)) (fun i _ => 10 - (intOf i).toNat)
  case atStart => exact ⟨0, 0, Nat.zero_le _, rfl, (rfl : w = w.drewN 0)⟩
  case round =>
    obtain ⟨k, n, hk, rfl, hwr⟩ := hrel
    by_cases hlt : k < 10
    · have hi : (k : Int) < 10 := by omega
      have hcmp : (mcB c ((upp10[k]'(upp10_size k hlt)).toNat : Int) == mcB c ((low10[k]'(low10_size k hlt)).toNat : Int)) = false := upp_low c k hlt
      simp only [upp10, low10] at hcmp
      go_wp2_with fail
      go_quiet ((go_at_call 11; exact Calls.quiet_of_same (zzMatchClass_byte _ _ _)))
      go_wp2
      go_roundw
      case rel => exact ⟨k + 1, n + nq, by omega, by go_num, drew_add hwr nq⟩
      case measure => simp [intOf]; omega
    · go_wp2
      go_ret
      exact ⟨rfl, n, hwr.out⟩

set_option maxHeartbeats 400000 in
theorem lat_5 (c : Int) (h0 : 0 ≤ c) (h255 : c ≤ 255) (w : World)
   (e1 : mcB c 108 = false) (e2 : mcB c 117 = false) (e3 : mcB c 97 = false) (e4 : mcB c 100 = false) (e5 : mcB c 119 = false) (e6 : mcB c 120 = false) :
    Calls Try.prog 5 #[.int .u8 c] w fun e w' => e = .returned (.bool true) ∧ ∃ n, w' = w.drewN n := by
  go_enter Try.func5, Try.ntmps5
  go_wp2_with (first | (go_at_call 11; refine (zzMatchClass_any _ _ (by decide) (by decide) _).mono ?_; rintro e w' ⟨rfl, hw⟩; obtain rfl := hw.symm))
  go_loopw [9] (fun i wr => ∃ k n : Nat, k ≤ 10 ∧ i = .int .i64 k ∧ Hid (wr = w.drewN n)) (fun i _ => 10 - (intOf i).toNat)
  case atStart => exact ⟨0, 0, Nat.zero_le _, rfl, (rfl : w = w.drewN 0)⟩
  case round =>
    obtain ⟨k, n, hk, rfl, hwr⟩ := hrel
    by_cases hlt : k < 10
    · have hi : (k : Int) < 10 := by omega
      have hcmp : (mcB c ((upp10[k]'(upp10_size k hlt)).toNat : Int) == mcB c ((low10[k]'(low10_size k hlt)).toNat : Int)) = false := upp_low c k hlt
      simp only [upp10, low10] at hcmp
      go_wp2_with fail
      go_quiet ((go_at_call 11; exact Calls.quiet_of_same (zzMatchClass_byte _ _ _)))
      go_wp2
      go_roundw
      case rel => exact ⟨k + 1, n + nq, by omega, by go_num, drew_add hwr nq⟩
      case measure => simp [intOf]; omega
    · go_wp2
      go_ret
      exact ⟨rfl, n, hwr.out⟩

theorem lat_any (c : Int) (h0 : 0 ≤ c) (h255 : c ≤ 255) (w : World) :
    Calls Try.prog 5 #[.int .u8 c] w fun e w' => e = .returned (.bool true) ∧ ∃ n, w' = w.drewN n := by
  obtain ⟨f1, f2, f3, f4, f5, f6⟩ := mcB_facts c
  rcases ranges c with h | ⟨h, h'⟩ | ⟨h, h'⟩ | ⟨h, h'⟩ | ⟨h, h'⟩ | ⟨h, h'⟩ | ⟨h, h'⟩ | ⟨h, h'⟩ | h
  · exact lat_5 c h0 h255 w (f1.trans (decide_eq_false (by omega))) (f2.trans (decide_eq_false (by omega))) (f3.trans (decide_eq_false (by omega))) (f4.trans (decide_eq_false (by omega))) (f5.trans (decide_eq_false (by omega))) (f6.trans (decide_eq_false (by omega)))
  · exact lat_4 c h0 h255 w (f1.trans (decide_eq_false (by omega))) (f2.trans (decide_eq_false (by omega))) (f3.trans (decide_eq_false (by omega))) (f4.trans (decide_eq_true (by omega))) (f5.trans (decide_eq_true (by omega))) (f6.trans (decide_eq_true (by omega)))
  · exact lat_5 c h0 h255 w (f1.trans (decide_eq_false (by omega))) (f2.trans (decide_eq_false (by omega))) (f3.trans (decide_eq_false (by omega))) (f4.trans (decide_eq_false (by omega))) (f5.trans (decide_eq_false (by omega))) (f6.trans (decide_eq_false (by omega)))
  · exact lat_2 c h0 h255 w (f1.trans (decide_eq_false (by omega))) (f2.trans (decide_eq_true (by omega))) (f3.trans (decide_eq_true (by omega))) (f4.trans (decide_eq_false (by omega))) (f5.trans (decide_eq_true (by omega))) (f6.trans (decide_eq_true (by omega)))
  · exact lat_3 c h0 h255 w (f1.trans (decide_eq_false (by omega))) (f2.trans (decide_eq_true (by omega))) (f3.trans (decide_eq_true (by omega))) (f4.trans (decide_eq_false (by omega))) (f5.trans (decide_eq_true (by omega))) (f6.trans (decide_eq_false (by omega)))
  · exact lat_5 c h0 h255 w (f1.trans (decide_eq_false (by omega))) (f2.trans (decide_eq_false (by omega))) (f3.trans (decide_eq_false (by omega))) (f4.trans (decide_eq_false (by omega))) (f5.trans (decide_eq_false (by omega))) (f6.trans (decide_eq_false (by omega)))
  · exact lat_0 c h0 h255 w (f1.trans (decide_eq_true (by omega))) (f2.trans (decide_eq_false (by omega))) (f3.trans (decide_eq_true (by omega))) (f4.trans (decide_eq_false (by omega))) (f5.trans (decide_eq_true (by omega))) (f6.trans (decide_eq_true (by omega)))
  · exact lat_1 c h0 h255 w (f1.trans (decide_eq_true (by omega))) (f2.trans (decide_eq_false (by omega))) (f3.trans (decide_eq_true (by omega))) (f4.trans (decide_eq_false (by omega))) (f5.trans (decide_eq_true (by omega))) (f6.trans (decide_eq_false (by omega)))
  · exact lat_5 c h0 h255 w (f1.trans (decide_eq_false (by omega))) (f2.trans (decide_eq_false (by omega))) (f3.trans (decide_eq_false (by omega))) (f4.trans (decide_eq_false (by omega))) (f5.trans (decide_eq_false (by omega))) (f6.trans (decide_eq_false (by omega)))
end Go.Proofs.Qxb6600823a
