/-
  FnMatchClassPartitionsBytes: the walk.
-/
import Derived.Test.Qxb6600823aLattice
namespace Go.Proofs.Qxb6600823a
open Go.RowKit
set_option linter.unusedVariables false

theorem pun_yes (c : Int) (h : 32 < c ∧ c < 127) (h2 : ¬ ((97 ≤ c ∧ c ≤ 122) ∨ (65 ≤ c ∧ c ≤ 90) ∨ (48 ≤ c ∧ c ≤ 57))) : punB c = true := by
  unfold punB alnumB; rw [decide_eq_true h, decide_eq_false h2]; rfl
theorem pun_no (c : Int) (h : ¬ (32 < c ∧ c < 127)) : punB c = false := by
  unfold punB; rw [decide_eq_false h]; rfl
theorem pun_aln (c : Int) (h2 : (97 ≤ c ∧ c ≤ 122) ∨ (65 ≤ c ∧ c ≤ 90) ∨ (48 ≤ c ∧ c ≤ 57)) : punB c = false := by
  unfold punB alnumB; rw [decide_eq_true h2]; exact Bool.and_false _

theorem mcB_facts2 (c : Int) : mcB c 99 = ctlB c ∧ mcB c 112 = punB c ∧ mcB c 119 = alnumB c ∧ mcB c 115 = spcB c ∧ mcB c 122 = nulB c := ⟨rfl, rfl, rfl, rfl, rfl⟩

theorem hi_low (c : Int) (hc : 128 ≤ c) (k : Nat) (h : k < 10) : mcB c ((low10[k]'(low10_size k h)).toNat : Int) = false := by
  match k, h with
  | 0, _ => exact decide_eq_false (p := (97 ≤ c ∧ c ≤ 122) ∨ (65 ≤ c ∧ c ≤ 90)) (by omega)
  | 1, _ => exact decide_eq_false (p := c < 32 ∨ c = 127) (by omega)
  | 2, _ => exact decide_eq_false (p := 48 ≤ c ∧ c ≤ 57) (by omega)
  | 3, _ => exact decide_eq_false (p := 97 ≤ c ∧ c ≤ 122) (by omega)
  | 4, _ => exact pun_no c (by omega)
  | 5, _ => exact decide_eq_false (p := c = 32 ∨ (9 ≤ c ∧ c ≤ 13)) (by omega)
  | 6, _ => exact decide_eq_false (p := 65 ≤ c ∧ c ≤ 90) (by omega)
  | 7, _ => exact decide_eq_false (p := (97 ≤ c ∧ c ≤ 122) ∨ (65 ≤ c ∧ c ≤ 90) ∨ (48 ≤ c ∧ c ≤ 57)) (by omega)
  | 8, _ => exact decide_eq_false (p := (48 ≤ c ∧ c ≤ 57) ∨ (97 ≤ c ∧ c ≤ 102) ∨ (65 ≤ c ∧ c ≤ 70)) (by omega)
  | 9, _ => exact decide_eq_false (p := c = 0) (by omega)
  | n + 10, h => exact absurd h (by omega)

set_option maxHeartbeats 400000 in
theorem part_A (c : Int) (h0 : 0 ≤ c) (h127 : c < 128) (w : World)
    (e1 : mcB c 99 = true) (e2 : mcB c 112 = false) (e3 : mcB c 119 = false) (e4 : (c == 32) = false) (e5 : mcB c 115 = false) (e6 : mcB c 122 = true) :
    Calls Try.prog 4 #[.int .u8 c] w fun e w' => e = .returned (.bool true) ∧ w' = w := by
  go_enter Try.func4, Try.ntmps4
  go_wp2_with (first | (go_at_call 11; refine (zzMatchClass_any _ _ (by decide) (by decide) _).mono ?_; rintro e w' ⟨rfl, hw⟩; obtain rfl := hw.symm))
  go_ret
  exact ⟨rfl, rfl⟩
set_option maxHeartbeats 400000 in
theorem part_B (c : Int) (h0 : 0 ≤ c) (h127 : c < 128) (w : World)
    (e1 : mcB c 99 = true) (e2 : mcB c 112 = false) (e3 : mcB c 119 = false) (e4 : (c == 32) = false) (e5 : mcB c 115 = false) (e6 : mcB c 122 = false) :
    Calls Try.prog 4 #[.int .u8 c] w fun e w' => e = .returned (.bool true) ∧ w' = w := by
  go_enter Try.func4, Try.ntmps4
  go_wp2_with (first | (go_at_call 11; refine (zzMatchClass_any _ _ (by decide) (by decide) _).mono ?_; rintro e w' ⟨rfl, hw⟩; obtain rfl := hw.symm))
  go_ret
  exact ⟨rfl, rfl⟩
set_option maxHeartbeats 400000 in
theorem part_C (c : Int) (h0 : 0 ≤ c) (h127 : c < 128) (w : World)
    (e1 : mcB c 99 = true) (e2 : mcB c 112 = false) (e3 : mcB c 119 = false) (e4 : (c == 32) = false) (e5 : mcB c 115 = true) (e6 : mcB c 122 = false) :
    Calls Try.prog 4 #[.int .u8 c] w fun e w' => e = .returned (.bool true) ∧ w' = w := by
  go_enter Try.func4, Try.ntmps4
  go_wp2_with (first | (go_at_call 11; refine (zzMatchClass_any _ _ (by decide) (by decide) _).mono ?_; rintro e w' ⟨rfl, hw⟩; obtain rfl := hw.symm))
  go_ret
  exact ⟨rfl, rfl⟩
set_option maxHeartbeats 400000 in
theorem part_D (w : World) :
    Calls Try.prog 4 #[.int .u8 32] w fun e w' => e = .returned (.bool true) ∧ w' = w := by
  have e1 : mcB 32 99 = false := by decide +kernel
  have e2 : mcB 32 112 = false := by decide +kernel
  have e3 : mcB 32 119 = false := by decide +kernel
  have e5 : mcB 32 115 = true := by decide +kernel
  have e6 : mcB 32 122 = false := by decide +kernel
  go_enter Try.func4, Try.ntmps4
  go_wp2_with (first | (go_at_call 11; refine (zzMatchClass_any _ _ (by decide) (by decide) _).mono ?_; rintro e w' ⟨rfl, hw⟩; obtain rfl := hw.symm))
  go_ret
  exact ⟨rfl, rfl⟩
set_option maxHeartbeats 400000 in
theorem part_E (c : Int) (h0 : 0 ≤ c) (h127 : c < 128) (w : World)
    (e1 : mcB c 99 = false) (e2 : mcB c 112 = true) (e3 : mcB c 119 = false) (e4 : (c == 32) = false) (e5 : mcB c 115 = false) (e6 : mcB c 122 = false) :
    Calls Try.prog 4 #[.int .u8 c] w fun e w' => e = .returned (.bool true) ∧ w' = w := by
  go_enter Try.func4, Try.ntmps4
  go_wp2_with (first | (go_at_call 11; refine (zzMatchClass_any _ _ (by decide) (by decide) _).mono ?_; rintro e w' ⟨rfl, hw⟩; obtain rfl := hw.symm))
  go_ret
  exact ⟨rfl, rfl⟩
set_option maxHeartbeats 400000 in
theorem part_F (c : Int) (h0 : 0 ≤ c) (h127 : c < 128) (w : World)
    (e1 : mcB c 99 = false) (e2 : mcB c 112 = false) (e3 : mcB c 119 = true) (e4 : (c == 32) = false) (e5 : mcB c 115 = false) (e6 : mcB c 122 = false) :
    Calls Try.prog 4 #[.int .u8 c] w fun e w' => e = .returned (.bool true) ∧ w' = w := by
  go_enter Try.func4, Try.ntmps4
  go_wp2_with (first | (go_at_call 11; refine (zzMatchClass_any _ _ (by decide) (by decide) _).mono ?_; rintro e w' ⟨rfl, hw⟩; obtain rfl := hw.symm))
  go_ret
  exact ⟨rfl, rfl⟩
set_option maxHeartbeats 400000 in
theorem part_hi (c : Int) (h0 : 128 ≤ c) (h255 : c ≤ 255) (w : World)
    (e1 : mcB c 99 = false) (e2 : mcB c 112 = false) (e3 : mcB c 119 = false) (e4 : (c == 32) = false) (e5 : mcB c 115 = false) (e6 : mcB c 122 = false) :
    Calls Try.prog 4 #[.int .u8 c] w fun e w' => e = .returned (.bool true) ∧ w' = w := by
  go_enter Try.func4, Try.ntmps4
  go_wp2_with (first | (go_at_call 11; refine (zzMatchClass_any _ _ (by decide) (by decide) _).mono ?_; rintro e w' ⟨rfl, hw⟩; obtain rfl := hw.symm))
  go_loop [8] (fun i => ∃ k : Nat, k ≤ 10 ∧ i = .int .i64 k) (fun i => 10 - (intOf i).toNat)
  case atStart => exact ⟨0, Nat.zero_le _, rfl⟩
  case round =>
    obtain ⟨k, hk, rfl⟩ := hrel
    by_cases hlt : k < 10
    · have hcmp : mcB c ((low10[k]'(low10_size k hlt)).toNat : Int) = false := hi_low c h0 k hlt
      simp only [low10] at hcmp
      go_wp2_with (first | (go_at_call 11; refine (zzMatchClass_byte _ _ _).mono ?_; rintro e w' ⟨rfl, hw⟩; obtain rfl := hw.symm))
      go_round
      case rel => exact ⟨k + 1, by omega, by go_num⟩
      case measure => simp [intOf]; omega
    · go_wp2_with (first | (go_at_call 11; refine (zzMatchClass_any _ _ (by decide) (by decide) _).mono ?_; rintro e w' ⟨rfl, hw⟩; obtain rfl := hw.symm))
      go_ret
      exact ⟨rfl, rfl⟩

theorem part_any (c : Int) (h0 : 0 ≤ c) (h255 : c ≤ 255) (w : World) :
    Calls Try.prog 4 #[.int .u8 c] w fun e w' => e = .returned (.bool true) ∧ w' = w := by
  obtain ⟨f1, f2, f3, f5, f6⟩ := mcB_facts2 c
  by_cases hc : c = 32
  · subst hc; exact part_D w
  have e4 : (c == 32) = false := by simpa using hc
  by_cases hh : 128 ≤ c
  · exact part_hi c hh h255 w (f1.trans (decide_eq_false (by omega))) (f2.trans (pun_no c (by omega))) (f3.trans (decide_eq_false (by omega))) e4 (f5.trans (decide_eq_false (by omega))) (f6.trans (decide_eq_false (by omega)))
  have hr : c = 0 ∨ (1 ≤ c ∧ c ≤ 8) ∨ (9 ≤ c ∧ c ≤ 13) ∨ ((14 ≤ c ∧ c ≤ 31) ∨ c = 127) ∨ ((97 ≤ c ∧ c ≤ 122) ∨ (65 ≤ c ∧ c ≤ 90) ∨ (48 ≤ c ∧ c ≤ 57)) ∨ ((32 < c ∧ c < 127) ∧ ¬ ((97 ≤ c ∧ c ≤ 122) ∨ (65 ≤ c ∧ c ≤ 90) ∨ (48 ≤ c ∧ c ≤ 57))) := by omega
  rcases hr with h | h | h | h | h | h
  · exact part_A c h0 (by omega) w (f1.trans (decide_eq_true (by omega))) (f2.trans (pun_no c (by omega))) (f3.trans (decide_eq_false (by omega))) e4 (f5.trans (decide_eq_false (by omega))) (f6.trans (decide_eq_true (by omega)))
  · exact part_B c h0 (by omega) w (f1.trans (decide_eq_true (by omega))) (f2.trans (pun_no c (by omega))) (f3.trans (decide_eq_false (by omega))) e4 (f5.trans (decide_eq_false (by omega))) (f6.trans (decide_eq_false (by omega)))
  · exact part_C c h0 (by omega) w (f1.trans (decide_eq_true (by omega))) (f2.trans (pun_no c (by omega))) (f3.trans (decide_eq_false (by omega))) e4 (f5.trans (decide_eq_true (by omega))) (f6.trans (decide_eq_false (by omega)))
  · exact part_B c h0 (by omega) w (f1.trans (decide_eq_true (by omega))) (f2.trans (pun_no c (by omega))) (f3.trans (decide_eq_false (by omega))) e4 (f5.trans (decide_eq_false (by omega))) (f6.trans (decide_eq_false (by omega)))
  · exact part_F c h0 (by omega) w (f1.trans (decide_eq_false (by omega))) (f2.trans (pun_aln c h)) (f3.trans (decide_eq_true (by omega))) e4 (f5.trans (decide_eq_false (by omega))) (f6.trans (decide_eq_false (by omega)))
  · exact part_E c h0 (by omega) w (f1.trans (decide_eq_false (by omega))) (f2.trans (pun_yes c h.1 h.2)) (f3.trans (decide_eq_false (by omega))) e4 (f5.trans (decide_eq_false (by omega))) (f6.trans (decide_eq_false (by omega)))
end Go.Proofs.Qxb6600823a
