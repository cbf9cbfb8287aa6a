/-
  zzModelClass_b1 at the letter 'c'; at all ten letters; zzModelMatchClass_b1: it computes the same plain function as matchClass.
-/
import Derived.Test.Qxb6600823aModel
import Derived.Test.Qxb6600823aLattice
import Derived.Deep.RegionWith
namespace Go.Proofs.Qxb6600823a
open Go.RowKit
set_option linter.unusedVariables false

set_option maxHeartbeats 1000000 in
theorem model_c (c : Int) (h0 : 0 ≤ c) (h255 : c ≤ 255) (w : World) :
    Calls Try.prog 20 #[.int .u8 c, .int .u8 99] w fun e w' => e = .returned (.bool (ctlB c)) ∧ w' = w := by
  have E : Hid (ctlB c = (decide (c < 128) && (c != 32) && !punB c && !alnumB c)) := ctl_eq c h0
  cases k0 : decide (c < 128) <;> cases k1 : (c != 32) <;> cases k2 : punB c <;> cases k3 : alnumB c
  all_goals
    have E2 := E.out
    rw [k0, k1, k2, k3] at E2
    have E3 : Hid (ctlB c = _) := E2
    clear E2 E
    go_enter Try.func20, Try.ntmps20
    go_wp2_with (first
      | (go_at_call_of 20 (Value.int IntKind.u8 112); refine (model_p _ h0 h255 _).mono ?_; rintro e w' ⟨rfl, hw⟩; obtain rfl := hw.symm)
      | (go_at_call_of 20 (Value.int IntKind.u8 119); refine (model_w _ h0 h255 _).mono ?_; rintro e w' ⟨rfl, hw⟩; obtain rfl := hw.symm))
    go_ret
    exact ⟨ret_bool E3.out.symm, rfl⟩

theorem model_byte (c : Int) (h0 : 0 ≤ c) (h255 : c ≤ 255) (k : Nat) (h : k < 10) (w : World) :
    Calls Try.prog 20 #[.int .u8 c, .int .u8 ((low10[k]'(low10_size k h)).toNat : Int)] w fun e w' => e = .returned (.bool (mcB c ((low10[k]'(low10_size k h)).toNat : Int))) ∧ w' = w := by
  match k, h with
  | 0, _ => exact model_a c h0 h255 w
  | 1, _ => exact model_c c h0 h255 w
  | 2, _ => exact model_d c h0 h255 w
  | 3, _ => exact model_l c h0 h255 w
  | 4, _ => exact model_p c h0 h255 w
  | 5, _ => exact model_s c h0 h255 w
  | 6, _ => exact model_u c h0 h255 w
  | 7, _ => exact model_w c h0 h255 w
  | 8, _ => exact model_x c h0 h255 w
  | 9, _ => exact model_z c h0 h255 w
  | n + 10, h => exact absurd h (by omega)

def noCl (cl : Int) (k : Nat) : Prop := ∀ (j : Nat) (h : j < 10), j < k → ¬ cl = ((low10[j]'(low10_size j h)).toNat : Int) ∧ ¬ cl = ((upp10[j]'(upp10_size j h)).toNat : Int)
theorem noCl_zero (cl : Int) : noCl cl 0 := fun j _ h => absurd h (Nat.not_lt_zero j)
theorem noCl_succ (cl : Int) (k : Nat) (hk : k < 10) (h : noCl cl k) (h1 : ¬ cl = ((low10[k]'(low10_size k hk)).toNat : Int)) (h2 : ¬ cl = ((upp10[k]'(upp10_size k hk)).toNat : Int)) : noCl cl (k + 1) := by
  intro j hj hjk
  by_cases e : j = k
  · subst e; exact ⟨h1, h2⟩
  · exact h j hj (by omega)
theorem mem_low : ∀ n : Fin 256, lowers.contains (n.val : Int) = true → ∃ j : Fin 10, (n.val : Int) = ((low10[j.val]'(low10_size j.val j.isLt)).toNat : Int) := by decide +kernel
theorem mem_upp : ∀ n : Fin 256, lowers.contains ((n.val : Int) + 32) = true → ∃ j : Fin 10, (n.val : Int) = ((upp10[j.val]'(upp10_size j.val j.isLt)).toNat : Int) := by decide +kernel
theorem noCl_end (c cl : Int) (h0 : 0 ≤ cl) (h255 : cl ≤ 255) (k : Nat) (hk : 10 ≤ k) (h : noCl cl k) : (c == cl) = mcB c cl := by
  have hl : ¬ lowers.contains cl = true := by
    intro hm
    obtain ⟨j, hj⟩ := fin_of (fun n => lowers.contains n = true → ∃ j : Fin 10, n = ((low10[j.val]'(low10_size j.val j.isLt)).toNat : Int)) mem_low cl h0 h255 hm
    exact (h j.val j.isLt (by omega)).1 hj
  have hu : ¬ lowers.contains (cl + 32) = true := by
    intro hm
    obtain ⟨j, hj⟩ := fin_of (fun n => lowers.contains (n + 32) = true → ∃ j : Fin 10, n = ((upp10[j.val]'(upp10_size j.val j.isLt)).toNat : Int)) mem_upp cl h0 h255 hm
    exact (h j.val j.isLt (by omega)).2 hj
  unfold mcB
  rw [if_neg hl, if_neg hu]
  exact Bool.beq_comm

theorem hit_low (c cl : Int) (k : Nat) (hk : k < 10) (h : (cl == ((low10[k]'(low10_size k hk)).toNat : Int)) = true) : mcB c ((low10[k]'(low10_size k hk)).toNat : Int) = mcB c cl := by
  have e : cl = ((low10[k]'(low10_size k hk)).toNat : Int) := by simpa using h
  rw [← e]
theorem hit_upp (c cl : Int) (k : Nat) (hk : k < 10) (h : (cl == ((upp10[k]'(upp10_size k hk)).toNat : Int)) = true) : (!mcB c ((low10[k]'(low10_size k hk)).toNat : Int)) = mcB c cl := by
  have e : cl = ((upp10[k]'(upp10_size k hk)).toNat : Int) := by simpa using h
  have h2 := upp_low c k hk
  rw [← e] at h2
  cases hx : mcB c cl <;> cases hy : mcB c ((low10[k]'(low10_size k hk)).toNat : Int) <;> rw [hx, hy] at h2 <;> first | rfl | exact absurd h2 (by decide)

set_option maxHeartbeats 400000 in
theorem modelMatch_any (c cl : Int) (h0 : 0 ≤ c) (h255 : c ≤ 255) (g0 : 0 ≤ cl) (g255 : cl ≤ 255) (w : World) :
    Calls Try.prog 12 #[.int .u8 c, .int .u8 cl] w fun e w' => e = .returned (.bool (mcB c cl)) ∧ w' = w := by
  go_enter Try.func12, Try.ntmps12
  go_wp2_with fail
  go_loop [5] (fun i => ∃ k : Nat, k ≤ 10 ∧ i = .int .i64 k ∧ noCl cl k) (fun i => 10 - (intOf i).toNat)
  case atStart => exact ⟨0, Nat.zero_le _, rfl, noCl_zero cl⟩
  case round =>
    obtain ⟨k, hk, rfl, hno⟩ := hrel
    by_cases hlt : k < 10
    · go_wp2_with (go_at_call 20; refine (model_byte c h0 h255 k hlt _).mono ?_; rintro e w' ⟨rfl, hw⟩; obtain rfl := hw.symm)
      · have h1 : (cl == ((low10[k]'(low10_size k hlt)).toNat : Int)) = true := by assumption
        go_ret
        exact ⟨ret_bool (hit_low c cl k hlt h1), rfl⟩
      · have h1 : (cl == ((upp10[k]'(upp10_size k hlt)).toNat : Int)) = true := by assumption
        go_ret
        exact ⟨ret_bool (hit_upp c cl k hlt h1), rfl⟩
      · have h1 : (cl == ((low10[k]'(low10_size k hlt)).toNat : Int)) = false := by assumption
        have h2 : (cl == ((upp10[k]'(upp10_size k hlt)).toNat : Int)) = false := by assumption
        go_round
        case rel => exact ⟨k + 1, by omega, by go_num, noCl_succ cl k hlt hno (by simpa using h1) (by simpa using h2)⟩
        case measure => simp [intOf]; omega
    · have HV : Hid ((c == cl) = mcB c cl) := noCl_end c cl g0 g255 k (by omega) hno
      go_wp2
      go_ret
      exact ⟨ret_bool HV.out, rfl⟩
end Go.Proofs.Qxb6600823a
