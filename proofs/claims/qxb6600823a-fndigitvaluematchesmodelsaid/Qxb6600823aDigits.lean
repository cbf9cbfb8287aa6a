/-
  zzModelDigit_b1: the place of a byte in the two tables of 36 digits: it computes the same plain function as digitValue.
-/
import Derived.Test.Qxb6600823aBytes
namespace Go.Proofs.Qxb6600823a
open Go.RowKit

def low36 : ByteArray := ⟨#[48, 49, 50, 51, 52, 53, 54, 55, 56, 57, 97, 98, 99, 100, 101, 102, 103, 104, 105, 106, 107, 108, 109, 110, 111, 112, 113, 114, 115, 116, 117, 118, 119, 120, 121, 122]⟩
def upp36 : ByteArray := ⟨#[48, 49, 50, 51, 52, 53, 54, 55, 56, 57, 65, 66, 67, 68, 69, 70, 71, 72, 73, 74, 75, 76, 77, 78, 79, 80, 81, 82, 83, 84, 85, 86, 87, 88, 89, 90]⟩

theorem low_size (k : Nat) (h : k < 36) : k < low36.size := h
theorem upp_size (k : Nat) (h : k < 36) : k < upp36.size := h

/-- A digit's value is its place in the first table. -/
theorem low_hit : ∀ k : Fin 36, digV ((low36[k.val]'(low_size k.val k.isLt)).toNat : Int) = (k.val : Int) := by decide +kernel
theorem upp_hit : ∀ k : Fin 36, digV ((upp36[k.val]'(upp_size k.val k.isLt)).toNat : Int) = (k.val : Int) := by decide +kernel
/-- A byte of neither table has the value 99. -/
theorem miss_all : ∀ n : Fin 256, digV (n.val : Int) = 99 ∨ ∃ k : Fin 36, ((low36[k.val]'(low_size k.val k.isLt)).toNat : Int) = (n.val : Int) ∨ ((upp36[k.val]'(upp_size k.val k.isLt)).toNat : Int) = (n.val : Int) := by decide +kernel

def noHit (c : Int) (k : Nat) : Prop := ∀ (j : Nat) (h : j < 36), j < k → ¬ ((low36[j]'(low_size j h)).toNat : Int) = c ∧ ¬ ((upp36[j]'(upp_size j h)).toNat : Int) = c

theorem noHit_zero (c : Int) : noHit c 0 := fun j _ h => absurd h (Nat.not_lt_zero j)
theorem noHit_succ (c : Int) (k : Nat) (hk : k < 36) (h : noHit c k) (h1 : ¬ ((low36[k]'(low_size k hk)).toNat : Int) = c) (h2 : ¬ ((upp36[k]'(upp_size k hk)).toNat : Int) = c) : noHit c (k + 1) := by
  intro j hj hjk
  by_cases e : j = k
  · subst e; exact ⟨h1, h2⟩
  · exact h j hj (by omega)
theorem noHit_end (c : Int) (h0 : 0 ≤ c) (h255 : c ≤ 255) (k : Nat) (hk : 36 ≤ k) (h : noHit c k) : digV c = 99 := by
  have hn : c = ((⟨c.toNat, by omega⟩ : Fin 256).val : Int) := by show c = (c.toNat : Int); omega
  rw [hn]
  rcases miss_all ⟨c.toNat, by omega⟩ with hm | ⟨j, hm⟩
  · exact hm
  · rw [← hn] at hm
    have := h j.val j.isLt (by omega)
    rcases hm with hm | hm
    · exact absurd hm this.1
    · exact absurd hm this.2

theorem low_val (c : Int) (k : Nat) (hk : k < 36) (h : ((low36[k]'(low_size k hk)).toNat : Int) = c) : (k : Int) = digV c := by
  rw [← h]; exact (low_hit ⟨k, hk⟩).symm
theorem upp_val (c : Int) (k : Nat) (hk : k < 36) (h1 : ¬ ((low36[k]'(low_size k hk)).toNat : Int) = c)
    (h : (((low36[k]'(low_size k hk)).toNat : Int) == c) = true ∨ (((upp36[k]'(upp_size k hk)).toNat : Int) == c) = true) : (k : Int) = digV c := by
  rcases h with h | h
  · exact absurd (by simpa using h) h1
  · have h2 : ((upp36[k]'(upp_size k hk)).toNat : Int) = c := by simpa using h
    rw [← h2]; exact (upp_hit ⟨k, hk⟩).symm

set_option maxHeartbeats 400000 in
theorem modelDigit_any (c : Int) (h0 : 0 ≤ c) (h255 : c ≤ 255) (w : World) :
    Calls Try.prog 14 #[.int .u8 c] w fun e w' => e = .returned (.int .i64 (digV c)) ∧ w' = w := by
  go_enter Try.func14, Try.ntmps14
  go_wp2
  go_loop [3] (fun i => ∃ k : Nat, k ≤ 36 ∧ i = .int .i64 k ∧ noHit c k) (fun i => 36 - (intOf i).toNat)
  case atStart => exact ⟨0, Nat.zero_le _, rfl, noHit_zero c⟩
  case round =>
    obtain ⟨k, hk, rfl, hno⟩ := hrel
    by_cases hlt : k < 36
    · go_wp2
      · have h1 : ((low36[k]'(low_size k hlt)).toNat : Int) = c := by assumption
        go_ret
        exact ⟨ret_int (low_val c k hlt h1), rfl⟩
      · have h1 : ¬ ((low36[k]'(low_size k hlt)).toNat : Int) = c := by assumption
        have h2 : (((low36[k]'(low_size k hlt)).toNat : Int) == c) = true ∨ (((upp36[k]'(upp_size k hlt)).toNat : Int) == c) = true := by assumption
        go_ret
        exact ⟨ret_int (upp_val c k hlt h1 h2), rfl⟩
      · have h1 : ¬ ((low36[k]'(low_size k hlt)).toNat : Int) = c := by assumption
        have h2 : (((low36[k]'(low_size k hlt)).toNat : Int) == c) = false ∧ (((upp36[k]'(upp_size k hlt)).toNat : Int) == c) = false := by assumption
        go_round
        case rel => exact ⟨k + 1, by omega, by go_num, noHit_succ c k hlt hno h1 (by simpa using h2.2)⟩
        case measure => simp [intOf]; omega
    · have HV : Hid (digV c = 99) := noHit_end c h0 h255 k (by omega) hno
      go_wp2
      go_ret
      exact ⟨ret_int HV.out.symm, rfl⟩
end Go.Proofs.Qxb6600823a
