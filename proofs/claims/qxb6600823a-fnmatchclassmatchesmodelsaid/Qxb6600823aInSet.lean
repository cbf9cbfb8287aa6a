/-
  zzInSet_b1: whether a byte stands in a string, and what that says of the six given strings.
-/
import Derived.Test.Qxb6600823aClass
namespace Go.Proofs.Qxb6600823a
open Go.RowKit

def inSetB (c : Int) (s : ByteArray) : Bool := s.data.toList.any fun b => ((b.toNat : Int) == c)

def missTo (c : Int) (s : ByteArray) (k : Nat) : Prop := ∀ (j : Nat) (h : j < s.size), j < k → ¬ ((s[j].toNat : Int) = c)

theorem missTo_zero (c : Int) (s : ByteArray) : missTo c s 0 := fun j _ h => absurd h (Nat.not_lt_zero j)
theorem missTo_succ (c : Int) (s : ByteArray) (k : Nat) (hk : k < s.size) (h : missTo c s k) (h1 : ¬ ((s[k].toNat : Int) = c)) : missTo c s (k + 1) := by
  intro j hj hjk
  by_cases e : j = k
  · subst e; exact h1
  · exact h j hj (by omega)
theorem inSet_hit (c : Int) (s : ByteArray) (k : Nat) (hk : k < s.size) (h : (s[k].toNat : Int) = c) : inSetB c s = true := by
  unfold inSetB
  rw [List.any_eq_true]
  exact ⟨s[k], by show s.data[k] ∈ s.data.toList; simp, by simpa using h⟩
theorem inSet_miss (c : Int) (s : ByteArray) (k : Nat) (hk : s.size ≤ k) (h : missTo c s k) : inSetB c s = false := by
  unfold inSetB
  rw [List.any_eq_false]
  intro b hb
  rw [List.mem_iff_getElem] at hb
  obtain ⟨j, hj, e⟩ := hb
  have hj' : j < s.size := by simpa using hj
  have := h j hj' (by omega)
  have e' : s[j] = b := e
  rw [e'] at this
  simpa using this

set_option maxHeartbeats 400000 in
theorem inSet_any (c : Int) (s : ByteArray) (hs : s.size ≤ maxLen) (w : World) :
    Calls Try.prog 27 #[.int .u8 c, .string s] w fun e w' => e = .returned (.bool (inSetB c s)) ∧ w' = w := by
  unfold maxLen at hs
  go_enter Try.func27, Try.ntmps27
  go_wp2
  go_loop [5] (fun i => ∃ k : Nat, k ≤ s.size ∧ i = .int .i64 k ∧ missTo c s k) (fun i => s.size - (intOf i).toNat)
  case atStart => exact ⟨0, Nat.zero_le _, rfl, missTo_zero c s⟩
  case round =>
    obtain ⟨k, hk, rfl, hno⟩ := hrel
    by_cases hlt : k < s.size
    · go_wp2
      · have h1 : ((s[k].toNat : Int) == c) = true := by assumption
        go_ret
        exact ⟨ret_bool (inSet_hit c s k hlt (by simpa using h1)).symm, rfl⟩
      · have h1 : ((s[k].toNat : Int) == c) = false := by assumption
        go_round
        case rel => exact ⟨k + 1, by omega, by go_num, missTo_succ c s k hlt hno (by simpa using h1)⟩
        case measure => simp [intOf]; omega
    · have HV : Hid (inSetB c s = false) := inSet_miss c s k (by omega) hno
      go_wp2
      go_ret
      exact ⟨ret_bool HV.out.symm, rfl⟩

def hexLB (c : Int) : Bool := decide ((97 ≤ c ∧ c ≤ 102) ∨ (65 ≤ c ∧ c ≤ 70))

theorem fin_of (P : Int → Prop) (h : ∀ n : Fin 256, P (n.val : Int)) (c : Int) (h0 : 0 ≤ c) (h255 : c ≤ 255) : P c := by
  have hn : ((⟨c.toNat, by omega⟩ : Fin 256).val : Int) = c := by show (c.toNat : Int) = c; omega
  have := h ⟨c.toNat, by omega⟩
  rw [hn] at this
  exact this

theorem set_dec (c : Int) (h0 : 0 ≤ c) (h255 : c ≤ 255) : inSetB c ⟨#[48, 49, 50, 51, 52, 53, 54, 55, 56, 57]⟩ = digB c :=
  fin_of (fun c => inSetB c ⟨#[48, 49, 50, 51, 52, 53, 54, 55, 56, 57]⟩ = digB c) (by decide +kernel) c h0 h255
theorem set_low (c : Int) (h0 : 0 ≤ c) (h255 : c ≤ 255) : inSetB c ⟨#[97, 98, 99, 100, 101, 102, 103, 104, 105, 106, 107, 108, 109, 110, 111, 112, 113, 114, 115, 116, 117, 118, 119, 120, 121, 122]⟩ = lowB c :=
  fin_of (fun c => inSetB c ⟨#[97, 98, 99, 100, 101, 102, 103, 104, 105, 106, 107, 108, 109, 110, 111, 112, 113, 114, 115, 116, 117, 118, 119, 120, 121, 122]⟩ = lowB c) (by decide +kernel) c h0 h255
theorem set_upp (c : Int) (h0 : 0 ≤ c) (h255 : c ≤ 255) : inSetB c ⟨#[65, 66, 67, 68, 69, 70, 71, 72, 73, 74, 75, 76, 77, 78, 79, 80, 81, 82, 83, 84, 85, 86, 87, 88, 89, 90]⟩ = uppB c :=
  fin_of (fun c => inSetB c ⟨#[65, 66, 67, 68, 69, 70, 71, 72, 73, 74, 75, 76, 77, 78, 79, 80, 81, 82, 83, 84, 85, 86, 87, 88, 89, 90]⟩ = uppB c) (by decide +kernel) c h0 h255
theorem set_hex (c : Int) (h0 : 0 ≤ c) (h255 : c ≤ 255) : inSetB c ⟨#[97, 98, 99, 100, 101, 102, 65, 66, 67, 68, 69, 70]⟩ = hexLB c :=
  fin_of (fun c => inSetB c ⟨#[97, 98, 99, 100, 101, 102, 65, 66, 67, 68, 69, 70]⟩ = hexLB c) (by decide +kernel) c h0 h255
theorem set_spc (c : Int) (h0 : 0 ≤ c) (h255 : c ≤ 255) : inSetB c ⟨#[32, 9, 10, 11, 12, 13]⟩ = spcB c :=
  fin_of (fun c => inSetB c ⟨#[32, 9, 10, 11, 12, 13]⟩ = spcB c) (by decide +kernel) c h0 h255
theorem set_pun (c : Int) (h0 : 0 ≤ c) (h255 : c ≤ 255) : inSetB c ⟨#[33, 34, 35, 36, 37, 38, 39, 40, 41, 42, 43, 44, 45, 46, 47, 58, 59, 60, 61, 62, 63, 64, 91, 92, 93, 94, 95, 96, 123, 124, 125, 126]⟩ = punB c :=
  fin_of (fun c => inSetB c ⟨#[33, 34, 35, 36, 37, 38, 39, 40, 41, 42, 43, 44, 45, 46, 47, 58, 59, 60, 61, 62, 63, 64, 91, 92, 93, 94, 95, 96, 123, 124, 125, 126]⟩ = punB c) (by decide +kernel) c h0 h255
end Go.Proofs.Qxb6600823a
