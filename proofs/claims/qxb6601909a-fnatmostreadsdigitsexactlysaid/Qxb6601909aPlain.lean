/-
  Digit texts and their numbers: no Go in sight.
-/
import Derived.Test.Qxb6601909aRows
import Derived.WalkKit
namespace Go.Proofs.Qxb6601909a

/-- Every byte is a decimal digit. -/
def AllDig (s : ByteArray) : Prop := ∀ (j : Nat) (h : j < s.size), 48 ≤ (s[j].toNat : Int) ∧ (s[j].toNat : Int) ≤ 57
/-- .. the first k bytes. -/
def DigTo (s : ByteArray) (k : Nat) : Prop := ∀ (j : Nat) (h : j < s.size), j < k → 48 ≤ (s[j].toNat : Int) ∧ (s[j].toNat : Int) ≤ 57
theorem digTo_zero (s : ByteArray) : DigTo s 0 := fun j _ h => absurd h (Nat.not_lt_zero j)
theorem digTo_succ (s : ByteArray) (k : Nat) (hk : k < s.size) (h : DigTo s k) (h1 : 48 ≤ (s[k].toNat : Int)) (h2 : (s[k].toNat : Int) ≤ 57) : DigTo s (k + 1) := by
  intro j hj hjk
  by_cases e : j = k
  · subst e; exact ⟨h1, h2⟩
  · exact h j hj (by omega)
theorem digTo_all (s : ByteArray) (k : Nat) (hk : s.size ≤ k) (h : DigTo s k) : AllDig s := fun j hj => h j hj (by omega)

/-- The number that the first k bytes write. -/
def dv (s : ByteArray) : Nat → Int
  | 0 => 0
  | k + 1 => 10 * dv s k + (((s.data.toList.getD k 48).toNat : Int) - 48)

theorem dv_zero (s : ByteArray) : dv s 0 = 0 := rfl
theorem dv_succ (s : ByteArray) (k : Nat) (h : k < s.size) : dv s (k + 1) = 10 * dv s k + ((s[k].toNat : Int) - 48) := by
  have e : s.data.toList.getD k 48 = s[k] := by
    rw [List.getD_eq_getElem?_getD, List.getElem?_eq_getElem (by simpa using h)]; rfl
  show 10 * dv s k + (((s.data.toList.getD k 48).toNat : Int) - 48) = _
  rw [e]

theorem dv_lo (s : ByteArray) (ha : AllDig s) : ∀ k, k ≤ s.size → 0 ≤ dv s k
  | 0, _ => by rw [dv_zero]; omega
  | k + 1, h => by
    have ih := dv_lo s ha k (by omega)
    have hd := ha k (by omega)
    rw [dv_succ s k (by omega)]; omega
theorem dv_hi (s : ByteArray) (ha : AllDig s) : ∀ k, k ≤ s.size → dv s k < 10 ^ k
  | 0, _ => by rw [dv_zero]; decide
  | k + 1, h => by
    have ih := dv_hi s ha k (by omega)
    have hd := ha k (by omega)
    rw [dv_succ s k (by omega), Int.pow_succ]; omega
theorem pow_mono : ∀ k, k ≤ 18 → (10 : Int) ^ k ≤ 10 ^ 18 := by
  intro k hk
  have : ∀ n : Fin 19, (10 : Int) ^ n.val ≤ 10 ^ 18 := by decide +kernel
  exact this ⟨k, by omega⟩
theorem pow_mono17 : ∀ k, k ≤ 17 → (10 : Int) ^ k ≤ 10 ^ 17 := by
  intro k hk
  have : ∀ n : Fin 18, (10 : Int) ^ n.val ≤ 10 ^ 17 := by decide +kernel
  exact this ⟨k, by omega⟩
theorem dv_le18 (s : ByteArray) (ha : AllDig s) (k : Nat) (h : k ≤ s.size) (hk : k ≤ 18) : dv s k ≤ 999999999999999999 := by
  have h1 := dv_hi s ha k h
  have h2 := pow_mono k hk
  have h3 : (10 : Int) ^ 18 = 1000000000000000000 := by decide
  omega
theorem dv_le17 (s : ByteArray) (ha : AllDig s) (k : Nat) (h : k ≤ s.size) (hk : k ≤ 17) : dv s k ≤ 99999999999999999 := by
  have h1 := dv_hi s ha k h
  have h2 := pow_mono17 k hk
  have h3 : (10 : Int) ^ 17 = 100000000000000000 := by decide
  omega
theorem dv_mod (s : ByteArray) (ha : AllDig s) (k : Nat) (h : k < s.size) : 48 + dv s (k + 1) % 10 = (s[k].toNat : Int) := by
  have hd := ha k h
  have hl := dv_lo s ha k (by omega)
  rw [dv_succ s k h]; omega
theorem dv_div (s : ByteArray) (ha : AllDig s) (k : Nat) (h : k < s.size) : dv s (k + 1) / 10 = dv s k := by
  have hd := ha k h
  have hl := dv_lo s ha k (by omega)
  rw [dv_succ s k h]; omega

theorem extract_size (s : ByteArray) (z : Nat) : (s.extract z s.size).size = s.size - z := by simp
theorem extract_dig (s : ByteArray) (z : Nat) (ha : AllDig s) : AllDig (s.extract z s.size) := by
  intro j hj
  have hj' : z + j < s.size := by rw [extract_size] at hj; omega
  have e : (s.extract z s.size)[j] = s[z + j] := by simp [ByteArray.getElem_extract]
  rw [e]
  exact ha _ hj'
end Go.Proofs.Qxb6601909a
