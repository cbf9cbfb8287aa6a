/-
  The plain law of FnLongBracketOpeningTable: what longBracket answers over the text that the law lays. No walk here.
-/
import Derived.Test.Qxb6600823aLexer
namespace Go.Proofs.Qxb6600823a

def headL (p : ByteArray) : List UInt8 := p.data.toList ++ [91]
def midL (p : ByteArray) (n : Nat) (x : UInt8) : List UInt8 := headL p ++ List.replicate n 61 ++ [x]
/-- The bytes that have been laid when k bytes of the last part t stand behind the first part a. -/
def laid (a t : List UInt8) (k : Nat) : List UInt8 := a ++ t.take k

theorem laid_all (p s : ByteArray) (n q : Nat) (x : UInt8) (h : s.size ≤ q) : laid (midL p n x) s.data.toList q = midL p n x ++ s.data.toList := by
  unfold laid; rw [List.take_of_length_le (by simpa using h)]
theorem laid_length (p s : ByteArray) (n q : Nat) (x : UInt8) (h : s.size ≤ q) : (laid (midL p n x) s.data.toList q).length = p.size + 1 + n + 1 + s.size := by
  rw [laid_all p s n q x h]; simp [midL, headL]; omega
theorem text_size (p s T : ByteArray) (n q : Nat) (x : UInt8) (h : s.size ≤ q) (hT : T = ⟨(laid (midL p n x) s.data.toList q).toArray⟩) : T.size = p.size + 1 + n + 1 + s.size := by
  rw [hT]; show (laid (midL p n x) s.data.toList q).toArray.size = _; rw [List.size_toArray]; exact laid_length p s n q x h
theorem text_at (p s T : ByteArray) (n q : Nat) (x : UInt8) (h : s.size ≤ q) (hT : T = ⟨(laid (midL p n x) s.data.toList q).toArray⟩) (i : Nat) (b : UInt8) (hi : i < T.size)
    (hb : (midL p n x ++ s.data.toList)[i]? = some b) : T[i] = b := by
  subst hT
  have e : (⟨(laid (midL p n x) s.data.toList q).toArray⟩ : ByteArray)[i] = (laid (midL p n x) s.data.toList q)[i]'(by have h2 : i < (laid (midL p n x) s.data.toList q).toArray.size := hi; rw [List.size_toArray] at h2; exact h2) := rfl
  rw [e]
  have := laid_all p s n q x h
  rw [List.getElem_eq_iff, this]
  exact hb
theorem text_eq (p s T : ByteArray) (n q : Nat) (x : UInt8) (h : s.size ≤ q) (hT : T = ⟨(laid (midL p n x) s.data.toList q).toArray⟩) (j : Nat) (hj : j < n) (hi : p.size + 1 + j < T.size) : T[p.size + 1 + j] = 61 := by
  refine text_at p s T n q x h hT _ 61 hi ?_
  have hp : p.data.toList.length = p.size := by simp
  unfold midL headL
  rw [List.append_assoc, List.append_assoc, List.getElem?_append_right (by simp <;> omega), List.getElem?_append_left (by simp <;> omega)]
  simp [List.getElem?_replicate]
  omega
theorem text_x (p s T : ByteArray) (n q : Nat) (x : UInt8) (h : s.size ≤ q) (hT : T = ⟨(laid (midL p n x) s.data.toList q).toArray⟩) (hi : p.size + 1 + n < T.size) : T[p.size + 1 + n] = x := by
  refine text_at p s T n q x h hT _ x hi ?_
  unfold midL headL
  rw [List.append_assoc, List.getElem?_append_right (by simp; omega)]
  have e : p.size + 1 + n - (p.data.toList ++ [91] ++ List.replicate n 61).length = 0 := by simp; omega
  rw [e]
  rfl

theorem lb_table (p s T : ByteArray) (n q : Nat) (x : UInt8) (h : s.size ≤ q) (hT : T = ⟨(laid (midL p n x) s.data.toList q).toArray⟩) (hx : ¬ (x.toNat : Int) = 61) (lv np : Int) (hL : LB T (p.size + 1) lv np) :
    ((x.toNat : Int) = 91 → lv = n ∧ np = (p.size : Int) + n + 2) ∧ (¬ (x.toNat : Int) = 91 → n = 0 → lv = -1 ∧ np = (p.size : Int) + 1) ∧ (¬ (x.toNat : Int) = 91 → 0 < n → lv = -2 ∧ np = (p.size : Int) + 1 + n) := by
  obtain ⟨m, hrun, hend, hcase⟩ := hL
  have hsz := text_size p s T n q x h hT
  have hxi : p.size + 1 + n < T.size := by omega
  have hxv := text_x p s T n q x h hT hxi
  have hmn : m = n := by
    rcases Nat.lt_trichotomy m n with hlt | heq | hgt
    · exfalso
      have hi : p.size + 1 + m < T.size := by omega
      have := hend hi
      rw [text_eq p s T n q x h hT m hlt hi] at this
      exact this rfl
    · exact heq
    · exfalso
      have := hrun.2 (p.size + 1 + n) hxi (by omega) (by omega)
      rw [hxv] at this
      exact hx this
  subst hmn
  have hop : opens T (p.size + 1 + m) ↔ (x.toNat : Int) = 91 := by
    constructor
    · rintro ⟨hi, hh⟩; rw [hxv] at hh; exact hh
    · intro hh; exact ⟨hxi, by rw [hxv]; exact hh⟩
  rw [hop] at hcase
  rcases hcase with ⟨h1, h2, h3⟩ | ⟨h1, h2, h3, h4⟩ | ⟨h1, h2, h3, h4⟩
  · exact ⟨fun _ => ⟨h2, by omega⟩, fun hh => absurd h1 hh, fun hh => absurd h1 hh⟩
  · exact ⟨fun hh => absurd hh h1, fun _ _ => ⟨h3, by omega⟩, fun _ hh => by omega⟩
  · exact ⟨fun hh => absurd hh h1, fun _ hh => by omega, fun _ _ => ⟨h3, by omega⟩⟩
end Go.Proofs.Qxb6600823a
