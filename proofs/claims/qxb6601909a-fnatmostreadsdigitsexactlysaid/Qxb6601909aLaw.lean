/-
  FnAtMostReadsDigitsExactly: the walk.
-/
import Derived.Test.Qxb6601909aParts
namespace Go.Proofs.Qxb6601909a
open Go.RowKit
set_option linter.unusedVariables false

/-- The number that the whole text writes. -/
def dvAll (t : ByteArray) : Int := dv t t.size

theorem kept_refl (w : World) : w.keptBut w (fun _ => False) := World.keptBut_refl _ _

theorem at_long (s : ByteArray) (z : Nat) (b : Int) (hz : z ≤ s.size) (hs : s.size ≤ 1048576) (hl : 19 ≤ s.size - z) (w : World) :
    Calls Try.prog 7 #[.string s, .int .i64 z, .int .i64 b] w fun e w' => e = .returned (.tuple #[.int .i64 0, .bool false]) ∧ Below w.heap.size w w' :=
  zzAtMost_long s (s.extract z s.size) z b (rfl : s.extract z s.size = s.extract z s.size) hz hs (by rw [extract_size]; exact hl) w
theorem at_any (s : ByteArray) (z : Nat) (b : Int) (hz : z ≤ s.size) (hs : s.size ≤ 1048576) (hl : s.size - z ≤ 18) (ha : AllDig s) (w : World) :
    Calls Try.prog 7 #[.string s, .int .i64 z, .int .i64 b] w fun e w' => e = .returned (.tuple #[.int .i64 (dvAll (s.extract z s.size)), .bool (decide (dvAll (s.extract z s.size) ≤ b))]) ∧ Below w.heap.size w w' :=
  zzAtMost_any s (s.extract z s.size) z b (rfl : s.extract z s.size = s.extract z s.size) hz hs (by rw [extract_size]; exact hl) (extract_dig s z ha) w
theorem wr_any (s : ByteArray) (z : Nat) (hl : s.size - z ≤ 18) (ha : AllDig s) (w : World) :
    Calls Try.prog 8 #[.int .i64 (dvAll (s.extract z s.size)), .string (s.extract z s.size)] w fun e w' => e = .returned (.bool true) ∧ w = w' :=
  written_any (s.extract z s.size) (by rw [extract_size]; exact hl) (extract_dig s z ha) w

set_option maxHeartbeats 400000 in
theorem law_long (s : ByteArray) (z b : Int) (hs : 1048576 < s.size) (w : World) :
    Calls Try.prog 3 #[.string s, .int .i64 z, .int .i64 b] w fun e w' => e = .returned (.bool true) ∧ w.keptBut w' (fun _ => False) := by
  go_enter Try.func3, Try.ntmps3
  go_wp2_with (go_at_call 5; refine (bytes5_no s z b hs _).mono ?_; rintro e w' ⟨rfl, rfl⟩)
  go_ret
  exact ⟨rfl, kept_refl _⟩
set_option maxHeartbeats 400000 in
theorem law_neg (s : ByteArray) (z b : Int) (hs : s.size ≤ 1048576) (hz : z < 0) (w : World) :
    Calls Try.prog 3 #[.string s, .int .i64 z, .int .i64 b] w fun e w' => e = .returned (.bool true) ∧ w.keptBut w' (fun _ => False) := by
  go_enter Try.func3, Try.ntmps3
  go_wp2_with (go_at_call 5; refine (bytes5_ok s z b hs _).mono ?_; rintro e w' ⟨rfl, rfl⟩)
  go_ret
  exact ⟨rfl, kept_refl _⟩
set_option maxHeartbeats 400000 in
theorem law_past (s : ByteArray) (z b : Int) (hs : s.size ≤ 1048576) (h0 : 0 ≤ z) (hz : (s.size : Int) < z) (w : World) :
    Calls Try.prog 3 #[.string s, .int .i64 z, .int .i64 b] w fun e w' => e = .returned (.bool true) ∧ w.keptBut w' (fun _ => False) := by
  go_enter Try.func3, Try.ntmps3
  go_wp2_with (go_at_call 5; refine (bytes5_ok s z b hs _).mono ?_; rintro e w' ⟨rfl, rfl⟩)
  go_ret
  exact ⟨rfl, kept_refl _⟩
set_option maxHeartbeats 400000 in
theorem law_text (s : ByteArray) (z : Nat) (b : Int) (hs : s.size ≤ 1048576) (hz : z ≤ s.size) (hno : ¬ AllDig s) (w : World) :
    Calls Try.prog 3 #[.string s, .int .i64 z, .int .i64 b] w fun e w' => e = .returned (.bool true) ∧ w.keptBut w' (fun _ => False) := by
  go_enter Try.func3, Try.ntmps3
  go_wp2_with (first
    | (go_at_call 5; refine (bytes5_ok s z b hs _).mono ?_; rintro e w' ⟨rfl, rfl⟩)
    | (go_at_call 6; refine (decimal_no s hs hno _).mono ?_; rintro e w' ⟨rfl, rfl⟩))
  go_ret
  exact ⟨rfl, kept_refl _⟩
set_option maxHeartbeats 400000 in
theorem law_many (s : ByteArray) (z : Nat) (b : Int) (hs : s.size ≤ 1048576) (hz : z ≤ s.size) (ha : AllDig s) (hl : 19 ≤ s.size - z) (w : World) :
    Calls Try.prog 3 #[.string s, .int .i64 z, .int .i64 b] w fun e w' => e = .returned (.bool true) ∧ w.keptBut w' (fun _ => False) := by
  go_enter Try.func3, Try.ntmps3
  go_wp2_with (first
    | (go_at_call 5; refine (bytes5_ok s z b hs _).mono ?_; rintro e w' ⟨rfl, rfl⟩)
    | (go_at_call 6; refine (decimal_yes s hs ha _).mono ?_; rintro e w' ⟨rfl, rfl⟩)
    | (go_at_call 7; refine (at_long s z b hz hs hl _).mono ?_; rintro e w' ⟨rfl, hb⟩))
  go_ret
  exact ⟨rfl, hb.frame _⟩
set_option maxHeartbeats 400000 in
theorem law_few (s : ByteArray) (z : Nat) (b : Int) (hs : s.size ≤ 1048576) (hz : z ≤ s.size) (ha : AllDig s) (hl : s.size - z ≤ 18) (w : World) :
    Calls Try.prog 3 #[.string s, .int .i64 z, .int .i64 b] w fun e w' => e = .returned (.bool true) ∧ w.keptBut w' (fun _ => False) := by
  have h0 : 0 ≤ dvAll (s.extract z s.size) := dv_lo _ (extract_dig s z ha) _ (Nat.le_refl _)
  go_enter Try.func3, Try.ntmps3
  go_wp2_with (first
    | (go_at_call 5; refine (bytes5_ok s z b hs _).mono ?_; rintro e w' ⟨rfl, rfl⟩)
    | (go_at_call 6; refine (decimal_yes s hs ha _).mono ?_; rintro e w' ⟨rfl, rfl⟩)
    | (go_at_call 7; refine (at_any s z b hz hs hl ha _).mono ?_; rintro e w' ⟨rfl, hb⟩)
    | (go_at_call 8; refine (wr_any s z hl ha _).mono ?_; rintro e w' ⟨rfl, rfl⟩))
  go_ret
  exact ⟨ret_bool (by simp), hb.frame _⟩

theorem law_any (s : ByteArray) (z b : Int) (w : World) :
    Calls Try.prog 3 #[.string s, .int .i64 z, .int .i64 b] w fun e w' => e = .returned (.bool true) ∧ w.keptBut w' (fun _ => False) := by
  by_cases hs : 1048576 < s.size
  · exact law_long s z b hs w
  by_cases h0 : z < 0
  · exact law_neg s z b (by omega) h0 w
  by_cases h1 : (s.size : Int) < z
  · exact law_past s z b (by omega) (by omega) h1 w
  have e : z = (z.toNat : Int) := by omega
  rw [e]
  by_cases ha : AllDig s
  · by_cases hl : 19 ≤ s.size - z.toNat
    · exact law_many s z.toNat b (by omega) (by omega) ha hl w
    · exact law_few s z.toNat b (by omega) (by omega) ha (by omega) w
  · exact law_text s z.toNat b (by omega) (by omega) ha w
end Go.Proofs.Qxb6601909a
