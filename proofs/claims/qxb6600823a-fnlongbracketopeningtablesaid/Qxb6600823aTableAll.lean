/-
  FnLongBracketOpeningTable: the inputs at which the Go text returns true at once; then every input.
-/
import Derived.Test.Qxb6600823aTable
namespace Go.Proofs.Qxb6600823a
open Go.RowKit
set_option linter.unusedVariables false

theorem kept_refl (w : World) : w.keptBut w (fun _ => False) := World.keptBut_refl _ _

set_option maxHeartbeats 400000 in
theorem bytes9_yes (p s : ByteArray) (n x : Int) (h : p.size + s.size ≤ 1048576) (w : World) :
    Calls Try.prog 17 #[.string p, .string s, .int .i64 n, .int .u8 x] w fun e w' => e = .returned (.bool true) ∧ w = w' := by
  have f0 : p.size ≤ 1048576 := by omega
  have f1 : s.size ≤ 1048576 := by omega
  go_enter Try.func17, Try.ntmps17
  go_wp2
  go_ret
  exact ⟨rfl, rfl⟩
set_option maxHeartbeats 400000 in
theorem bytes9_no1 (p s : ByteArray) (n x : Int) (h : 1048576 < p.size) (w : World) :
    Calls Try.prog 17 #[.string p, .string s, .int .i64 n, .int .u8 x] w fun e w' => e = .returned (.bool false) ∧ w = w' := by
  go_enter Try.func17, Try.ntmps17
  go_wp2
  go_ret
  exact ⟨rfl, rfl⟩
set_option maxHeartbeats 400000 in
theorem bytes9_no2 (p s : ByteArray) (n x : Int) (h1 : p.size ≤ 1048576) (h : 1048576 < s.size) (w : World) :
    Calls Try.prog 17 #[.string p, .string s, .int .i64 n, .int .u8 x] w fun e w' => e = .returned (.bool false) ∧ w = w' := by
  go_enter Try.func17, Try.ntmps17
  go_wp2
  go_ret
  exact ⟨rfl, rfl⟩
set_option maxHeartbeats 400000 in
theorem bytes9_no3 (p s : ByteArray) (n x : Int) (h1 : p.size ≤ 1048576) (h2 : s.size ≤ 1048576) (h : 1048576 < p.size + s.size) (w : World) :
    Calls Try.prog 17 #[.string p, .string s, .int .i64 n, .int .u8 x] w fun e w' => e = .returned (.bool false) ∧ w = w' := by
  go_enter Try.func17, Try.ntmps17
  go_wp2
  go_ret
  exact ⟨rfl, rfl⟩
set_option maxHeartbeats 400000 in
theorem table_no1 (p s : ByteArray) (n x : Int) (h : 1048576 < p.size) (w : World) :
    Calls Try.prog 9 #[.string p, .string s, .int .i64 n, .int .u8 x] w fun e w' => e = .returned (.bool true) ∧ w.keptBut w' (fun _ => False) := by
  go_enter Try.func9, Try.ntmps9
  go_wp2_with (go_at_call 17; refine (bytes9_no1 p s n x h _).mono ?_; rintro e w' ⟨rfl, rfl⟩)
  go_ret
  exact ⟨rfl, kept_refl _⟩
set_option maxHeartbeats 400000 in
theorem table_no2 (p s : ByteArray) (n x : Int) (h1 : p.size ≤ 1048576) (h : 1048576 < s.size) (w : World) :
    Calls Try.prog 9 #[.string p, .string s, .int .i64 n, .int .u8 x] w fun e w' => e = .returned (.bool true) ∧ w.keptBut w' (fun _ => False) := by
  go_enter Try.func9, Try.ntmps9
  go_wp2_with (go_at_call 17; refine (bytes9_no2 p s n x h1 h _).mono ?_; rintro e w' ⟨rfl, rfl⟩)
  go_ret
  exact ⟨rfl, kept_refl _⟩
set_option maxHeartbeats 400000 in
theorem table_no3 (p s : ByteArray) (n x : Int) (h1 : p.size ≤ 1048576) (h2 : s.size ≤ 1048576) (h : 1048576 < p.size + s.size) (w : World) :
    Calls Try.prog 9 #[.string p, .string s, .int .i64 n, .int .u8 x] w fun e w' => e = .returned (.bool true) ∧ w.keptBut w' (fun _ => False) := by
  go_enter Try.func9, Try.ntmps9
  go_wp2_with (go_at_call 17; refine (bytes9_no3 p s n x h1 h2 h _).mono ?_; rintro e w' ⟨rfl, rfl⟩)
  go_ret
  exact ⟨rfl, kept_refl _⟩
set_option maxHeartbeats 400000 in
theorem table_p (p s : ByteArray) (n x : Int) (h : p.size + s.size ≤ 1048576) (hp : 524288 < p.size) (w : World) :
    Calls Try.prog 9 #[.string p, .string s, .int .i64 n, .int .u8 x] w fun e w' => e = .returned (.bool true) ∧ w.keptBut w' (fun _ => False) := by
  go_enter Try.func9, Try.ntmps9
  go_wp2_with (go_at_call 17; refine (bytes9_yes p s n x h _).mono ?_; rintro e w' ⟨rfl, rfl⟩)
  go_ret
  exact ⟨rfl, kept_refl _⟩
set_option maxHeartbeats 400000 in
theorem table_s (p s : ByteArray) (n x : Int) (h : p.size + s.size ≤ 1048576) (hp : p.size ≤ 524288) (hs : 524288 < s.size) (w : World) :
    Calls Try.prog 9 #[.string p, .string s, .int .i64 n, .int .u8 x] w fun e w' => e = .returned (.bool true) ∧ w.keptBut w' (fun _ => False) := by
  go_enter Try.func9, Try.ntmps9
  go_wp2_with (go_at_call 17; refine (bytes9_yes p s n x h _).mono ?_; rintro e w' ⟨rfl, rfl⟩)
  go_ret
  exact ⟨rfl, kept_refl _⟩
set_option maxHeartbeats 400000 in
theorem table_neg (p s : ByteArray) (n x : Int) (h : p.size + s.size ≤ 1048576) (hp : p.size ≤ 524288) (hs : s.size ≤ 524288) (hn : n < 0) (w : World) :
    Calls Try.prog 9 #[.string p, .string s, .int .i64 n, .int .u8 x] w fun e w' => e = .returned (.bool true) ∧ w.keptBut w' (fun _ => False) := by
  go_enter Try.func9, Try.ntmps9
  go_wp2_with (go_at_call 17; refine (bytes9_yes p s n x h _).mono ?_; rintro e w' ⟨rfl, rfl⟩)
  go_ret
  exact ⟨rfl, kept_refl _⟩
set_option maxHeartbeats 400000 in
theorem table_big (p s : ByteArray) (n x : Int) (h : p.size + s.size ≤ 1048576) (hp : p.size ≤ 524288) (hs : s.size ≤ 524288) (hn : 65536 < n) (w : World) :
    Calls Try.prog 9 #[.string p, .string s, .int .i64 n, .int .u8 x] w fun e w' => e = .returned (.bool true) ∧ w.keptBut w' (fun _ => False) := by
  go_enter Try.func9, Try.ntmps9
  go_wp2_with (go_at_call 17; refine (bytes9_yes p s n x h _).mono ?_; rintro e w' ⟨rfl, rfl⟩)
  go_ret
  exact ⟨rfl, kept_refl _⟩
set_option maxHeartbeats 400000 in
theorem table_x (p s : ByteArray) (n x : Int) (h : p.size + s.size ≤ 1048576) (hp : p.size ≤ 524288) (hs : s.size ≤ 524288) (hn : 0 ≤ n) (hm : n ≤ 65536) (hx : (x == 61) = true) (w : World) :
    Calls Try.prog 9 #[.string p, .string s, .int .i64 n, .int .u8 x] w fun e w' => e = .returned (.bool true) ∧ w.keptBut w' (fun _ => False) := by
  go_enter Try.func9, Try.ntmps9
  go_wp2_with (go_at_call 17; refine (bytes9_yes p s n x h _).mono ?_; rintro e w' ⟨rfl, rfl⟩)
  go_ret
  exact ⟨rfl, kept_refl _⟩

theorem table_any (p s : ByteArray) (n x : Int) (h0 : 0 ≤ x) (h255 : x ≤ 255) (w : World) :
    Calls Try.prog 9 #[.string p, .string s, .int .i64 n, .int .u8 x] w fun e w' => e = .returned (.bool true) ∧ w.keptBut w' (fun _ => False) := by
  by_cases a1 : 1048576 < p.size
  · exact table_no1 p s n x a1 w
  by_cases a2 : 1048576 < s.size
  · exact table_no2 p s n x (by omega) a2 w
  by_cases a3 : 1048576 < p.size + s.size
  · exact table_no3 p s n x (by omega) (by omega) a3 w
  by_cases a4 : 524288 < p.size
  · exact table_p p s n x (by omega) a4 w
  by_cases a5 : 524288 < s.size
  · exact table_s p s n x (by omega) (by omega) a5 w
  by_cases a6 : n < 0
  · exact table_neg p s n x (by omega) (by omega) (by omega) a6 w
  by_cases a7 : 65536 < n
  · exact table_big p s n x (by omega) (by omega) (by omega) a7 w
  by_cases a8 : (x == 61) = true
  · exact table_x p s n x (by omega) (by omega) (by omega) (by omega) (by omega) a8 w
  have e1 : n = (n.toNat : Int) := by omega
  have e2 : x = ((UInt8.ofNat x.toNat).toNat : Int) := by
    rw [UInt8.toNat_ofNat_of_lt' (by simp only [UInt8.size]; omega)]; omega
  have a9 : (x == 61) = false := by simpa using a8
  rw [e2] at a9
  rw [e1, e2]
  exact table_in p s n.toNat (UInt8.ofNat x.toNat) (by omega) (by omega) (by omega) a9 w
end Go.Proofs.Qxb6600823a
