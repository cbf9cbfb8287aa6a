/-
  FnLongBracketSpec: the walk.
-/
import Derived.Test.Qxb6600823aLexer
namespace Go.Proofs.Qxb6600823a
open Go.RowKit
set_option linter.unusedVariables false

set_option maxHeartbeats 400000 in
theorem bytes8_ok (s : ByteArray) (pos : Int) (hs : s.size ≤ 1048576) (w : World) :
    Calls Try.prog 15 #[.string s, .int .i64 pos] w fun e w' => e = .returned (.bool true) ∧ w = w' := by
  go_enter Try.func15, Try.ntmps15
  go_wp2
  go_ret
  exact ⟨rfl, rfl⟩
set_option maxHeartbeats 400000 in
theorem bytes8_no (s : ByteArray) (pos : Int) (hs : 1048576 < s.size) (w : World) :
    Calls Try.prog 15 #[.string s, .int .i64 pos] w fun e w' => e = .returned (.bool false) ∧ w = w' := by
  go_enter Try.func15, Try.ntmps15
  go_wp2
  go_ret
  exact ⟨rfl, rfl⟩

set_option maxHeartbeats 400000 in
theorem spec_long (s : ByteArray) (pos : Int) (hs : 1048576 < s.size) (w : World) :
    Calls Try.prog 8 #[.string s, .int .i64 pos] w fun e w' => e = .returned (.bool true) ∧ Grown w w' := by
  go_enter Try.func8, Try.ntmps8
  go_wp2_with (go_at_call 15; refine (bytes8_no s pos hs _).mono ?_; rintro e w' ⟨rfl, rfl⟩)
  go_ret
  exact ⟨rfl, Grown.refl _⟩
set_option maxHeartbeats 400000 in
theorem spec_neg (s : ByteArray) (pos : Int) (hs : s.size ≤ 1048576) (hn : pos < 0) (w : World) :
    Calls Try.prog 8 #[.string s, .int .i64 pos] w fun e w' => e = .returned (.bool true) ∧ Grown w w' := by
  go_enter Try.func8, Try.ntmps8
  go_wp2_with (go_at_call 15; refine (bytes8_ok s pos hs _).mono ?_; rintro e w' ⟨rfl, rfl⟩)
  go_ret
  exact ⟨rfl, Grown.refl _⟩
set_option maxHeartbeats 400000 in
theorem spec_past (s : ByteArray) (pos : Int) (hs : s.size ≤ 1048576) (h0 : 0 ≤ pos) (hn : (s.size : Int) < pos) (w : World) :
    Calls Try.prog 8 #[.string s, .int .i64 pos] w fun e w' => e = .returned (.bool true) ∧ Grown w w' := by
  go_enter Try.func8, Try.ntmps8
  go_wp2_with (go_at_call 15; refine (bytes8_ok s pos hs _).mono ?_; rintro e w' ⟨rfl, rfl⟩)
  go_ret
  exact ⟨rfl, Grown.refl _⟩

set_option maxHeartbeats 1000000 in
theorem spec_in (s : ByteArray) (P : Nat) (hs : s.size ≤ 1048576) (hP : P ≤ s.size) (w : World) :
    Calls Try.prog 8 #[.string s, .int .i64 P] w fun e w' => e = .returned (.bool true) ∧ Grown w w' := by
  go_enter Try.func8, Try.ntmps8
  go_wp2_with (go_at_call 15; refine (bytes8_ok s P hs _).mono ?_; rintro e w' ⟨rfl, rfl⟩)
  refine (zzLongBracket_any w s P hP (by omega) w (Grown.refl w)).mono ?_
  rintro e w' ⟨lv, np, rfl, hL, hg⟩
  obtain ⟨m, hrun, hend, hcase⟩ := hL
  rcases hcase with ⟨ho, hlv, hnp⟩ | ⟨ho, hm, hlv, hnp⟩ | ⟨ho, hm, hlv, hnp⟩
  · subst hlv hnp
    obtain ⟨hlt, hch⟩ := ho
    have HR : Hid (runEq s (P + 1) m) := hrun
    have hch' : ((s[P + 1 + m].toNat : Int) == 91) = true := by simpa using hch
    clear hrun hend hch
    go_wp2_with fail
    go_loop [8] (fun i => ∃ j : Nat, i = .int .i64 j ∧ P + 1 ≤ j ∧ j ≤ P + 1 + m) (fun i => P + 1 + m - (intOf i).toNat)
    case atStart => exact ⟨P + 1, by go_num, by omega, by omega⟩
    case round =>
      obtain ⟨j, rfl, hj1, hj2⟩ := hrel
      by_cases hj : j < P + 1 + m
      · have hjs : j < s.size := by omega
        have hx : ((s[j].toNat : Int) != 61) = false := by rw [bne_eq_false_iff_eq]; exact HR.out.2 j hjs hj1 hj
        go_wp2_with fail
        go_round
        case rel => exact ⟨j + 1, by go_num, by omega, by omega⟩
        case measure => simp [intOf]; omega
      · go_wp2_with fail
        go_ret
        exact ⟨rfl, hg⟩
  · subst hlv hnp hm
    by_cases hlt : P + 1 < s.size
    · have hx : ((s[P + 1].toNat : Int) != 61) = true := by rw [bne_iff_ne]; exact hend hlt
      have hy : ((s[P + 1].toNat : Int) != 91) = true := by rw [bne_iff_ne]; exact fun h => ho ⟨hlt, h⟩
      clear hrun hend ho
      go_wp2_with fail
      go_ret
      exact ⟨rfl, hg⟩
    · clear hrun hend ho
      go_wp2_with fail
      go_ret
      exact ⟨rfl, hg⟩
  · subst hlv hnp
    have hle : P + 1 + m ≤ s.size := by have := hrun.1; omega
    have HR : Hid (runEq s (P + 1) m) := hrun
    have HE : Hid (endAt s (P + 1 + m)) := hend
    have HO : Hid (¬ opens s (P + 1 + m)) := ho
    clear hrun hend ho
    go_wp2_with fail
    go_loop [9] (fun i => ∃ j : Nat, i = .int .i64 j ∧ P + 1 ≤ j ∧ j ≤ P + 1 + m) (fun i => P + 1 + m - (intOf i).toNat)
    case atStart => exact ⟨P + 1, by go_num, by omega, by omega⟩
    case round =>
      obtain ⟨j, rfl, hj1, hj2⟩ := hrel
      by_cases hj : j < P + 1 + m
      · have hjs : j < s.size := by omega
        have hx : ((s[j].toNat : Int) != 61) = false := by rw [bne_eq_false_iff_eq]; exact HR.out.2 j hjs hj1 hj
        go_wp2_with fail
        go_round
        case rel => exact ⟨j + 1, by go_num, by omega, by omega⟩
        case measure => simp [intOf]; omega
      · by_cases hlt : P + 1 + m < s.size
        · have hx : ((s[P + 1 + m].toNat : Int) != 61) = true := by rw [bne_iff_ne]; exact HE.out hlt
          have hy : ((s[P + 1 + m].toNat : Int) != 91) = true := by rw [bne_iff_ne]; exact fun h => HO.out ⟨hlt, h⟩
          go_wp2_with fail
          go_ret
          exact ⟨rfl, hg⟩
        · go_wp2_with fail
          go_ret
          exact ⟨rfl, hg⟩

theorem spec_any (s : ByteArray) (pos : Int) (w : World) :
    Calls Try.prog 8 #[.string s, .int .i64 pos] w fun e w' => e = .returned (.bool true) ∧ Grown w w' := by
  by_cases hs : 1048576 < s.size
  · exact spec_long s pos hs w
  by_cases h0 : pos < 0
  · exact spec_neg s pos (by omega) h0 w
  by_cases h1 : (s.size : Int) < pos
  · exact spec_past s pos (by omega) (by omega) h1 w
  have e : pos = (pos.toNat : Int) := by omega
  rw [e]
  exact spec_in s pos.toNat (by omega) (by omega) w
end Go.Proofs.Qxb6600823a
