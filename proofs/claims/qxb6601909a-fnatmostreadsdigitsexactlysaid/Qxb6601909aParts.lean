/-
  The walks over zzBytes.., zzDecimal, zzWrittenAs, significant, atMost, ZZAtMost.
-/
import Derived.Test.Qxb6601909aPlain
import Derived.WalkKit
import Derived.WalkSpells
import Derived.Lib.ConvBytes
namespace Go.Proofs.Qxb6601909a
open Go.RowKit
set_option linter.unusedVariables false

theorem ret_bool {a b : Bool} (h : a = b) : Ending.returned (.bool a) = .returned (.bool b) := by rw [h]

set_option maxHeartbeats 400000 in
theorem bytes5_ok (s : ByteArray) (z b : Int) (hs : s.size ≤ 1048576) (w : World) :
    Calls Try.prog 5 #[.string s, .int .i64 z, .int .i64 b] w fun e w' => e = .returned (.bool true) ∧ w = w' := by
  go_enter Try.func5, Try.ntmps5
  go_wp2
  go_ret
  exact ⟨rfl, rfl⟩
set_option maxHeartbeats 400000 in
theorem bytes5_no (s : ByteArray) (z b : Int) (hs : 1048576 < s.size) (w : World) :
    Calls Try.prog 5 #[.string s, .int .i64 z, .int .i64 b] w fun e w' => e = .returned (.bool false) ∧ w = w' := by
  go_enter Try.func5, Try.ntmps5
  go_wp2
  go_ret
  exact ⟨rfl, rfl⟩

set_option maxHeartbeats 400000 in
theorem decimal_yes (s : ByteArray) (hs : s.size ≤ 1048576) (ha : AllDig s) (w : World) :
    Calls Try.prog 6 #[.string s] w fun e w' => e = .returned (.bool true) ∧ w = w' := by
  go_enter Try.func6, Try.ntmps6
  go_wp2
  go_loop [3] (fun i => ∃ k : Nat, k ≤ s.size ∧ i = .int .i64 k) (fun i => s.size - (intOf i).toNat)
  case atStart => exact ⟨0, Nat.zero_le _, rfl⟩
  case round =>
    obtain ⟨k, hk, rfl⟩ := hrel
    by_cases hlt : k < s.size
    · have h1 : (48 : Int) ≤ (s[k].toNat : Int) := (ha k hlt).1
      have h2 : (s[k].toNat : Int) ≤ 57 := (ha k hlt).2
      go_wp2
      go_round
      case rel => exact ⟨k + 1, by omega, by go_num⟩
      case measure => simp [intOf]; omega
    · go_wp2
      go_ret
      exact ⟨rfl, rfl⟩
set_option maxHeartbeats 400000 in
theorem decimal_no (s : ByteArray) (hs : s.size ≤ 1048576) (hno : ¬ AllDig s) (w : World) :
    Calls Try.prog 6 #[.string s] w fun e w' => e = .returned (.bool false) ∧ w = w' := by
  go_enter Try.func6, Try.ntmps6
  go_wp2
  go_loop [3] (fun i => ∃ k : Nat, k ≤ s.size ∧ i = .int .i64 k ∧ DigTo s k) (fun i => s.size - (intOf i).toNat)
  case atStart => exact ⟨0, Nat.zero_le _, rfl, digTo_zero s⟩
  case round =>
    obtain ⟨k, hk, rfl, hd⟩ := hrel
    by_cases hlt : k < s.size
    · by_cases h1 : (s[k].toNat : Int) < 48
      · go_wp2
        go_ret
        exact ⟨rfl, rfl⟩
      · by_cases h2 : (57 : Int) < (s[k].toNat : Int)
        · go_wp2
          go_ret
          exact ⟨rfl, rfl⟩
        · have hn := digTo_succ s k hlt hd (by omega) (by omega)
          go_wp2
          go_round
          case rel => exact ⟨k + 1, by omega, by go_num, hn⟩
          case measure => simp [intOf]; omega
    · exact absurd (digTo_all s k (by omega) hd) hno

set_option maxHeartbeats 400000 in
theorem written_any (s : ByteArray) (hs : s.size ≤ 18) (ha : AllDig s) (w : World) :
    Calls Try.prog 8 #[.int .i64 (dv s s.size), .string s] w fun e w' => e = .returned (.bool true) ∧ w = w' := by
  go_enter Try.func8, Try.ntmps8
  go_wp2
  go_loop [5, 6] (fun m i => ∃ k : Nat, k ≤ s.size ∧ i = .int .i64 ((k : Int) - 1) ∧ m = .int .i64 (dv s k)) (fun _ i => (intOf i + 1).toNat)
  case atStart => exact ⟨s.size, Nat.le_refl _, rfl, rfl⟩
  case round =>
    obtain ⟨k, hk, rfl, rfl⟩ := hrel
    have hl : 0 ≤ dv s k := dv_lo s ha k hk
    have hh : dv s k ≤ 999999999999999999 := dv_le18 s ha k hk (by omega)
    match k, hk, hl, hh with
    | 0, hk, hl, hh =>
      go_wp2
      go_ret
      exact ⟨ret_bool (by rw [dv_zero]; rfl), rfl⟩
    | k + 1, hk, hl, hh =>
      have hlt : k < s.size := by omega
      have hm := dv_mod s ha k hlt
      have hd : Hid (dv s (k + 1) / 10 = dv s k) := dv_div s ha k hlt
      have hmod : ((s[k].toNat : Int) != 48 + dv s (k + 1) % 10) = false := by rw [bne_eq_false_iff_eq]; exact hm.symm
      clear hm
      go_wp2
      go_round
      case rel => exact ⟨k, by omega, rfl, by rw [hd.out]⟩
      case measure => simp [intOf]

/-- '[]byte(t)': a new row that holds t's bytes; nothing old has turned. -/
theorem conv_bytes (t : ByteArray) (W : World) : ∃ (cap : Nat) (W1 : World), (convert 9 34 (.string t)).run Try.prog W = .ok (.slice (some ⟨W.heap.size, 0, none⟩) t.size cap) W1 ∧
    (∀ (j : Nat) (h : j < t.size), W1.cell? ⟨W.heap.size, j, none⟩ = some (.int .u8 (t[j].toNat : Int))) ∧ Below W.heap.size W W1 := by
  refine ⟨_, _, Lib.run_convert_string_bytes W 9 34 5 t Try.underlying9 Try.underlying34 Try.underlying5, ?_, ?_⟩
  · intro j h
    rw [Lib.bytesWorld_cell W 5 t j h]
    have e : t.data.toList.getD j 0 = t[j] := by
      rw [List.getD_eq_getElem?_getD, List.getElem?_eq_getElem (by simpa using h)]; rfl
    rw [e]
  · exact ⟨rfl, rfl, rfl, by rw [Lib.bytesWorld_size]; omega, fun k hk => Lib.bytesWorld_at_old W 5 t k hk⟩

set_option maxHeartbeats 400000 in
theorem significant_any (s t : ByteArray) (z : Nat) (hT : Hid (t = s.extract z s.size)) (hz : z ≤ s.size) (hs : s.size ≤ 1048576) (w : World) :
    Calls Try.prog 13 #[.agg #[.string s, .int .i64 z]] w fun e w' => e = .returned (.string t) ∧ w' = w.alloc (.cells #[.string s, .int .i64 z] 31) := by
  have hT' : t = s.extract z s.size := hT.out
  rw [hT']
  clear hT' hT
  go_enter Try.func13, Try.ntmps13
  go_wp2
  go_ret
  exact ⟨rfl, rfl⟩

set_option maxHeartbeats 400000 in
theorem atMost_long (s t : ByteArray) (z : Nat) (b : Int) (hT : Hid (t = s.extract z s.size)) (hz : z ≤ s.size) (hs : s.size ≤ 1048576) (hl : 19 ≤ t.size) (w : World) :
    Calls Try.prog 12 #[.agg #[.string s, .int .i64 z], .int .i64 b] w fun e w' => e = .returned (.tuple #[.int .i64 0, .bool false]) ∧ Below w.heap.size w w' := by
  go_enter Try.func12, Try.ntmps12
  go_wp2_with (go_at_call 13; refine (significant_any s t z hT hz hs _).mono ?_; rintro e w' ⟨rfl, rfl⟩)
  go_ret2
  exact ⟨rfl, ((Below.refl _ _).alloc (Nat.le_refl _) _).alloc (by simp) _⟩

set_option maxHeartbeats 400000 in
theorem atMost_any (s t : ByteArray) (z : Nat) (b : Int) (hT : Hid (t = s.extract z s.size)) (hz : z ≤ s.size) (hs : s.size ≤ 1048576) (hl : t.size ≤ 18) (ha : AllDig t) (w : World) :
    Calls Try.prog 12 #[.agg #[.string s, .int .i64 z], .int .i64 b] w fun e w' => e = .returned (.tuple #[.int .i64 (dv t t.size), .bool (decide (dv t t.size ≤ b))]) ∧ Below w.heap.size w w' := by
  obtain ⟨cap, W1, hcv, hcell, hbel⟩ := conv_bytes t ((w.alloc (.cells #[.string s, .int .i64 z] 31)).alloc (.cells #[.string s, .int .i64 z] 31))
  have HB : Hid (Below w.heap.size w W1) := (((Below.refl w.heap.size w).alloc (Nat.le_refl _) _).alloc (by simp) _).trans (hbel.mono (by simp; omega))
  have HC : Hid (∀ (j : Nat) (h : j < t.size), W1.cell? ⟨w.heap.size + 1 + 1, j, none⟩ = some (.int .u8 (t[j].toNat : Int))) := (by simpa using hcell : ∀ (j : Nat) (h : j < t.size), W1.cell? ⟨w.heap.size + 1 + 1, j, none⟩ = some (.int .u8 (t[j].toNat : Int)))
  clear hbel hcell
  simp at hcv
  go_enter Try.func12, Try.ntmps12
  go_wp2_with (go_at_call 13; refine (significant_any s t z hT hz hs _).mono ?_; rintro e w' ⟨rfl, rfl⟩)
  go_loop [7, 18] (fun n i => ∃ k : Nat, k ≤ t.size ∧ i = .int .i64 k ∧ n = .int .i64 (dv t k)) (fun _ i => t.size - (intOf i).toNat)
  case atStart => exact ⟨0, Nat.zero_le _, rfl, rfl⟩
  case round =>
    obtain ⟨k, hk, rfl, rfl⟩ := hrel
    by_cases hlt : k < t.size
    · have hc := HC.out k hlt
      have h1 : (48 : Int) ≤ (t[k].toNat : Int) := (ha k hlt).1
      have h2 : (t[k].toNat : Int) ≤ 57 := (ha k hlt).2
      have h3 : 0 ≤ dv t k := dv_lo t ha k hk
      have h4 : dv t k ≤ 99999999999999999 := dv_le17 t ha k hk (by omega)
      have HS : Hid (dv t (k + 1) = 10 * dv t k + ((t[k].toNat : Int) - 48)) := dv_succ t k hlt
      go_wp2
      go_round
      case rel => exact ⟨k + 1, by omega, by go_num, by rw [HS.out]⟩
      case measure => simp [intOf]; omega
    · have e : k = t.size := by omega
      subst e
      go_wp2
      go_ret2
      exact ⟨rfl, HB.out⟩

set_option maxHeartbeats 400000 in
theorem zzAtMost_long (s t : ByteArray) (z : Nat) (b : Int) (hT : Hid (t = s.extract z s.size)) (hz : z ≤ s.size) (hs : s.size ≤ 1048576) (hl : 19 ≤ t.size) (w : World) :
    Calls Try.prog 7 #[.string s, .int .i64 z, .int .i64 b] w fun e w' => e = .returned (.tuple #[.int .i64 0, .bool false]) ∧ Below w.heap.size w w' := by
  go_enter Try.func7, Try.ntmps7
  go_wp2_with (go_at_call 12; refine (atMost_long s t z b hT hz hs hl _).mono ?_; rintro e w' ⟨rfl, hb⟩)
  go_ret2
  exact ⟨rfl, hb⟩
set_option maxHeartbeats 400000 in
theorem zzAtMost_any (s t : ByteArray) (z : Nat) (b : Int) (hT : Hid (t = s.extract z s.size)) (hz : z ≤ s.size) (hs : s.size ≤ 1048576) (hl : t.size ≤ 18) (ha : AllDig t) (w : World) :
    Calls Try.prog 7 #[.string s, .int .i64 z, .int .i64 b] w fun e w' => e = .returned (.tuple #[.int .i64 (dv t t.size), .bool (decide (dv t t.size ≤ b))]) ∧ Below w.heap.size w w' := by
  go_enter Try.func7, Try.ntmps7
  go_wp2_with (go_at_call 12; refine (atMost_any s t z b hT hz hs hl ha _).mono ?_; rintro e w' ⟨rfl, hb⟩)
  go_ret2
  exact ⟨rfl, hb⟩
end Go.Proofs.Qxb6601909a
