/-
  The lexer's cur and longBracket, and ZZlongBracket: what they answer, said of the text's bytes.
-/
import Derived.Test.Qxb6600823aRows
import Derived.WalkKit
import Derived.BigQuiet
import Derived.Deep.QuietTactic
namespace Go.Proofs.Qxb6600823a
open Go.RowKit
set_option linter.unusedVariables false

set_option maxHeartbeats 400000 in
theorem cur_in (b : Nat) (s : ByteArray) (p : Nat) (hp : p < s.size) (hs : s.size ≤ 4194304) (w : World)
    (c0 : w.cell? ⟨b, 0, none⟩ = some (.string s)) (c2 : w.cell? ⟨b, 2, none⟩ = some (.int .i64 p)) :
    Calls Try.prog 28 #[.pointer (some ⟨b, 0, none⟩)] w fun e w' => e = .returned (.int .u8 (s[p].toNat : Int)) ∧ ∃ n, w' = w.drewN n := by
  have hi : (p : Int) < (s.size : Int) := by omega
  go_enter Try.func28, Try.ntmps28
  go_wp2
  go_quiet (fail)
  go_wp2
  go_quiet (fail)
  go_wp2
  go_ret
  exact ⟨rfl, _, World.drewN_drewN _ _ _⟩
set_option maxHeartbeats 400000 in
theorem cur_out (b : Nat) (s : ByteArray) (p : Nat) (hp : s.size ≤ p) (hs : p ≤ 4194305) (w : World)
    (c0 : w.cell? ⟨b, 0, none⟩ = some (.string s)) (c2 : w.cell? ⟨b, 2, none⟩ = some (.int .i64 p)) :
    Calls Try.prog 28 #[.pointer (some ⟨b, 0, none⟩)] w fun e w' => e = .returned (.int .u8 0) ∧ ∃ n, w' = w.drewN n := by
  have hi : ¬ (p : Int) < (s.size : Int) := by omega
  go_enter Try.func28, Try.ntmps28
  go_wp2
  go_quiet (fail)
  go_wp2
  go_ret
  exact ⟨rfl, _, rfl⟩

/-- From q on, m signs '=' stand in the text. -/
def runEq (s : ByteArray) (q m : Nat) : Prop := (m = 0 ∨ q + m ≤ s.size) ∧ ∀ (j : Nat) (h : j < s.size), q ≤ j → j < q + m → (s[j].toNat : Int) = 61
def endAt (s : ByteArray) (e : Nat) : Prop := ∀ h : e < s.size, ¬ ((s[e].toNat : Int) = 61)
def opens (s : ByteArray) (e : Nat) : Prop := ∃ h : e < s.size, (s[e].toNat : Int) = 91
/-- What longBracket answers (lv) and where the lexer then stands (np), from the place q behind the first bracket. -/
def LB (s : ByteArray) (q : Nat) (lv np : Int) : Prop := ∃ m : Nat, runEq s q m ∧ endAt s (q + m) ∧
  ((opens s (q + m) ∧ lv = m ∧ np = (q + m + 1 : Nat)) ∨ (¬ opens s (q + m) ∧ m = 0 ∧ lv = -1 ∧ np = q) ∨ (¬ opens s (q + m) ∧ 0 < m ∧ lv = -2 ∧ np = (q + m : Nat)))

theorem runEq_zero (s : ByteArray) (q : Nat) : runEq s q 0 := ⟨Or.inl rfl, fun j _ h1 h2 => by omega⟩
theorem runEq_succ {s : ByteArray} {q k p : Nat} (hp : Hid (p = q + k)) (h : runEq s q k) (hlt : p < s.size) (he : (s[p].toNat : Int) = 61) : runEq s q (k + 1) := by
  have hp' : p = q + k := hp
  subst hp'
  refine ⟨Or.inr (by omega), fun j hj h1 h2 => ?_⟩
  by_cases e : j = q + k
  · subst e; exact he
  · exact h.2 j hj h1 (by omega)

/-- What the lexer's own cells and the old memory are behind a store of the place. -/
theorem put_pos {W wr : World} {b : Nat} {s : ByteArray} {v : Value} (hb : W.heap.size ≤ b)
    (d0 : wr.cell? ⟨b, 0, none⟩ = some (.string s)) (d2 : wr.cell? ⟨b, 2, none⟩ = some v) (df : wr.frozen? ⟨b, 2, none⟩ = false) (dg : Grown W wr) (n : Nat) (u : Value) :
    ((wr.setCell ⟨b, 2, none⟩ u).drewN n).cell? ⟨b, 0, none⟩ = some (.string s) ∧ ((wr.setCell ⟨b, 2, none⟩ u).drewN n).cell? ⟨b, 2, none⟩ = some u ∧
    ((wr.setCell ⟨b, 2, none⟩ u).drewN n).frozen? ⟨b, 2, none⟩ = false ∧ Grown W ((wr.setCell ⟨b, 2, none⟩ u).drewN n) := by
  refine ⟨?_, ?_, ?_, ?_⟩
  · show (wr.setCell ⟨b, 2, none⟩ u).cell? ⟨b, 0, none⟩ = _
    rw [World.cell?_setCell_other _ _ _ _ (by intro h; cases h)]; exact d0
  · show (wr.setCell ⟨b, 2, none⟩ u).cell? ⟨b, 2, none⟩ = _
    exact World.cell?_setCell_same _ _ _ d2
  · show (wr.setCell ⟨b, 2, none⟩ u).frozen? ⟨b, 2, none⟩ = _
    rw [World.frozen?_setCell]; exact df
  · exact dg.setCell (a := ⟨b, 2, none⟩) hb u

theorem lb_open {s : ByteArray} {q k p : Nat} (hp : Hid (p = q + k)) (hr : runEq s q k) (hlt : p < s.size) (h : (s[p].toNat : Int) = 91) : LB s q (k : Int) ((p : Int) + 1) := by
  have hp' : p = q + k := hp
  subst hp'
  exact ⟨k, hr, fun _ => by omega, Or.inl ⟨⟨hlt, h⟩, rfl, by omega⟩⟩
theorem lb_shut {s : ByteArray} {q k p : Nat} (hp : Hid (p = q + k)) (hr : runEq s q k) (he : endAt s p) (ho : ¬ opens s p) (lv : Int) (hl : (k = 0 ∧ lv = -1) ∨ (0 < k ∧ lv = -2)) : LB s q lv (p : Int) := by
  have hp' : p = q + k := hp
  subst hp'
  rcases hl with ⟨h1, h2⟩ | ⟨h1, h2⟩
  · subst h1; exact ⟨0, hr, he, Or.inr (Or.inl ⟨ho, rfl, h2, by omega⟩)⟩
  · exact ⟨k, hr, he, Or.inr (Or.inr ⟨ho, h1, h2, rfl⟩)⟩

set_option maxHeartbeats 1000000 in
theorem longBracket_any (W : World) (b : Nat) (hb : W.heap.size ≤ b) (s : ByteArray) (pos : Nat) (hpos : pos ≤ s.size) (hs : s.size ≤ 4194304) (w : World)
    (c0 : w.cell? ⟨b, 0, none⟩ = some (.string s)) (c2 : w.cell? ⟨b, 2, none⟩ = some (.int .i64 pos)) (hf : w.frozen? ⟨b, 2, none⟩ = false) (hg : Grown W w) :
    Calls Try.prog 22 #[.pointer (some ⟨b, 0, none⟩)] w fun e w' => ∃ lv np : Int, e = .returned (.int .i64 lv) ∧ w'.cell? ⟨b, 2, none⟩ = some (.int .i64 np) ∧ LB s (pos + 1) lv np ∧ Grown W w' := by
  go_enter Try.func22, Try.ntmps22
  go_wp2_with fail
  go_loopw [3] (fun lv wr => ∃ k p : Nat, lv = .int .i64 k ∧ Hid (p = pos + 1 + k) ∧ runEq s (pos + 1) k ∧ wr.cell? ⟨b, 0, none⟩ = some (.string s) ∧ wr.cell? ⟨b, 2, none⟩ = some (.int .i64 p) ∧ wr.frozen? ⟨b, 2, none⟩ = false ∧ Grown W wr)
    (fun lv _ => s.size + 1 - (intOf lv).toNat)
  case atStart =>
    have P := put_pos hb c0 c2 hf hg 0 (.int .i64 ((pos : Int) + 1))
    exact ⟨0, pos + 1, rfl, (rfl : pos + 1 = pos + 1 + 0), runEq_zero s _, P.1, P.2.1, P.2.2.1, P.2.2.2⟩
  case round =>
    obtain ⟨k, p, rfl, hp, hr, d0, d2, df, dg⟩ := hrel
    have hk : k ≤ s.size := by have := hr.1; omega
    have hple : p ≤ s.size + 1 := by have := hr.1; have e : p = pos + 1 + k := hp; omega
    clear c0 c2 hf hg
    by_cases hlt : p < s.size
    · by_cases he : (s[p].toNat : Int) = 61
      · have HE : Hid ((s[p].toNat : Int) = 61) := he
        have hb1 : ((s[p].toNat : Int) == 61) = true := by simpa using he
        clear he
        go_wp2_with (go_at_call 28; refine (cur_in b s p hlt hs _ (by assumption) (by assumption)).mono ?_; rintro e w' ⟨rfl, n, rfl⟩)
        have P := put_pos hb d0 d2 df dg n (.int .i64 ((p : Int) + 1))
        have hp' : Hid (p + 1 = pos + 1 + (k + 1)) := (by have e : p = pos + 1 + k := hp; omega : p + 1 = pos + 1 + (k + 1))
        go_roundw
        case rel => exact ⟨k + 1, p + 1, by go_num, hp', runEq_succ hp hr hlt HE.out, P.1, P.2.1, P.2.2.1, P.2.2.2⟩
        case measure => simp [intOf]; omega
      · have hb1 : ((s[p].toNat : Int) == 61) = false := by simpa using he
        have hend : endAt s p := fun _ => he
        clear he
        by_cases ho : (s[p].toNat : Int) = 91
        · have HO : Hid ((s[p].toNat : Int) = 91) := ho
          have hb2 : ((s[p].toNat : Int) == 91) = true := by simpa using ho
          clear ho
          go_wp2_with (go_at_call 28; refine (cur_in b s p hlt hs _ (by assumption) (by assumption)).mono ?_; rintro e w' ⟨rfl, n, rfl⟩)
          go_ret
          exact ⟨_, _, rfl, (put_pos hb d0 d2 df dg _ _).2.1, lb_open hp hr hlt HO.out, (put_pos hb d0 d2 df dg _ _).2.2.2⟩
        · have hno : ¬ opens s p := fun ⟨_, h⟩ => ho h
          have hb2 : ((s[p].toNat : Int) == 91) = false := by simpa using ho
          clear ho
          by_cases hk0 : k = 0
          · go_wp2_with (go_at_call 28; refine (cur_in b s p hlt hs _ (by assumption) (by assumption)).mono ?_; rintro e w' ⟨rfl, n, rfl⟩)
            go_ret
            exact ⟨-1, p, rfl, d2, lb_shut hp hr hend hno (-1) (Or.inl ⟨hk0, rfl⟩), dg⟩
          · go_wp2_with (go_at_call 28; refine (cur_in b s p hlt hs _ (by assumption) (by assumption)).mono ?_; rintro e w' ⟨rfl, n, rfl⟩)
            go_ret
            exact ⟨-2, p, rfl, d2, lb_shut hp hr hend hno (-2) (Or.inr ⟨by omega, rfl⟩), dg⟩
    · have hno : ¬ opens s p := fun ⟨h, _⟩ => hlt h
      have hend : endAt s p := fun h => absurd h hlt
      by_cases hk0 : k = 0
      · go_wp2_with (go_at_call 28; refine (cur_out b s p (by omega) (by omega) _ (by assumption) (by assumption)).mono ?_; rintro e w' ⟨rfl, n, rfl⟩)
        go_ret
        exact ⟨-1, p, rfl, d2, lb_shut hp hr hend hno (-1) (Or.inl ⟨hk0, rfl⟩), dg⟩
      · go_wp2_with (go_at_call 28; refine (cur_out b s p (by omega) (by omega) _ (by assumption) (by assumption)).mono ?_; rintro e w' ⟨rfl, n, rfl⟩)
        go_ret
        exact ⟨-2, p, rfl, d2, lb_shut hp hr hend hno (-2) (Or.inr ⟨by omega, rfl⟩), dg⟩

set_option maxHeartbeats 400000 in
theorem zzLongBracket_any (W : World) (s : ByteArray) (pos : Nat) (hpos : pos ≤ s.size) (hs : s.size ≤ 4194304) (w : World) (hg : Grown W w) :
    Calls Try.prog 16 #[.string s, .int .i64 pos] w fun e w' => ∃ lv np : Int, e = .returned (.tuple #[.int .i64 lv, .int .i64 np]) ∧ LB s (pos + 1) lv np ∧ Grown W w' := by
  go_enter Try.func16, Try.ntmps16
  go_wp2_with fail
  refine (longBracket_any W w.heap.size hg.2.2 s pos hpos hs _ ?_ ?_ ?_ (hg.alloc _ _)).mono ?_
  · go_simp
  · go_simp
  · go_simp
  rintro e w' ⟨lv, np, rfl, d2, hL, hg'⟩
  go_wp2
  go_quiet (fail)
  go_wp2
  go_ret2
  exact ⟨lv, np, rfl, hL, hg'⟩
end Go.Proofs.Qxb6600823a
