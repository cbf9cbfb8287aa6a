/-
  FnLongBracketOpeningTable: the walk: the text is laid byte by byte into a row of the call's own, then turned into a string.
-/
import Derived.Test.Qxb6600823aText
import Derived.WalkSpells
namespace Go.Proofs.Qxb6600823a
open Go.RowKit
set_option linter.unusedVariables false

theorem Try.info5 : (Try.prog.info? 5).map (fun i => (i.zero, i.size, i.bytes)) = some (some (.int .u8 0), 1, 1) := by kernel_rfl

/-- The cells that hold the bytes l. -/
def cellsOf (l : List UInt8) : List Value := l.map fun b => Value.int .u8 (b.toNat : Int)
theorem cellsOf_push (l : List UInt8) (b : UInt8) : cellsOf l ++ [Value.int .u8 (b.toNat : Int)] = cellsOf (l ++ [b]) := by simp [cellsOf]

theorem take_push (s : ByteArray) (k : Nat) (h : k < s.size) : s.data.toList.take k ++ [s[k]] = s.data.toList.take (k + 1) := by
  rw [List.take_succ_eq_append_getElem (by simpa using h)]; rfl

theorem laid_push (a : List UInt8) (s : ByteArray) (k : Nat) (h : k < s.size) : cellsOf (laid a s.data.toList k) ++ [Value.int .u8 (s[k].toNat : Int)] = cellsOf (laid a s.data.toList (k + 1)) := by
  rw [cellsOf_push]; unfold laid; rw [List.append_assoc, take_push s k h]

theorem laid_head (p : ByteArray) (n k : Nat) (h : p.size ≤ k) : cellsOf (laid [] p.data.toList k) ++ [Value.int .u8 91] = cellsOf (laid (headL p) (List.replicate n 61) 0) := by
  have e : laid [] p.data.toList k = p.data.toList := by unfold laid; rw [List.nil_append]; exact List.take_of_length_le (by simpa using h)
  rw [e]
  exact (cellsOf_push p.data.toList 91).trans (by simp [laid, headL])
theorem laid_eq (a : List UInt8) (n j : Nat) (h : j < n) : cellsOf (laid a (List.replicate n 61) j) ++ [Value.int .u8 61] = cellsOf (laid a (List.replicate n 61) (j + 1)) := by
  refine (cellsOf_push _ 61).trans ?_
  unfold laid
  rw [List.append_assoc, List.take_replicate, List.take_replicate, Nat.min_eq_left (by omega), Nat.min_eq_left (by omega), List.replicate_succ']
theorem laid_mid (p : ByteArray) (n j : Nat) (x : UInt8) (t : List UInt8) (h : n ≤ j) : cellsOf (laid (headL p) (List.replicate n 61) j) ++ [Value.int .u8 (x.toNat : Int)] = cellsOf (laid (midL p n x) t 0) := by
  rw [cellsOf_push]
  unfold laid
  rw [List.take_of_length_le (by simpa using h)]
  simp [midL]

/-- 'string(b)', b the row that the call has laid. -/
theorem convert_row (wr : World) (B C N : Nat) (l : List UInt8) (hN : l.length = N) (h : wr.ownsRow B 5 1 (.slice (some ⟨B, 0, none⟩) N C) N (cellsOf l)) :
    (convert 29 9 (.slice (some ⟨B, 0, none⟩) N C)).run Try.prog wr = .ok (.string ⟨l.toArray⟩) wr := by
  have hb := run_convert_bytes_back (P := Try.prog) wr 29 9 5 ⟨B, 0, none⟩ C l Try.underlying29 Try.underlying5 Try.underlying9 (fun j hj => by
    refine h.cells (g := B) rfl j _ ?_
    simp [cellsOf, List.getElem?_eq_getElem hj])
  rw [hN] at hb
  exact hb

set_option maxHeartbeats 400000 in
theorem bytes9_ok (p s : ByteArray) (n x : Int) (hp : p.size ≤ 524288) (hs : s.size ≤ 524288) (w : World) :
    Calls Try.prog 17 #[.string p, .string s, .int .i64 n, .int .u8 x] w fun e w' => e = .returned (.bool true) ∧ w = w' := by
  go_enter Try.func17, Try.ntmps17
  go_wp2
  go_ret
  exact ⟨rfl, rfl⟩

set_option maxHeartbeats 1000000 in
theorem table_in (p s : ByteArray) (n : Nat) (x : UInt8) (hp : p.size ≤ 524288) (hs : s.size ≤ 524288) (hn : n ≤ 65536) (hx : ((x.toNat : Int) == 61) = false) (w : World) :
    Calls Try.prog 9 #[.string p, .string s, .int .i64 n, .int .u8 (x.toNat : Int)] w fun e w' => e = .returned (.bool true) ∧ w.keptBut w' (fun _ => False) := by
  obtain ⟨i0, hi, hz0, hz1, hz2⟩ := info_parts Try.info5
  go_enter Try.func9, Try.ntmps9
  go_wp2_with (first
    | (go_at_call 17; refine (bytes9_ok p s n x.toNat hp hs _).mono ?_; rintro e w' ⟨rfl, rfl⟩)
    | (at_make; refine wpList_make_own _ rfl _ _ 29 rfl w.heap.size 5 i0 (.int .u8 0) 1 Try.underlying29 hi hz0 hz1 _ _ _ (p.size + n + 2 + s.size) rfl rfl (by omega) ?b2 ?b3 (Nat.le_refl _) ?_))
  case b2 => rw [hz2]; omega
  case b3 => unfold maxLen; omega
  intro w0 hown0 hgrow0
  go_wp2_with fail
  go_loopw [9, 10] (fun out i wr => ∃ k : Nat, k ≤ p.size ∧ i = .int .i64 k ∧ out = .slice (some ⟨w.heap.size, 0, none⟩) k (p.size + n + 2 + s.size) ∧
      wr.ownsRow w.heap.size 5 1 (.slice (some ⟨w.heap.size, 0, none⟩) k (p.size + n + 2 + s.size)) k (cellsOf (laid [] p.data.toList k)) ∧ Below w.heap.size w wr)
    (fun _ i _ => p.size - (intOf i).toNat)
  case atStart => exact ⟨0, Nat.zero_le _, rfl, rfl, hown0, (Below.refl _ _).grown hgrow0 (Nat.le_refl _) (fun k h => by cases h)⟩
  case round =>
    obtain ⟨k, hk, rfl, rfl, hown, hbel⟩ := hrel
    clear hown0 hgrow0
    by_cases hlt : k < p.size
    · have HP := laid_push [] p k hlt
      have hpush : Hid (cellsOf (laid [] p.data.toList k) ++ [Value.int .u8 (p[k].toNat : Int)] = cellsOf (laid [] p.data.toList (k + 1))) := HP
      clear HP
      go_wp2_with (at_builtin; refine wpList_append_fits _ rfl (.tmp 51) (.tmp 55) 29 rfl w.heap.size 5 i0 1 Try.underlying29 hi hz1 w.heap.size k (p.size + n + 2 + s.size) _ rfl (hown.alloc _) ⟨wr.heap.size, 0, none⟩ 1 1 [.int .u8 (p[k].toNat : Int)] rfl rfl (cell_one_new _ _ _) (by intro u hu; simp at hu; subst hu; rfl) (by omega) ?_; intro w1 hown1 hgrow1)
      rw [hpush.out] at hown1
      go_roundw
      case rel => exact ⟨k + 1, by omega, by go_num, rfl, hown1, (hbel.alloc hbel.size _).grown hgrow1 (by simp; have := hbel.size; omega) (fun j hj => by cases hj; exact Nat.le_refl _)⟩
      case measure => simp [intOf]; omega
    · go_wp2_with (at_builtin; refine wpList_append_fits _ rfl (.tmp 57) (.tmp 58) 29 rfl w.heap.size 5 i0 1 Try.underlying29 hi hz1 w.heap.size k (p.size + n + 2 + s.size) _ rfl (hown.alloc _) ⟨wr.heap.size, 0, none⟩ 1 1 [.int .u8 91] rfl rfl (cell_one_new _ _ _) (by intro u hu; simp at hu; subst hu; rfl) (by omega) ?_; intro w1 hown1 hgrow1)
      have hl := laid_head p n k (by omega)
      have Hl : Hid (cellsOf (laid [] p.data.toList k) ++ [Value.int .u8 91] = cellsOf (laid (headL p) (List.replicate n 61) 0)) := hl
      clear hl
      rw [Hl.out] at hown1
      have hbel1 : Below w.heap.size w w1 := (hbel.alloc hbel.size _).grown hgrow1 (by simp; have := hbel.size; omega) (fun j hj => by cases hj; exact Nat.le_refl _)
      clear hown hbel hgrow1 Hl
      go_loopw [9, 11] (fun out i wr => ∃ j : Nat, j ≤ n ∧ i = .int .i64 j ∧ out = .slice (some ⟨w.heap.size, 0, none⟩) (k + 1 + j) (p.size + n + 2 + s.size) ∧
          wr.ownsRow w.heap.size 5 1 (.slice (some ⟨w.heap.size, 0, none⟩) (k + 1 + j) (p.size + n + 2 + s.size)) (k + 1 + j) (cellsOf (laid (headL p) (List.replicate n 61) j)) ∧ Below w.heap.size w wr)
        (fun _ i _ => n - (intOf i).toNat)
      case atStart => exact ⟨0, Nat.zero_le _, rfl, rfl, hown1, hbel1⟩
      case round =>
        obtain ⟨j, hj, rfl, rfl, hown, hbel⟩ := hrel
        clear hown1 hbel1
        by_cases hjn : j < n
        · have HP := laid_eq (headL p) n j hjn
          have hpush : Hid (cellsOf (laid (headL p) (List.replicate n 61) j) ++ [Value.int .u8 61] = cellsOf (laid (headL p) (List.replicate n 61) (j + 1))) := HP
          clear HP
          go_wp2_with (at_builtin; refine wpList_append_fits _ rfl (.tmp 65) (.tmp 66) 29 rfl w.heap.size 5 i0 1 Try.underlying29 hi hz1 w.heap.size (k + 1 + j) (p.size + n + 2 + s.size) _ rfl (hown.alloc _) ⟨wr.heap.size, 0, none⟩ 1 1 [.int .u8 61] rfl rfl (cell_one_new _ _ _) (by intro u hu; simp at hu; subst hu; rfl) (by omega) ?_; intro w1 hown1 hgrow1)
          rw [hpush.out] at hown1
          go_roundw
          case rel => exact ⟨j + 1, by omega, by go_num, rfl, hown1, (hbel.alloc hbel.size _).grown hgrow1 (by simp; have := hbel.size; omega) (fun j hj => by cases hj; exact Nat.le_refl _)⟩
          case measure => simp [intOf]; omega
        · go_wp2_with (at_builtin; refine wpList_append_fits _ rfl (.tmp 68) (.tmp 70) 29 rfl w.heap.size 5 i0 1 Try.underlying29 hi hz1 w.heap.size (k + 1 + j) (p.size + n + 2 + s.size) _ rfl (hown.alloc _) ⟨wr.heap.size, 0, none⟩ 1 1 [.int .u8 (x.toNat : Int)] rfl rfl (cell_one_new _ _ _) (by intro u hu; simp at hu; subst hu; rfl) (by omega) ?_; intro w1 hown1 hgrow1)
          have hl := laid_mid p n j x s.data.toList (by omega)
          have Hl : Hid (cellsOf (laid (headL p) (List.replicate n 61) j) ++ [Value.int .u8 (x.toNat : Int)] = cellsOf (laid (midL p n x) s.data.toList 0)) := hl
          clear hl
          rw [Hl.out] at hown1
          have hbel1 : Below w.heap.size w w1 := (hbel.alloc hbel.size _).grown hgrow1 (by simp; have := hbel.size; omega) (fun j hj => by cases hj; exact Nat.le_refl _)
          clear hown hbel hgrow1 Hl
          go_loopw [9, 12] (fun out i wr => ∃ q : Nat, q ≤ s.size ∧ i = .int .i64 q ∧ out = .slice (some ⟨w.heap.size, 0, none⟩) (k + 1 + j + 1 + q) (p.size + n + 2 + s.size) ∧
              wr.ownsRow w.heap.size 5 1 (.slice (some ⟨w.heap.size, 0, none⟩) (k + 1 + j + 1 + q) (p.size + n + 2 + s.size)) (k + 1 + j + 1 + q) (cellsOf (laid (midL p n x) s.data.toList q)) ∧ Below w.heap.size w wr)
            (fun _ i _ => s.size - (intOf i).toNat)
          case atStart => exact ⟨0, Nat.zero_le _, rfl, rfl, hown1, hbel1⟩
          case round =>
            obtain ⟨q, hq, rfl, rfl, hown, hbel⟩ := hrel
            clear hown1 hbel1
            by_cases hqs : q < s.size
            · have HP := laid_push (midL p n x) s q hqs
              have hpush : Hid (cellsOf (laid (midL p n x) s.data.toList q) ++ [Value.int .u8 (s[q].toNat : Int)] = cellsOf (laid (midL p n x) s.data.toList (q + 1))) := HP
              clear HP
              go_wp2_with (at_builtin; refine wpList_append_fits _ rfl (.tmp 78) (.tmp 82) 29 rfl w.heap.size 5 i0 1 Try.underlying29 hi hz1 w.heap.size (k + 1 + j + 1 + q) (p.size + n + 2 + s.size) _ rfl (hown.alloc _) ⟨wr.heap.size, 0, none⟩ 1 1 [.int .u8 (s[q].toNat : Int)] rfl rfl (cell_one_new _ _ _) (by intro u hu; simp at hu; subst hu; rfl) (by omega) ?_; intro w1 hown1 hgrow1)
              rw [hpush.out] at hown1
              go_roundw
              case rel => exact ⟨q + 1, by omega, by go_num, rfl, hown1, (hbel.alloc hbel.size _).grown hgrow1 (by simp; have := hbel.size; omega) (fun j hj => by cases hj; exact Nat.le_refl _)⟩
              case measure => simp [intOf]; omega
            · have hlen := laid_length p s n q x (by omega)
              have hN : (laid (midL p n x) s.data.toList q).length = k + 1 + j + 1 + q := by omega
              have hcv := convert_row wr w.heap.size (p.size + n + 2 + s.size) (k + 1 + j + 1 + q) _ hN hown
              clear hlen hN hown
              obtain ⟨T, hT⟩ : ∃ T : ByteArray, T = ⟨(laid (midL p n x) s.data.toList q).toArray⟩ := ⟨_, rfl⟩
              rw [← hT] at hcv
              have HT : Hid (T = ⟨(laid (midL p n x) s.data.toList q).toArray⟩) := hT
              clear hT
              have hsz : Hid (T.size = p.size + 1 + n + 1 + s.size) := text_size p s T n q x (by omega) HT.out
              have hx' : Hid (¬ (x.toNat : Int) = 61) := (by simpa using hx : ¬ (x.toNat : Int) = 61)
              go_wp2_with fail
              refine (zzLongBracket_any wr T p.size (by have := hsz.out; omega) (by have := hsz.out; omega) wr (Grown.refl wr)).mono ?_
              rintro e w' ⟨lv, np, rfl, hL, hg⟩
              have hP := lb_table p s T n q x (by omega) HT.out hx'.out lv np hL
              have hkept : w.keptBut w' (fun _ => False) := World.keptBut_trans (hbel.frame _) hg.1
              clear hL hg HT hsz hcv hbel hx'
              by_cases h91 : (x.toNat : Int) = 91
              · obtain ⟨e1, e2⟩ := hP.1 h91
                have h91b : ((x.toNat : Int) == 91) = true := by simpa using h91
                subst e1 e2
                clear hP h91
                go_wp2_with fail
                go_ret
                exact ⟨rfl, hkept⟩
              · have h91b : ((x.toNat : Int) == 91) = false := by simpa using h91
                by_cases hn0 : n = 0
                · obtain ⟨e1, e2⟩ := hP.2.1 h91 hn0
                  subst e1 e2
                  clear hP h91
                  go_wp2_with fail
                  go_ret
                  exact ⟨rfl, hkept⟩
                · obtain ⟨e1, e2⟩ := hP.2.2 h91 (by omega)
                  subst e1 e2
                  clear hP h91
                  go_wp2_with fail
                  go_ret
                  exact ⟨rfl, hkept⟩
end Go.Proofs.Qxb6600823a
