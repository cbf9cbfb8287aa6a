/-
  matchClass for every pair of bytes: it computes the plain function 'mcB'.
-/
import Derived.Test.Qxb6600823aClass
namespace Go.Proofs.Qxb6600823a
open Go.RowKit

def lowers : List Int := [97, 99, 100, 108, 112, 115, 117, 119, 120, 122]
def clsB (c k : Int) : Bool := if k = 97 then alphaB c else if k = 99 then ctlB c else if k = 100 then digB c else if k = 108 then lowB c else if k = 112 then punB c else if k = 115 then spcB c else if k = 117 then uppB c else if k = 119 then alnumB c else if k = 120 then hexB c else if k = 122 then nulB c else false
def mcB (c cl : Int) : Bool := if lowers.contains cl then clsB c cl else if lowers.contains (cl + 32) then !clsB c (cl + 32) else cl == c

/-- The byte with the bit 0x20 set is one of the ten letters only at such a letter or its upper case. -/
theorem bits_other : ∀ n : Fin 256, lowers.contains (n.val : Int) = true ∨ lowers.contains ((n.val : Int) + 32) = true ∨ lowers.contains (bits BinOp.or IntKind.u8 (n.val : Int) 32) = false := by decide +kernel

set_option maxHeartbeats 400000 in
theorem mc_other (c cl : Int) (w : World)
    (h0 : (bits BinOp.or IntKind.u8 cl 32 == 97) = false)
    (h1 : (bits BinOp.or IntKind.u8 cl 32 == 99) = false)
    (h2 : (bits BinOp.or IntKind.u8 cl 32 == 100) = false)
    (h3 : (bits BinOp.or IntKind.u8 cl 32 == 108) = false)
    (h4 : (bits BinOp.or IntKind.u8 cl 32 == 112) = false)
    (h5 : (bits BinOp.or IntKind.u8 cl 32 == 115) = false)
    (h6 : (bits BinOp.or IntKind.u8 cl 32 == 117) = false)
    (h7 : (bits BinOp.or IntKind.u8 cl 32 == 119) = false)
    (h8 : (bits BinOp.or IntKind.u8 cl 32 == 120) = false)
    (h9 : (bits BinOp.or IntKind.u8 cl 32 == 122) = false) :
    Calls Try.prog 19 #[.int .u8 c, .int .u8 cl] w fun e w' => e = .returned (.bool (cl == c)) ∧ w' = w := by
  go_enter Try.func19, Try.ntmps19
  go_wp2
  go_ret
  exact ⟨rfl, rfl⟩

theorem mc_any (c cl : Int) (h0 : 0 ≤ cl) (h255 : cl ≤ 255) (w : World) :
    Calls Try.prog 19 #[.int .u8 c, .int .u8 cl] w fun e w' => e = .returned (.bool (mcB c cl)) ∧ w' = w := by
  by_cases hl : lowers.contains cl = true
  · have hm : cl = 97 ∨ cl = 99 ∨ cl = 100 ∨ cl = 108 ∨ cl = 112 ∨ cl = 115 ∨ cl = 117 ∨ cl = 119 ∨ cl = 120 ∨ cl = 122 := by simpa [lowers] using hl
    rcases hm with rfl | rfl | rfl | rfl | rfl | rfl | rfl | rfl | rfl | rfl
    · exact mc_a c w
    · exact mc_c c w
    · exact mc_d c w
    · exact mc_l c w
    · exact mc_p c w
    · exact mc_s c w
    · exact mc_u c w
    · exact mc_w c w
    · exact mc_x c w
    · exact mc_z c w
  · by_cases hu : lowers.contains (cl + 32) = true
    · have hm : cl = 65 ∨ cl = 67 ∨ cl = 68 ∨ cl = 76 ∨ cl = 80 ∨ cl = 83 ∨ cl = 85 ∨ cl = 87 ∨ cl = 88 ∨ cl = 90 := by
        have hm2 : cl + 32 = 97 ∨ cl + 32 = 99 ∨ cl + 32 = 100 ∨ cl + 32 = 108 ∨ cl + 32 = 112 ∨ cl + 32 = 115 ∨ cl + 32 = 117 ∨ cl + 32 = 119 ∨ cl + 32 = 120 ∨ cl + 32 = 122 := by simpa [lowers] using hu
        omega
      rcases hm with rfl | rfl | rfl | rfl | rfl | rfl | rfl | rfl | rfl | rfl
      · exact mc_A c w
      · exact mc_C c w
      · exact mc_D c w
      · exact mc_L c w
      · exact mc_P c w
      · exact mc_S c w
      · exact mc_U c w
      · exact mc_W c w
      · exact mc_X c w
      · exact mc_Z c w
    · have hb : lowers.contains (bits BinOp.or IntKind.u8 cl 32) = false := by
        have hn : ((⟨cl.toNat, by omega⟩ : Fin 256).val : Int) = cl := by show (cl.toNat : Int) = cl; omega
        rcases bits_other ⟨cl.toNat, by omega⟩ with h | h | h
        · rw [hn] at h; exact absurd h hl
        · rw [hn] at h; exact absurd h hu
        · rw [hn] at h; exact h
      have hv : mcB c cl = (cl == c) := by unfold mcB; rw [if_neg hl, if_neg hu]
      rw [hv]
      simp only [lowers, List.contains_cons, List.contains_nil, Bool.or_eq_false_iff, Bool.or_false] at hb
      obtain ⟨g0, g1, g2, g3, g4, g5, g6, g7, g8, g9⟩ := hb
      exact mc_other c cl w (by simpa using g0) (by simpa using g1) (by simpa using g2) (by simpa using g3) (by simpa using g4) (by simpa using g5) (by simpa using g6) (by simpa using g7) (by simpa using g8) (by simpa using g9)

set_option maxHeartbeats 400000 in
theorem zzMatchClass_any (c cl : Int) (h0 : 0 ≤ cl) (h255 : cl ≤ 255) (w : World) :
    Calls Try.prog 11 #[.int .u8 c, .int .u8 cl] w fun e w' => e = .returned (.bool (mcB c cl)) ∧ w' = w := by
  go_enter Try.func11, Try.ntmps11
  go_wp2_with (go_at_call 19; refine (mc_any _ _ (by assumption) (by assumption) _).mono ?_; rintro e w' ⟨rfl, rfl⟩)
  go_ret
  exact ⟨rfl, rfl⟩
end Go.Proofs.Qxb6600823a
