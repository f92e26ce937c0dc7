/- zzs1496cdigit (6): the value of an upper-case hex digit, -1 elsewhere. -/
import Derived.Test.YbulkadyoRows
import Derived.WalkKit
import Derived.ProofKit
import Derived.OpenShut
import Derived.WalkSpells
namespace Go.Proofs.Ybulkadyo
open Go.ChangeShapes Go.WideShapes Go.ChangeAt Go.RowKit
set_option linter.unusedVariables false

/-- The k-th sign of the table. -/
def tabAt (k : Nat) : Int := if k < 10 then 48 + k else 55 + k
/-- A digit's value; -1 for any other byte. -/
def dig (c : Int) : Int := if 48 ≤ c ∧ c ≤ 57 then c - 48 else if 65 ≤ c ∧ c ≤ 70 then c - 55 else -1

theorem dig_tab (k : Nat) (hk : k < 16) : dig (tabAt k) = k := by
  unfold dig tabAt
  by_cases h : k < 10
  · rw [if_pos h, if_pos (by omega)]; omega
  · rw [if_neg h, if_neg (by omega), if_pos (by omega)]; omega
theorem dig_none (c : Int) (h : ∀ j, j < 16 → tabAt j ≠ c) : dig c = -1 := by
  unfold dig
  rw [if_neg, if_neg]
  · rintro ⟨h1, h2⟩
    refine h (c - 55).toNat (by omega) ?_
    unfold tabAt
    rw [if_neg (by omega)]; omega
  · rintro ⟨h1, h2⟩
    refine h (c - 48).toNat (by omega) ?_
    unfold tabAt
    rw [if_pos (by omega)]; omega
theorem dig_bd (c : Int) : -1 ≤ dig c ∧ dig c ≤ 15 := by
  unfold dig
  by_cases h : 48 ≤ c ∧ c ≤ 57
  · rw [if_pos h]; omega
  · rw [if_neg h]
    by_cases h' : 65 ≤ c ∧ c ≤ 70
    · rw [if_pos h']; omega
    · rw [if_neg h']; omega

theorem ret_int {k : IntKind} {a b : Int} (h : a = b) : Ending.returned (.int k a) = .returned (.int k b) := by rw [h]

theorem idx0 (w : World) : (Instr.index 9 (.string ⟨#[48, 49, 50, 51, 52, 53, 54, 55, 56, 57, 65, 66, 67, 68, 69, 70]⟩) (.int .i64 0)).run Yba.prog w = .ok (.int .u8 48) w := by kernel_rfl
theorem idx1 (w : World) : (Instr.index 9 (.string ⟨#[48, 49, 50, 51, 52, 53, 54, 55, 56, 57, 65, 66, 67, 68, 69, 70]⟩) (.int .i64 1)).run Yba.prog w = .ok (.int .u8 49) w := by kernel_rfl
theorem idx2 (w : World) : (Instr.index 9 (.string ⟨#[48, 49, 50, 51, 52, 53, 54, 55, 56, 57, 65, 66, 67, 68, 69, 70]⟩) (.int .i64 2)).run Yba.prog w = .ok (.int .u8 50) w := by kernel_rfl
theorem idx3 (w : World) : (Instr.index 9 (.string ⟨#[48, 49, 50, 51, 52, 53, 54, 55, 56, 57, 65, 66, 67, 68, 69, 70]⟩) (.int .i64 3)).run Yba.prog w = .ok (.int .u8 51) w := by kernel_rfl
theorem idx4 (w : World) : (Instr.index 9 (.string ⟨#[48, 49, 50, 51, 52, 53, 54, 55, 56, 57, 65, 66, 67, 68, 69, 70]⟩) (.int .i64 4)).run Yba.prog w = .ok (.int .u8 52) w := by kernel_rfl
theorem idx5 (w : World) : (Instr.index 9 (.string ⟨#[48, 49, 50, 51, 52, 53, 54, 55, 56, 57, 65, 66, 67, 68, 69, 70]⟩) (.int .i64 5)).run Yba.prog w = .ok (.int .u8 53) w := by kernel_rfl
theorem idx6 (w : World) : (Instr.index 9 (.string ⟨#[48, 49, 50, 51, 52, 53, 54, 55, 56, 57, 65, 66, 67, 68, 69, 70]⟩) (.int .i64 6)).run Yba.prog w = .ok (.int .u8 54) w := by kernel_rfl
theorem idx7 (w : World) : (Instr.index 9 (.string ⟨#[48, 49, 50, 51, 52, 53, 54, 55, 56, 57, 65, 66, 67, 68, 69, 70]⟩) (.int .i64 7)).run Yba.prog w = .ok (.int .u8 55) w := by kernel_rfl
theorem idx8 (w : World) : (Instr.index 9 (.string ⟨#[48, 49, 50, 51, 52, 53, 54, 55, 56, 57, 65, 66, 67, 68, 69, 70]⟩) (.int .i64 8)).run Yba.prog w = .ok (.int .u8 56) w := by kernel_rfl
theorem idx9 (w : World) : (Instr.index 9 (.string ⟨#[48, 49, 50, 51, 52, 53, 54, 55, 56, 57, 65, 66, 67, 68, 69, 70]⟩) (.int .i64 9)).run Yba.prog w = .ok (.int .u8 57) w := by kernel_rfl
theorem idx10 (w : World) : (Instr.index 9 (.string ⟨#[48, 49, 50, 51, 52, 53, 54, 55, 56, 57, 65, 66, 67, 68, 69, 70]⟩) (.int .i64 10)).run Yba.prog w = .ok (.int .u8 65) w := by kernel_rfl
theorem idx11 (w : World) : (Instr.index 9 (.string ⟨#[48, 49, 50, 51, 52, 53, 54, 55, 56, 57, 65, 66, 67, 68, 69, 70]⟩) (.int .i64 11)).run Yba.prog w = .ok (.int .u8 66) w := by kernel_rfl
theorem idx12 (w : World) : (Instr.index 9 (.string ⟨#[48, 49, 50, 51, 52, 53, 54, 55, 56, 57, 65, 66, 67, 68, 69, 70]⟩) (.int .i64 12)).run Yba.prog w = .ok (.int .u8 67) w := by kernel_rfl
theorem idx13 (w : World) : (Instr.index 9 (.string ⟨#[48, 49, 50, 51, 52, 53, 54, 55, 56, 57, 65, 66, 67, 68, 69, 70]⟩) (.int .i64 13)).run Yba.prog w = .ok (.int .u8 68) w := by kernel_rfl
theorem idx14 (w : World) : (Instr.index 9 (.string ⟨#[48, 49, 50, 51, 52, 53, 54, 55, 56, 57, 65, 66, 67, 68, 69, 70]⟩) (.int .i64 14)).run Yba.prog w = .ok (.int .u8 69) w := by kernel_rfl
theorem idx15 (w : World) : (Instr.index 9 (.string ⟨#[48, 49, 50, 51, 52, 53, 54, 55, 56, 57, 65, 66, 67, 68, 69, 70]⟩) (.int .i64 15)).run Yba.prog w = .ok (.int .u8 70) w := by kernel_rfl
theorem idx (k : Nat) (hk : k < 16) (w : World) : (Instr.index 9 (.string ⟨#[48, 49, 50, 51, 52, 53, 54, 55, 56, 57, 65, 66, 67, 68, 69, 70]⟩) (.int .i64 (k : Int))).run Yba.prog w = .ok (.int .u8 (tabAt k)) w := by
  rcases (show k = 0 ∨ k = 1 ∨ k = 2 ∨ k = 3 ∨ k = 4 ∨ k = 5 ∨ k = 6 ∨ k = 7 ∨ k = 8 ∨ k = 9 ∨ k = 10 ∨ k = 11 ∨ k = 12 ∨ k = 13 ∨ k = 14 ∨ k = 15 by omega) with rfl | rfl | rfl | rfl | rfl | rfl | rfl | rfl | rfl | rfl | rfl | rfl | rfl | rfl | rfl | rfl
  · exact idx0 w
  · exact idx1 w
  · exact idx2 w
  · exact idx3 w
  · exact idx4 w
  · exact idx5 w
  · exact idx6 w
  · exact idx7 w
  · exact idx8 w
  · exact idx9 w
  · exact idx10 w
  · exact idx11 w
  · exact idx12 w
  · exact idx13 w
  · exact idx14 w
  · exact idx15 w

theorem digit_any (c : Int) (h0 : 0 ≤ c) (h1 : c ≤ 255) (w : World) :
    Calls Yba.prog 6 #[.int .u8 c] w fun e w' => e = .returned (.int .i64 (dig c)) ∧ w' = w := by
  go_enter Yba.func6, Yba.ntmps6
  go_wp2
  go_loop [3] (fun i => ∃ k : Nat, k ≤ 16 ∧ i = .int .i64 k ∧ Hid (∀ j, j < k → tabAt j ≠ c)) (fun i => 16 - (intOf i).toNat)
  case atStart => exact ⟨0, by omega, rfl, fun j hj => by omega⟩
  case round =>
    obtain ⟨k, hk, rfl, hH⟩ := hrel
    by_cases hlt : k < 16
    · have hi := fun wx => idx k hlt wx
      by_cases hc : tabAt k = c
      · have hb : (tabAt k == c) = true := beq_iff_eq.2 hc
        have HD : Hid (dig c = k) := by rw [← hc]; exact dig_tab k hlt
        clear hc
        go_wp2
        go_ret
        exact ⟨ret_int HD.out.symm, rfl⟩
      · have hb : (tabAt k == c) = false := beq_eq_false_iff_ne.2 hc
        have HH : Hid (∀ j, j < k + 1 → tabAt j ≠ c) := fun j hj => by
          by_cases e : j = k
          · subst e; exact hc
          · exact hH.out j (by omega)
        clear hc hH
        go_wp2
        go_round
        case rel => exact ⟨k + 1, by omega, by go_num, HH⟩
        case measure => simp [intOf]; omega
    · have HD : Hid (dig c = -1) := dig_none c fun j hj => hH.out j (by omega)
      clear hH
      go_wp2
      go_ret
      exact ⟨ret_int HD.out.symm, rfl⟩
end Go.Proofs.Ybulkadyo
