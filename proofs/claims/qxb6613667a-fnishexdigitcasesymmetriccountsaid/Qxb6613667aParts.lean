/-
  THE CALLEES' CONTRACTS: 'isHexDigit' (8), 'ZZisHexDigit' (6), 'nibbleCharB1' (5), 'swapCaseB1' (7): each computes a plain function and leaves the world alone.
-/
import Derived.Test.Qxb6613667aRows
import Derived.WalkKit
import Derived.ProofKit
import Derived.OpenShut
import Derived.ShutString
namespace Go.Proofs.Qxb6613667a
open Go.ChangeShapes Go.WideShapes Go.ChangeAt Go.RowKit

/-! ### THE PLAIN FUNCTIONS -/
/-- Is the byte a hex digit? -/
def hexB (c : Int) : Bool := decide ((48 ≤ c ∧ c ≤ 57) ∨ (97 ≤ c ∧ c ≤ 102) ∨ (65 ≤ c ∧ c ≤ 70))
/-- The character of the nibble v. -/
def nib (v : Int) (u : Bool) : Int := if v < 10 then 48 + v else bif u then 55 + v else 87 + v
/-- The byte with its ASCII case exchanged. -/
def swp (c : Int) : Int := if 97 ≤ c ∧ c ≤ 122 then c - 32 else if 65 ≤ c ∧ c ≤ 90 then c + 32 else c

theorem hexB_yes {c : Int} (h : (48 ≤ c ∧ c ≤ 57) ∨ (97 ≤ c ∧ c ≤ 102) ∨ (65 ≤ c ∧ c ≤ 70)) : hexB c = true := decide_eq_true h
theorem hexB_no {c : Int} (h : ¬ ((48 ≤ c ∧ c ≤ 57) ∨ (97 ≤ c ∧ c ≤ 102) ∨ (65 ≤ c ∧ c ≤ 70))) : hexB c = false := decide_eq_false h

theorem ret_bool {a b : Bool} (h : a = b) : Ending.returned (.bool a) = .returned (.bool b) := by rw [h]
theorem ret_int {k : IntKind} {a b : Int} (h : a = b) : Ending.returned (.int k a) = .returned (.int k b) := by rw [h]

/-! ### isHexDigit -/
set_option maxHeartbeats 400000 in
theorem hex8 (c : Int) (w : World) (h0 : 0 ≤ c) (h1 : c ≤ 255) :
    Calls Try.prog 8 #[.int .u8 c] w fun e w' => e = .returned (.bool (hexB c)) ∧ w' = w := by
  rcases (show c < 48 ∨ (48 ≤ c ∧ c ≤ 57) ∨ (58 ≤ c ∧ c ≤ 64) ∨ (65 ≤ c ∧ c ≤ 70) ∨ (71 ≤ c ∧ c ≤ 96) ∨ (97 ≤ c ∧ c ≤ 102) ∨ 103 ≤ c from by omega) with h | ⟨h, h'⟩ | ⟨h, h'⟩ | ⟨h, h'⟩ | ⟨h, h'⟩ | ⟨h, h'⟩ | h
  all_goals
    go_enter Try.func8, Try.ntmps8
    go_wp2
    go_ret
    exact ⟨ret_bool (by first | exact (hexB_yes (c := c) (by omega)).symm | (rw [hexB_no (c := c) (by omega)] <;> (simp <;> omega))), rfl⟩

theorem hex6 (c : Int) (w : World) (h0 : 0 ≤ c) (h1 : c ≤ 255) :
    Calls Try.prog 6 #[.int .u8 c] w fun e w' => e = .returned (.bool (hexB c)) ∧ w' = w := by
  go_enter Try.func6, Try.ntmps6
  go_wp2_with (go_at_call 8; refine (hex8 _ _ (by omega) (by omega)).mono ?_; rintro e w' ⟨rfl, rfl⟩)
  go_ret
  exact ⟨rfl, rfl⟩

/-! ### nibbleCharB1 -/
theorem nib5 (v : Int) (u : Bool) (w : World) (h0 : 0 ≤ v) (h1 : v < 16) :
    Calls Try.prog 5 #[.int .i64 v, .bool u] w fun e w' => e = .returned (.int .u8 (nib v u)) ∧ w' = w := by
  by_cases h : v < 10
  · go_enter Try.func5, Try.ntmps5
    go_wp2
    go_ret
    exact ⟨ret_int (by unfold nib; rw [if_pos h]), rfl⟩
  · cases u
    · go_enter Try.func5, Try.ntmps5
      go_wp2
      go_ret
      exact ⟨ret_int (by unfold nib; rw [if_neg (by omega)]; simp; omega), rfl⟩
    · go_enter Try.func5, Try.ntmps5
      go_wp2
      go_ret
      exact ⟨ret_int (by unfold nib; rw [if_neg (by omega)]; simp; omega), rfl⟩

/-! ### swapCaseB1 -/
theorem swp7 (c : Int) (w : World) (h0 : 0 ≤ c) (h1 : c ≤ 255) :
    Calls Try.prog 7 #[.int .u8 c] w fun e w' => e = .returned (.int .u8 (swp c)) ∧ w' = w := by
  rcases (show c < 65 ∨ (65 ≤ c ∧ c ≤ 90) ∨ (91 ≤ c ∧ c ≤ 96) ∨ (97 ≤ c ∧ c ≤ 122) ∨ 123 ≤ c from by omega) with h | ⟨h, h'⟩ | ⟨h, h'⟩ | ⟨h, h'⟩ | h
  all_goals
    go_enter Try.func7, Try.ntmps7
    go_wp2
    go_ret
    exact ⟨ret_int (by unfold swp; split <;> (try split) <;> omega), rfl⟩
theorem swp_bd (c : Int) (h0 : 0 ≤ c) (h1 : c ≤ 255) : 0 ≤ swp c ∧ swp c ≤ 255 := by unfold swp; split <;> (try split) <;> omega
theorem hexB_swp (c : Int) : hexB (swp c) = hexB c := by
  by_cases h : (48 ≤ c ∧ c ≤ 57) ∨ (97 ≤ c ∧ c ≤ 102) ∨ (65 ≤ c ∧ c ≤ 70)
  · rw [hexB_yes h, hexB_yes]; unfold swp; split <;> (try split) <;> omega
  · rw [hexB_no h, hexB_no]; unfold swp; split <;> (try split) <;> omega
end Go.Proofs.Qxb6613667a
