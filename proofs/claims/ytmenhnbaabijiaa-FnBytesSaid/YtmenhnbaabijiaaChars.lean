/-
  Contracts of the small functions on bytes of the package char, of the thin package and of the laws: each returns a plain Lean test of the byte and leaves the world alone. Conditions: none.
-/
import Derived.Test.YtmenhnbaabijiaaRows
import Derived.WalkKit
namespace Go.Proofs.Ytmenhnbaabijiaa.chars
open Go.RowKit

theorem ret_bool {x y : Bool} (h : x = y) : Ending.returned (.bool x) = .returned (.bool y) := by rw [h]

/-- A letter or an underscore. -/
def letB (a : Int) : Bool := decide ((97 ≤ a ∧ a ≤ 122) ∨ (65 ≤ a ∧ a ≤ 90) ∨ a = 95)
/-- A decimal digit. -/
def digB (a : Int) : Bool := decide (48 ≤ a ∧ a ≤ 57)
/-- A letter, a digit or an underscore. -/
def worB (a : Int) : Bool := decide ((48 ≤ a ∧ a ≤ 57) ∨ (97 ≤ a ∧ a ≤ 122) ∨ (65 ≤ a ∧ a ≤ 90) ∨ a = 95)
/-- A hexadecimal digit. -/
def hexB (a : Int) : Bool := decide ((48 ≤ a ∧ a ≤ 57) ∨ (97 ≤ a ∧ a ≤ 102) ∨ (65 ≤ a ∧ a ≤ 70))
/-- An octal digit. -/
def octB (a : Int) : Bool := decide (48 ≤ a ∧ a ≤ 55)

theorem digit_any (a : Int) (w : World) : Calls Try.prog 10 #[.int .u8 a] w fun e w' => e = .returned (.bool (digB a)) ∧ w = w' := by
  go_enter Try.func10, Try.ntmps10
  go_wp2
  all_goals go_ret
  all_goals exact ⟨ret_bool (by rw [Bool.eq_iff_iff]; simp [digB]; try omega), rfl⟩

theorem char_digit_any (a : Int) (w : World) : Calls Try.prog 22 #[.int .u8 a] w fun e w' => e = .returned (.bool (digB a)) ∧ w = w' := by
  go_enter Try.func22, Try.ntmps22
  go_wp2
  all_goals go_ret
  all_goals exact ⟨ret_bool (by rw [Bool.eq_iff_iff]; simp [digB]; try omega), rfl⟩

theorem letter_any (a : Int) (w : World) : Calls Try.prog 12 #[.int .u8 a] w fun e w' => e = .returned (.bool (letB a)) ∧ w = w' := by
  go_enter Try.func12, Try.ntmps12
  go_wp2
  all_goals go_ret
  all_goals exact ⟨ret_bool (by rw [Bool.eq_iff_iff]; simp [letB]; try omega), rfl⟩

theorem char_start_any (a : Int) (w : World) : Calls Try.prog 20 #[.int .u8 a] w fun e w' => e = .returned (.bool (letB a)) ∧ w = w' := by
  go_enter Try.func20, Try.ntmps20
  go_wp2
  all_goals go_ret
  all_goals exact ⟨ret_bool (by rw [Bool.eq_iff_iff]; simp [letB]; try omega), rfl⟩

theorem wordy_any (a : Int) (w : World) : Calls Try.prog 14 #[.int .u8 a] w fun e w' => e = .returned (.bool (worB a)) ∧ w = w' := by
  go_enter Try.func14, Try.ntmps14
  go_wp2
  all_goals go_ret
  all_goals exact ⟨ret_bool (by rw [Bool.eq_iff_iff]; simp [worB]; try omega), rfl⟩

theorem char_part_any (a : Int) (w : World) : Calls Try.prog 21 #[.int .u8 a] w fun e w' => e = .returned (.bool (worB a)) ∧ w = w' := by
  go_enter Try.func21, Try.ntmps21
  go_wp2
  all_goals go_ret
  all_goals exact ⟨ret_bool (by rw [Bool.eq_iff_iff]; simp [worB]; try omega), rfl⟩

theorem char_hex_any (a : Int) (w : World) : Calls Try.prog 23 #[.int .u8 a] w fun e w' => e = .returned (.bool (hexB a)) ∧ w = w' := by
  go_enter Try.func23, Try.ntmps23
  go_wp2
  all_goals go_ret
  all_goals exact ⟨ret_bool (by rw [Bool.eq_iff_iff]; simp [hexB]; try omega), rfl⟩

theorem char_oct_any (a : Int) (w : World) : Calls Try.prog 24 #[.int .u8 a] w fun e w' => e = .returned (.bool (octB a)) ∧ w = w' := by
  go_enter Try.func24, Try.ntmps24
  go_wp2
  all_goals go_ret
  all_goals exact ⟨ret_bool (by rw [Bool.eq_iff_iff]; simp [octB]; try omega), rfl⟩

theorem impl_start_any (a : Int) (w : World) : Calls Try.prog 11 #[.int .u8 a] w fun e w' => e = .returned (.bool (letB a)) ∧ w = w' := by
  go_enter Try.func11, Try.ntmps11
  go_wp2
  all_goals go_ret
  all_goals exact ⟨ret_bool (by rw [Bool.eq_iff_iff]; simp [letB]; try omega), rfl⟩

theorem impl_part_any (a : Int) (w : World) : Calls Try.prog 13 #[.int .u8 a] w fun e w' => e = .returned (.bool (worB a)) ∧ w = w' := by
  go_enter Try.func13, Try.ntmps13
  go_wp2
  all_goals go_ret
  all_goals exact ⟨ret_bool (by rw [Bool.eq_iff_iff]; simp [worB]; try omega), rfl⟩

theorem impl_digit_any (a : Int) (w : World) : Calls Try.prog 15 #[.int .u8 a] w fun e w' => e = .returned (.bool (digB a)) ∧ w = w' := by
  go_enter Try.func15, Try.ntmps15
  go_wp2
  all_goals go_ret
  all_goals exact ⟨ret_bool (by rw [Bool.eq_iff_iff]; simp [digB]; try omega), rfl⟩

theorem impl_hex_any (a : Int) (w : World) : Calls Try.prog 16 #[.int .u8 a] w fun e w' => e = .returned (.bool (hexB a)) ∧ w = w' := by
  go_enter Try.func16, Try.ntmps16
  go_wp2
  all_goals go_ret
  all_goals exact ⟨ret_bool (by rw [Bool.eq_iff_iff]; simp [hexB]; try omega), rfl⟩

theorem impl_oct_any (a : Int) (w : World) : Calls Try.prog 17 #[.int .u8 a] w fun e w' => e = .returned (.bool (octB a)) ∧ w = w' := by
  go_enter Try.func17, Try.ntmps17
  go_wp2
  all_goals go_ret
  all_goals exact ⟨ret_bool (by rw [Bool.eq_iff_iff]; simp [octB]; try omega), rfl⟩

end Go.Proofs.Ytmenhnbaabijiaa.chars
