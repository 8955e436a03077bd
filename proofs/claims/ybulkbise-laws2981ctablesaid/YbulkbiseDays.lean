/-
  DERIVED. Days: the plain calendar behind 'daysIn' and the law's own helpers, and the walks of these.
-/
import Derived.Test.YbulkbiseRows
import Derived.WalkKit
import Derived.WalkSpells
namespace Go.Proofs.Ybulkbise
open Go.RowKit

/-- The Gregorian leap rule. -/
def leapB (y : Int) : Bool := decide (y % 4 = 0 ∧ (y % 100 ≠ 0 ∨ y % 400 = 0))
/-- The days of month m in year y; a month out of range has 31. -/
def dim (m y : Int) : Int := if m = 2 then (if leapB y = true then 29 else 28) else if m = 4 ∨ m = 6 ∨ m = 9 ∨ m = 11 then 30 else 31

theorem ret_int {k : IntKind} {a b : Int} (h : a = b) : Ending.returned (.int k a) = .returned (.int k b) := by rw [h]
theorem ret_bool {a b : Bool} (h : a = b) : Ending.returned (.bool a) = .returned (.bool b) := by rw [h]

theorem tm4 (y : Int) : y.tmod 4 = 0 ↔ y % 4 = 0 := by
  rw [← Int.dvd_iff_tmod_eq_zero, ← Int.dvd_iff_emod_eq_zero]
theorem tm100 (y : Int) : y.tmod 100 = 0 ↔ y % 100 = 0 := by
  rw [← Int.dvd_iff_tmod_eq_zero, ← Int.dvd_iff_emod_eq_zero]
theorem tm400 (y : Int) : y.tmod 400 = 0 ↔ y % 400 = 0 := by
  rw [← Int.dvd_iff_tmod_eq_zero, ← Int.dvd_iff_emod_eq_zero]
theorem leap_yes {y : Int} (h : y % 4 = 0 ∧ (y % 100 ≠ 0 ∨ y % 400 = 0)) : leapB y = true := by simp only [leapB]; exact decide_eq_true h
theorem leap_no {y : Int} (h : ¬ (y % 4 = 0 ∧ (y % 100 ≠ 0 ∨ y % 400 = 0))) : leapB y = false := by simp only [leapB]; exact decide_eq_false h
theorem leap_later (y : Int) : leapB (y + 400) = leapB y := by
  simp only [leapB]; rw [decide_eq_decide]; omega
theorem dim_later (m y : Int) : dim m (y + 400) = dim m y := by simp only [dim, leap_later]
theorem dim_lo (m y : Int) : 28 ≤ dim m y ∧ dim m y ≤ 31 := by unfold dim; (repeat' split) <;> omega
theorem dim_leap {y : Int} (h : leapB y = true) : dim 2 y = 29 := by simp [dim, h]
theorem dim_plain {y : Int} (h : leapB y = false) : dim 2 y = 28 := by simp [dim, h]
theorem dim_short {m y : Int} (h : m = 4 ∨ m = 6 ∨ m = 9 ∨ m = 11) : dim m y = 30 := by
  unfold dim; rw [if_neg (by omega), if_pos h]
theorem dim_long {m y : Int} (h : ¬ (m = 2 ∨ m = 4 ∨ m = 6 ∨ m = 9 ∨ m = 11)) : dim m y = 31 := by
  unfold dim; rw [if_neg (by omega), if_neg (by omega)]

set_option maxHeartbeats 400000 in
theorem leap_any (y : Int) (w : World) :
    Calls Yba.prog 7 #[.int .i64 y] w fun e w' => e = .returned (.bool (leapB y)) ∧ w' = w := by
  go_enter Yba.func7, Yba.ntmps7
  go_wp2
  all_goals go_ret
  all_goals (refine ⟨ret_bool ?_, rfl⟩; simp only [beq_iff_eq, beq_eq_false_iff_ne, ne_eq, tm100, tm400] at *)
  · exact (leap_yes (by omega)).symm
  · exact (leap_no (by omega)).symm
  · have e : (y.tmod 4 == 0) = decide (y % 4 = 0) := by rw [Bool.eq_iff_iff]; simp [tm4]
    show (y.tmod 4 == 0) = leapB y
    rw [e, leapB, decide_eq_decide]; omega

set_option maxHeartbeats 400000 in
theorem days_any (m y : Int) (w : World) :
    Calls Yba.prog 5 #[.int .i64 m, .int .i64 y] w fun e w' => e = .returned (.int .i64 (dim m y)) ∧ w' = w := by
  go_enter Yba.func5, Yba.ntmps5
  go_wp2
  all_goals go_ret
  all_goals (refine ⟨ret_int ?_, rfl⟩; simp only [beq_iff_eq, beq_eq_false_iff_ne, ne_eq, tm4, tm100, tm400] at *)
  all_goals first
    | (subst m; exact (dim_leap (leap_yes (by omega))).symm)
    | (subst m; exact (dim_plain (leap_no (by omega))).symm)
    | exact (dim_short (by omega)).symm
    | exact (dim_long (by omega)).symm
end Go.Proofs.Ybulkbise
