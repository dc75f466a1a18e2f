/- CalF: what is needed here. -/
import Derived.Test.YtdgckbjfnbljkaaDoorProg
import Derived.Test.YtdgckbjfnbljkaaDoorCal2
namespace Go.Proofs.YtdgckbjfnbljkaaDoor.Tm
set_option linter.unusedSimpArgs false
set_option linter.unusedVariables false
open Go.RowKit Go
/-- The days of a month. -/
def leapB (y : Nat) : Bool := decide ((y % 4 = 0 ∧ y % 100 ≠ 0) ∨ y % 400 = 0)
def daysIn (y m : Nat) : Nat := if m = 2 then (if leapB y = true then 29 else 28) else if m = 4 ∨ m = 6 ∨ m = 9 ∨ m = 11 then 30 else 31
theorem leapB_iff (y : Nat) : leapB y = true ↔ leapY y := by unfold leapB leapY; exact decide_eq_true_iff
theorem dayNo_shift (k c cy ay : Nat) : dayNo (4 * k + c) cy ay = 146097 * k + dayNo c cy ay := by
  unfold dayNo
  have : 146097 * (4 * k + c) / 4 = 146097 * k + 146097 * c / 4 := by omega
  omega
theorem day_plain (z ay : Nat) : dayNo (z / 100) (z % 100) ay + z / 100 = 365 * z + z / 4 + z / 400 + ay := by
  unfold dayNo
  obtain ⟨c, r, rfl, hr⟩ : ∃ c r, z = 100 * c + r ∧ r < 100 := ⟨z / 100, z % 100, by omega, by omega⟩
  have e1 : (100 * c + r) / 100 = c := by omega
  have e2 : (100 * c + r) % 100 = r := by omega
  have e3 : (100 * c + r) / 4 = 25 * c + r / 4 := by omega
  have e4 : (100 * c + r) / 400 = c / 4 := by omega
  have e5 : 146097 * c / 4 = 36524 * c + c / 4 := by omega
  have e6 : 1461 * r / 4 = 365 * r + r / 4 := by omega
  rw [e1, e2, e3, e4, e5, e6]; omega
theorem yAbs_split (y m : Nat) : yAbs y m / 100 = 4 * 730692555 + (y + 400 - jfOf m) / 100 ∧ yAbs y m % 100 = (y + 400 - jfOf m) % 100 := by
  unfold yAbs
  rcases jf_cases m with ⟨_, hj⟩ | ⟨_, hj⟩ <;> rw [hj] <;> omega
end Go.Proofs.YtdgckbjfnbljkaaDoor.Tm
