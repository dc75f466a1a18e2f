/- The calendar's plain law: the day of the year and of the week as the reference tells them. -/
import Derived.Test.YtigabjibdepoiaaDoorCal2
namespace Go.Proofs.YtigabjibdepoiaaDoor.Tm
set_option linter.unusedSimpArgs false
set_option linter.unusedVariables false
open Go.RowKit Go
/-- The days of a month. -/
def leapB (y : Nat) : Bool := decide ((y % 4 = 0 ∧ y % 100 ≠ 0) ∨ y % 400 = 0)
def daysIn (y m : Nat) : Nat := if m = 2 then (if leapB y = true then 29 else 28) else if m = 4 ∨ m = 6 ∨ m = 9 ∨ m = 11 then 30 else 31
/-- The days of a year ahead of a month. -/
def cumD (y : Nat) : Nat → Nat
  | 0 => 0
  | k + 1 => cumD y k + (if k = 0 then 0 else daysIn y k)
theorem cumD_one (y : Nat) : cumD y 1 = 0 := rfl
theorem cumD_succ (y k : Nat) (h : 1 ≤ k) : cumD y (k + 1) = cumD y k + daysIn y k := by
  show cumD y k + (if k = 0 then 0 else daysIn y k) = _
  rw [if_neg (by omega)]
def ydN (y m d : Nat) : Nat := d + cumD y m
theorem leapB_iff (y : Nat) : leapB y = true ↔ leapY y := by unfold leapB leapY; exact decide_eq_true_iff
def lpN (y : Nat) : Nat := if leapB y = true then 1 else 0
theorem lp_of (y : Nat) : lpOf ((y + 292277022400) / 100) ((y + 292277022400) % 100) = lpN y := by
  unfold lpOf lpN
  by_cases h : leapY y
  · rw [if_pos ((leapB_iff y).2 h)]
    unfold leapY at h
    rw [if_pos (by omega)]
  · rw [if_neg (fun e => h ((leapB_iff y).1 e))]
    unfold leapY at h
    rw [if_neg (by omega)]
theorem cum_all (y : Nat) : cumD y 1 = 0 ∧ cumD y 2 = 31 ∧ cumD y 3 = 59 + lpN y ∧ cumD y 4 = 90 + lpN y ∧ cumD y 5 = 120 + lpN y ∧ cumD y 6 = 151 + lpN y ∧ cumD y 7 = 181 + lpN y ∧ cumD y 8 = 212 + lpN y ∧ cumD y 9 = 243 + lpN y ∧ cumD y 10 = 273 + lpN y ∧ cumD y 11 = 304 + lpN y ∧ cumD y 12 = 334 + lpN y := by
  unfold lpN
  cases h : leapB y <;> simp [cumD, daysIn, h]
theorem mStart_tab : mStart 3 = 0 ∧ mStart 4 = 31 ∧ mStart 5 = 61 ∧ mStart 6 = 92 ∧ mStart 7 = 122 ∧ mStart 8 = 153 ∧ mStart 9 = 184 ∧ mStart 10 = 214 ∧ mStart 11 = 245 ∧ mStart 12 = 275 ∧ mStart 13 = 306 ∧ mStart 14 = 337 := by decide
theorem cum_start (y m : Nat) (h1 : 1 ≤ m) (h2 : m ≤ 12) : (m < 3 → mStart (m + 12) = 306 + cumD y m) ∧ (3 ≤ m → cumD y m = 59 + lpN y + mStart m) := by
  obtain ⟨c1, c2, c3, c4, c5, c6, c7, c8, c9, c10, c11, c12⟩ := cum_all y
  obtain ⟨s3, s4, s5, s6, s7, s8, s9, s10, s11, s12, s13, s14⟩ := mStart_tab
  have : m = 1 ∨ m = 2 ∨ m = 3 ∨ m = 4 ∨ m = 5 ∨ m = 6 ∨ m = 7 ∨ m = 8 ∨ m = 9 ∨ m = 10 ∨ m = 11 ∨ m = 12 := by omega
  rcases this with rfl | rfl | rfl | rfl | rfl | rfl | rfl | rfl | rfl | rfl | rfl | rfl <;> refine ⟨fun _ => ?_, fun _ => ?_⟩ <;> first | (exfalso; omega) | (show mStart 13 = _; omega) | (show mStart 14 = _; omega) | omega
theorem ydOf_eq {y m d : Nat} (h : DayOk y m d) : ydOf y m d = (ydN y m d : Nat) := by
  obtain ⟨_, h1, h2, h3, _, _⟩ := h
  obtain ⟨g1, g2⟩ := cum_start y m h1 h2
  unfold ydOf ydN ayOf yAbs
  rcases jf_cases m with ⟨hm, hj⟩ | ⟨hm, hj⟩
  · rw [hj, if_neg (by decide), g1 hm]; omega
  · have e : y + 292277022400 - 0 = y + 292277022400 := rfl
    rw [hj, if_pos rfl, g2 hm, e, lp_of, Nat.mul_zero, Nat.add_zero]; omega
theorem dayNo_shift (k c cy ay : Nat) : dayNo (4 * k + c) cy ay = 146097 * k + dayNo c cy ay := by
  unfold dayNo
  have : 146097 * (4 * k + c) / 4 = 146097 * k + 146097 * c / 4 := by omega
  omega
/-- The reference's day of the week. -/
def wdN (y m d : Nat) : Nat := (365 * y + (y + 3) / 4 - (y + 99) / 100 + (y + 399) / 400 + ydN y m d - 1 + 6) % 7
theorem day_plain (z ay : Nat) : dayNo (z / 100) (z % 100) ay + z / 100 = 365 * z + z / 4 + z / 400 + ay := by
  unfold dayNo
  obtain ⟨c, r, rfl, hr⟩ : ∃ c r, z = 100 * c + r ∧ r < 100 := ⟨z / 100, z % 100, by omega, by omega⟩
  have e1 : (100 * c + r) / 100 = c := by omega
  have e2 : (100 * c + r) % 100 = r := by omega
  have e3 : (100 * c + r) / 4 = 25 * c + r / 4 := by omega
  have e4 : (100 * c + r) / 400 = c / 4 := by omega
  have e5 : 146097 * c / 4 = 36524 * c + c / 4 := by omega
  have e6 : 1461 * r / 4 = 365 * r + r / 4 := by omega
  rw [e1, e2, e3, e4, e5, e6]; omega
theorem yAbs_split (y m : Nat) : yAbs y m / 100 = 4 * 730692555 + (y + 400 - jfOf m) / 100 ∧ yAbs y m % 100 = (y + 400 - jfOf m) % 100 := by
  unfold yAbs
  rcases jf_cases m with ⟨_, hj⟩ | ⟨_, hj⟩ <;> rw [hj] <;> omega
theorem wd_eq {y m d : Nat} (h : DayOk y m d) : (dayOf y m d + 3) % 7 = wdN y m d := by
  obtain ⟨hy, h1, h2, h3, _, _⟩ := h
  obtain ⟨g1, g2⟩ := cum_start y m h1 h2
  obtain ⟨a1, a2⟩ := yAbs_split y m
  have hp := day_plain (y + 400 - jfOf m) (ayOf m d)
  unfold dayOf
  rw [a1, a2, dayNo_shift]
  unfold wdN ydN
  generalize dayNo ((y + 400 - jfOf m) / 100) ((y + 400 - jfOf m) % 100) (ayOf m d) = D at *
  unfold ayOf at hp
  rcases jf_cases m with ⟨hm, hj⟩ | ⟨hm, hj⟩
  · rw [hj, Nat.mul_one, g1 hm] at hp
    generalize cumD y m = c at *
    clear g1 g2 a1 a2
    have hD : D + (y + 399) / 100 = 365 * (y + 399) + (y + 399) / 4 + (y + 399) / 400 + (306 + c + d - 1) := hp
    obtain ⟨A, hA⟩ : ∃ A, A = (y + 3) / 4 := ⟨_, rfl⟩
    obtain ⟨B, hB⟩ : ∃ B, B = (y + 99) / 100 := ⟨_, rfl⟩
    obtain ⟨C, hC⟩ : ∃ C, C = (y + 399) / 400 := ⟨_, rfl⟩
    have e1 : (y + 399) / 4 = A + 99 := by omega
    have e2 : (y + 399) / 100 = B + 3 := by omega
    rw [e1, e2, ← hC] at hD
    rw [← hA, ← hB, ← hC]
    clear e1 e2 hA hC
    have hB2 : B ≤ 365 * y + A := by omega
    clear hB
    omega
  · rw [hj, Nat.mul_zero, Nat.add_zero] at hp
    rw [g2 hm]
    generalize mStart m = s at *
    have hl : lpN y = 1 ∧ leapY y ∨ lpN y = 0 ∧ ¬ leapY y := by
      unfold lpN
      by_cases h : leapY y
      · exact .inl ⟨by rw [if_pos ((leapB_iff y).2 h)], h⟩
      · exact .inr ⟨by rw [if_neg (fun e => h ((leapB_iff y).1 e))], h⟩
    have hD : D + (y + 400) / 100 = 365 * (y + 400) + (y + 400) / 4 + (y + 400) / 400 + (s + d - 1) := hp
    have key : (y + 400) / 4 + (y + 400) / 400 + (y + 99) / 100 = lpN y + (y + 3) / 4 + (y + 399) / 400 + (y + 400) / 100 + 96 := by
      unfold leapY at hl; omega
    clear g1 g2 a1 a2 hp
    generalize lpN y = L at *
    have hL : L ≤ 1 := by omega
    clear hl
    generalize (y + 400) / 4 = A at *
    generalize (y + 400) / 400 = B at *
    generalize (y + 400) / 100 = C at *
    obtain ⟨A', hA⟩ : ∃ A, A = (y + 3) / 4 := ⟨_, rfl⟩
    obtain ⟨B', hB⟩ : ∃ B, B = (y + 99) / 100 := ⟨_, rfl⟩
    obtain ⟨C', hC⟩ : ∃ C, C = (y + 399) / 400 := ⟨_, rfl⟩
    have hB2 : B' ≤ 365 * y + A' := by omega
    rw [← hA, ← hB, ← hC] at key ⊢
    clear hA hB hC
    omega
theorem ydN_le {y m d : Nat} (h : DayOk y m d) : 1 ≤ ydN y m d ∧ ydN y m d ≤ 366 := by
  obtain ⟨_, h1, h2, h3, h4, h6⟩ := h
  obtain ⟨c1, c2, c3, c4, c5, c6, c7, c8, c9, c10, c11, c12⟩ := cum_all y
  have hl : lpN y ≤ 1 := by unfold lpN; split <;> omega
  unfold ydN
  have hd : d ≤ 31 := by unfold mLen at h4; repeat' split at h4
                         all_goals omega
  refine ⟨by omega, ?_⟩
  have : m = 1 ∨ m = 2 ∨ m = 3 ∨ m = 4 ∨ m = 5 ∨ m = 6 ∨ m = 7 ∨ m = 8 ∨ m = 9 ∨ m = 10 ∨ m = 11 ∨ m = 12 := by omega
  rcases this with rfl | rfl | rfl | rfl | rfl | rfl | rfl | rfl | rfl | rfl | rfl | rfl <;> omega
end Go.Proofs.YtigabjibdepoiaaDoor.Tm
