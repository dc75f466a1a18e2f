/- CalP: what is needed here. -/
import Derived.Test.YtdgckbjfnbljkaaDoorProg
import Derived.Test.YtdgckbjfnbljkaaDoorBase
namespace Go.Proofs.YtdgckbjfnbljkaaDoor.Tm
set_option linter.unusedSimpArgs false
set_option linter.unusedVariables false
open Go.RowKit Go
/-- A year's days may end here: no day 366 but in a leap year (years begin in March). -/
def AyOk (ce cy ay : Nat) : Prop := cy < 100 ∧ (ay ≤ 364 ∨ (ay = 365 ∧ cy % 4 = 3 ∧ (cy ≠ 99 ∨ ce % 4 = 3)))
def dayNo (ce cy ay : Nat) : Nat := 146097 * ce / 4 + (1461 * cy / 4 + ay)
theorem cday_lt {ce cy ay : Nat} (h : AyOk ce cy ay) : 4 * (1461 * cy / 4 + ay) + 3 - ce % 4 < 146097 := by
  obtain ⟨h1, h2⟩ := h; omega
theorem day_ce {ce cy ay : Nat} (h : AyOk ce cy ay) : (4 * dayNo ce cy ay + 3) / 146097 = ce ∧ (4 * dayNo ce cy ay + 3) % 146097 = 4 * (1461 * cy / 4 + ay) + (3 - ce % 4) := by
  have h1 := cday_lt h
  rw [dayNo]
  generalize 1461 * cy / 4 + ay = c at *
  clear h
  obtain ⟨q, r, rfl, hr⟩ : ∃ q r, ce = 4 * q + r ∧ r < 4 := ⟨ce / 4, ce % 4, by omega, by omega⟩
  have e1 : 146097 * (4 * q + r) / 4 = 146097 * q + 36524 * r := by omega
  have e2 : (4 * q + r) % 4 = r := by omega
  rw [e1]
  rw [e2] at h1 ⊢
  have e3 : 4 * (146097 * q + 36524 * r + c) + 3 = 146097 * (4 * q + r) + (4 * c + 3 - r) := by omega
  rw [e3]
  constructor <;> omega
theorem or3 (c r : Nat) (h : r ≤ 3) : (4 * c + r) ||| 3 = 4 * c + 3 := by
  have : r = 0 ∨ r = 1 ∨ r = 2 ∨ r = 3 := by omega
  have e0 : 4 * c + r = 2 ^ 2 * c ||| r := by rw [← Nat.two_pow_add_eq_or_of_lt (i := 2) (by omega)]
  have e1 : 4 * c + 3 = 2 ^ 2 * c ||| 3 := by rw [← Nat.two_pow_add_eq_or_of_lt (i := 2) (by omega)]
  rw [e0, e1, Nat.or_assoc]
  rcases this with rfl | rfl | rfl | rfl <;> rfl
theorem day_cy {ce cy ay : Nat} (h : AyOk ce cy ay) : (4 * (1461 * cy / 4 + ay) + 3) / 1461 = cy ∧ (4 * (1461 * cy / 4 + ay) + 3) % 1461 / 4 = ay := by
  obtain ⟨h1, h2⟩ := h
  obtain ⟨q, r, rfl, hr⟩ : ∃ q r, cy = 4 * q + r ∧ r < 4 := ⟨cy / 4, cy % 4, by omega, by omega⟩
  have e1 : 1461 * (4 * q + r) / 4 = 1461 * q + 365 * r := by omega
  have e2 : (4 * q + r) % 4 = r := by omega
  rw [e2] at h2
  rw [e1]
  have e3 : 4 * (1461 * q + 365 * r + ay) + 3 = 1461 * (4 * q + r) + (4 * ay + 3 - r) := by omega
  have e4 : 4 * ay + 3 - r < 1461 := by omega
  rw [e3, Nat.mul_add_mod, Nat.mod_eq_of_lt e4, Nat.mul_add_div (by decide), Nat.div_eq_of_lt e4]
  constructor <;> omega
theorem mul_q (cd q r : Nat) (hq : q = cd / 1461) (hr : r = cd % 1461) (hb : q ≤ 100) : 2939745 * cd / 4294967296 = q ∧ 2939745 * cd % 4294967296 / 2939745 = r := by
  have e : cd = 1461 * q + r := by omega
  have hr2 : r < 1461 := by omega
  subst e
  clear hq hr
  have e2 : 2939745 * (1461 * q + r) = 4294967296 * q + (149 * q + 2939745 * r) := by omega
  have e3 : 149 * q + 2939745 * r < 4294967296 := by omega
  rw [e2, Nat.mul_add_mod, Nat.mod_eq_of_lt e3, Nat.mul_add_div (by decide), Nat.div_eq_of_lt e3]
  constructor <;> omega
/-- Months by the year that begins in March: 3 to 14, and the day of that year at which each begins. -/
def mStart (am : Nat) : Nat := (979 * am - 2919) / 32
def mLen (am : Nat) : Nat := if am = 14 then 29 else if am = 4 ∨ am = 6 ∨ am = 9 ∨ am = 11 then 30 else 31
theorem month_all : ∀ am : Fin 15, 3 ≤ am.1 → ∀ d : Fin 32, 1 ≤ d.1 → d.1 ≤ mLen am.1 → (2141 * (mStart am.1 + d.1 - 1) + 197913) / 65536 = am.1 ∧ (2141 * (mStart am.1 + d.1 - 1) + 197913) % 65536 / 2141 + 1 = d.1 := by decide +kernel
theorem month_back {am d : Nat} (h1 : 3 ≤ am) (h2 : am ≤ 14) (h3 : 1 ≤ d) (h4 : d ≤ mLen am) : (2141 * (mStart am + d - 1) + 197913) / 65536 = am ∧ (2141 * (mStart am + d - 1) + 197913) % 65536 / 2141 + 1 = d := by
  have hd : d < 32 := by unfold mLen at h4; repeat' split at h4
                         all_goals omega
  exact month_all ⟨am, by omega⟩ h1 ⟨d, hd⟩ h3 h4
/-- A day of the Gregorian calendar. -/
def leapY (y : Nat) : Prop := (y % 4 = 0 ∧ y % 100 ≠ 0) ∨ y % 400 = 0
def jfOf (m : Nat) : Nat := if m < 3 then 1 else 0
def DayOk (y m d : Nat) : Prop := y ≤ 9999 ∧ 1 ≤ m ∧ m ≤ 12 ∧ 1 ≤ d ∧ d ≤ mLen (m + 12 * jfOf m) ∧ (m = 2 → d = 29 → leapY y)
def yAbs (y m : Nat) : Nat := y + 292277022400 - jfOf m
def ayOf (m d : Nat) : Nat := mStart (m + 12 * jfOf m) + d - 1
theorem mStart_all : ∀ am : Fin 15, 3 ≤ am.1 → ∀ d : Fin 32, 1 ≤ d.1 → d.1 ≤ mLen am.1 → mStart am.1 + d.1 - 1 ≤ 365 ∧ (mStart am.1 + d.1 - 1 = 365 → am.1 = 14 ∧ d.1 = 29) ∧ (306 ≤ mStart am.1 + d.1 - 1 ↔ 13 ≤ am.1) := by decide +kernel
theorem mStart_le {am d : Nat} (h1 : 3 ≤ am) (h2 : am ≤ 14) (h3 : 1 ≤ d) (h4 : d ≤ mLen am) : mStart am + d - 1 ≤ 365 ∧ (mStart am + d - 1 = 365 → am = 14 ∧ d = 29) ∧ (306 ≤ mStart am + d - 1 ↔ 13 ≤ am) := by
  have hd : d < 32 := by unfold mLen at h4; repeat' split at h4
                         all_goals omega
  exact mStart_all ⟨am, by omega⟩ h1 ⟨d, hd⟩ h3 h4
theorem jf_cases (m : Nat) : (m < 3 ∧ jfOf m = 1) ∨ (3 ≤ m ∧ jfOf m = 0) := by unfold jfOf; split <;> omega
theorem day_ay {y m d : Nat} (h : DayOk y m d) : AyOk (yAbs y m / 100) (yAbs y m % 100) (ayOf m d) ∧ (306 ≤ ayOf m d ↔ m < 3) := by
  obtain ⟨h1, h2, h3, h4, h5, h6⟩ := h
  unfold ayOf yAbs
  rcases jf_cases m with ⟨hm, hj⟩ | ⟨hm, hj⟩
  · rw [hj] at h5 ⊢
    obtain ⟨g1, g2, g3⟩ := mStart_le (am := m + 12 * 1) (by omega) (by omega) h4 h5
    generalize mStart (m + 12 * 1) + d - 1 = a at *
    refine ⟨⟨Nat.mod_lt _ (by decide), ?_⟩, by omega⟩
    by_cases g : a = 365
    · right
      obtain ⟨e1, e2⟩ := g2 g
      have := h6 (by omega) e2
      unfold leapY at this
      refine ⟨g, ?_, ?_⟩ <;> omega
    · left; omega
  · rw [hj] at h5 ⊢
    obtain ⟨g1, g2, g3⟩ := mStart_le (am := m + 12 * 0) (by omega) (by omega) h4 h5
    generalize mStart (m + 12 * 0) + d - 1 = a at *
    refine ⟨⟨Nat.mod_lt _ (by decide), .inl ?_⟩, by omega⟩
    rcases Nat.lt_or_ge a 365 with g | g
    · omega
    · have := g2 (by omega); omega
end Go.Proofs.YtdgckbjfnbljkaaDoor.Tm
