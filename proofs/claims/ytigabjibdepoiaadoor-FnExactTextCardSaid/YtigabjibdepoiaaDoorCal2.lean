/- The walks of the clock, the day of the week and the day of the year. -/
import Derived.Test.YtigabjibdepoiaaDoorCal
namespace Go.Proofs.YtigabjibdepoiaaDoor.Tm
set_option linter.unusedSimpArgs false
set_option linter.unusedVariables false
open Go.RowKit Go
def secOf (D h mi s : Nat) : Nat := 86400 * D + (3600 * h + 60 * mi + s)
def ClockOk (h mi s : Nat) : Prop := h ≤ 23 ∧ mi ≤ 59 ∧ s ≤ 59
set_option maxHeartbeats 400000 in
theorem days_any (D h mi s : Nat) (w : World) (hc : ClockOk h mi s) (hD : D ≤ 200000000000000) :
    Calls Tryd.prog 99 #[.int .u64 (secOf D h mi s : Nat)] w (QuietV (.int .u64 D) w) := by
  obtain ⟨h1, h2, h3⟩ := hc
  have e : secOf D h mi s / 86400 = D := by unfold secOf; omega
  have hb : secOf D h mi s ≤ 18000000000000000000 := by unfold secOf; omega
  generalize secOf D h mi s = a at *
  have e1 : (a : Int) / 86400 = D := by omega
  have e2 : (a : Int) ≤ 18000000000000000000 := by omega
  clear e hb h1 h2 h3
  go_enter Tryd.func99, Tryd.ntmps99
  go_wp2
  go_ret
  exact ⟨rfl, rfl⟩
set_option maxHeartbeats 400000 in
theorem clock_any (D h mi s : Nat) (w : World) (hc : ClockOk h mi s) (hD : D ≤ 200000000000000) :
    Calls Tryd.prog 101 #[.int .u64 (secOf D h mi s : Nat)] w (QuietV (.tuple #[.int .i64 h, .int .i64 mi, .int .i64 s]) w) := by
  obtain ⟨h1, h2, h3⟩ := hc
  have e : secOf D h mi s % 86400 = 3600 * h + 60 * mi + s := by unfold secOf; omega
  have hb : secOf D h mi s ≤ 18000000000000000000 := by unfold secOf; omega
  generalize secOf D h mi s = a at *
  obtain ⟨t, ht⟩ : ∃ t, t = 3600 * h + 60 * mi + s := ⟨_, rfl⟩
  have e1 : (a : Int) % 86400 = t := by omega
  have e2 : (t : Int) / 3600 = h := by omega
  obtain ⟨r, hr⟩ : ∃ r, r = 60 * mi + s := ⟨_, rfl⟩
  have e3 : (t : Int) - (h : Int) * 3600 = r := by omega
  have e4 : (r : Int) / 60 = mi := by omega
  have e5 : (r : Int) - (mi : Int) * 60 = s := by omega
  have b1 : (a : Int) ≤ 18000000000000000000 := by omega
  have b2 : (t : Int) ≤ 86400 := by omega
  have b3 : (h : Int) ≤ 23 := by omega
  have b4 : (r : Int) ≤ 3600 := by omega
  have b5 : (mi : Int) ≤ 59 := by omega
  have b6 : (s : Int) ≤ 59 := by omega
  clear e hb h1 h2 h3 ht hr
  go_enter Tryd.func101, Tryd.ntmps101
  go_wp2
  go_ret3
  exact ⟨rfl, rfl⟩
set_option maxHeartbeats 400000 in
theorem weekday_any (D : Nat) (w : World) (hD : D ≤ 200000000000000) :
    Calls Tryd.prog 110 #[.int .u64 D] w (QuietV (.int .i64 ((D + 3) % 7 : Nat)) w) := by
  have e : ((D + 3) % 7 : Nat) = ((D : Int) + 3) % 7 := by omega
  have b : (D : Int) ≤ 200000000000000 := by omega
  go_enter Tryd.func110, Tryd.ntmps110
  go_wp2
  go_ret
  exact ⟨ret_int (by omega), rfl⟩
/-- Whether a year that begins in March is preceded by a day 29 of February. -/
def lpOf (ce cy : Nat) : Nat := if cy % 4 = 0 ∧ (cy ≠ 0 ∨ ce % 4 = 0) then 1 else 0
set_option maxHeartbeats 800000 in
theorem leap_any (ce cy : Nat) (w : World) (hce : ce ≤ 3000000000) (hcy : cy < 100) :
    Calls Tryd.prog 131 #[.int .u64 ce, .int .i64 cy] w (QuietV (.int .i64 (lpOf ce cy)) w) := by
  have b1 : (ce : Int) ≤ 3000000000 := by omega
  have b2 : (cy : Int) < 100 := by omega
  rcases Nat.eq_zero_or_pos (cy % 4) with g1 | g1 <;> rcases Nat.eq_zero_or_pos cy with g2 | g2 <;> rcases Nat.eq_zero_or_pos (ce % 4) with g3 | g3
  all_goals first
    | (exfalso; omega)
    | skip
  all_goals
    have hL : lpOf ce cy = if cy % 4 = 0 ∧ (cy ≠ 0 ∨ ce % 4 = 0) then 1 else 0 := rfl
    first
      | rw [if_pos (by omega)] at hL
      | rw [if_neg (by omega)] at hL
    rw [hL]
    clear hL
  all_goals
    go_enter Tryd.func131, Tryd.ntmps131
    go_wp2
    go_ret
    exact ⟨ret_int (by kernel_rfl), rfl⟩
theorem an00 : bits .andNot .i64 0 0 = 0 := by kernel_rfl
theorem an10 : bits .andNot .i64 1 0 = 1 := by kernel_rfl
theorem an01 : bits .andNot .i64 0 1 = 0 := by kernel_rfl
theorem an11 : bits .andNot .i64 1 1 = 0 := by kernel_rfl
set_option maxHeartbeats 800000 in
theorem yday_any (a j L : Nat) (R : Int) (w : World) (ha : a ≤ 365) (hj : j ≤ 1) (hL : L ≤ 1) (hR : R = (a : Int) + 60 + (if j = 0 then (L : Int) else 0) - 365 * j) :
    Calls Tryd.prog 130 #[.int .i64 a, .int .i64 j, .int .i64 L] w (QuietV (.int .i64 R) w) := by
  have b1 : (a : Int) ≤ 365 := by omega
  have c1 : j = 0 ∨ j = 1 := by omega
  have c2 : L = 0 ∨ L = 1 := by omega
  have HR := hideP hR
  have n1 := an00
  have n2 := an10
  have n3 := an01
  have n4 := an11
  clear hR
  rcases c1 with rfl | rfl <;> rcases c2 with rfl | rfl
  all_goals
    go_enter Tryd.func130, Tryd.ntmps130
    go_wp2
    go_ret
    exact ⟨ret_int (by have := HR.out; simp at this; omega), rfl⟩
/-- The day of the year, from 1 on, by the year that begins in March. -/
def ydOf (y m d : Nat) : Int := (ayOf m d : Int) + 60 + (if jfOf m = 0 then (lpOf (yAbs y m / 100) (yAbs y m % 100) : Int) else 0) - 365 * (jfOf m : Nat)
set_option maxHeartbeats 800000 in
theorem yearYday_any (y m d : Nat) (w : World) (h : DayOk y m d) :
    Calls Tryd.prog 108 #[.int .u64 (dayOf y m d : Nat)] w (QuietV (.tuple #[.int .i64 y, .int .i64 (ydOf y m d)]) w) := by
  obtain ⟨hay, hjf⟩ := day_ay h
  obtain ⟨b1, b2⟩ := yAbs_b y m h.1
  have HA := hideP hay
  have HJ := hideP hjf
  have HB := hideP (And.intro b1 b2)
  have hy : (yAbs y m : Int) - 292277022400 + (jfOf m : Nat) = y := by
    unfold yAbs; rcases jf_cases m with ⟨_, hj⟩ | ⟨_, hj⟩ <;> rw [hj] <;> omega
  have HY := hideP hy
  have hj1 : jfOf m ≤ 1 := by rcases jf_cases m with ⟨_, hj⟩ | ⟨_, hj⟩ <;> omega
  have ha : ayOf m d ≤ 365 := by have := hay.2; omega
  have hl : lpOf (yAbs y m / 100) (yAbs y m % 100) ≤ 1 := by unfold lpOf; split <;> omega
  have HR := hideP (show ydOf y m d = (ayOf m d : Int) + 60 + (if jfOf m = 0 then (lpOf (yAbs y m / 100) (yAbs y m % 100) : Int) else 0) - 365 * (jfOf m : Nat) from rfl)
  generalize ydOf y m d = R at *
  clear hay hjf b1 b2 hy h
  go_enter Tryd.func108, Tryd.ntmps108
  go_wp2_with (first
    | (go_at_call 122; refine (split_any _ _ _ _ HA.out (by have := HB.out; omega)).mono ?_; rintro e w1 ⟨rfl, rfl⟩)
    | (go_at_call 124; refine (janfeb_any _ m _ HJ.out).mono ?_; rintro e w1 ⟨rfl, rfl⟩)
    | (go_at_call 125; refine (year_any _ _ _ HB.out.1 HB.out.2 hj1).mono ?_; rintro e w1 ⟨rfl, rfl⟩; rw [HY.out])
    | (go_at_call 131; refine (leap_any (yAbs y m / 100) (yAbs y m % 100) _ (by have := HB.out; omega) (Nat.mod_lt _ (by decide))).mono ?_; rintro e w1 ⟨rfl, rfl⟩)
    | (go_at_call 130; refine (yday_any (ayOf m d) (jfOf m) (lpOf (yAbs y m / 100) (yAbs y m % 100)) R _ ha hj1 hl HR.out).mono ?_; rintro e w1 ⟨rfl, rfl⟩))
  go_ret2
  exact ⟨rfl, rfl⟩
end Go.Proofs.YtigabjibdepoiaaDoor.Tm
