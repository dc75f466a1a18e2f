/- Cal: what is needed here. -/
import Derived.WalkKit
import Derived.Test.YtdgckbjfnbljkaaDoorProg
import Derived.Test.YtdgckbjfnbljkaaDoorCalP
namespace Go.Proofs.YtdgckbjfnbljkaaDoor.Tm
set_option linter.unusedSimpArgs false
set_option linter.unusedVariables false
open Go.RowKit Go
theorem ret_int {a b : Int} (h : a = b) : Ending.returned (.int .i64 a) = .returned (.int .i64 b) := by rw [h]
def QuietV (v : Value) (w : World) (e : Ending) (w' : World) : Prop := e = .returned v ∧ w = w'
theorem wraps_u32 (n : Int) (h₀ : 0 ≤ n) (h₁ : n < 2 ^ 32) : IntKind.u32.wrap n = n := by rw [IntKind.wrap_u32]; omega
theorem u32_nat (a b : Nat) (ha : a < 2 ^ 32) (hb : b < 2 ^ 32) : bits .and .u32 (a : Int) b = ((a &&& b : Nat) : Int) ∧ bits .or .u32 (a : Int) b = ((a ||| b : Nat) : Int) := bits_nat .u32 32 (by decide) wraps_u32 a b ha hb
set_option maxHeartbeats 400000 in
theorem mul32_any (a b : Nat) (w : World) (ha : a < 4294967296) (hb : b < 4294967296) :
    Calls Tryd.prog 46 #[.int .u32 a, .int .u32 b] w (QuietV (.tuple #[.int .u32 (a * b / 4294967296 : Nat), .int .u32 (a * b % 4294967296 : Nat)]) w) := by
  have hab : a * b ≤ 18446744065119617025 := Nat.le_trans (Nat.mul_le_mul (Nat.le_sub_one_of_lt ha) (Nat.le_sub_one_of_lt hb)) (by decide)
  go_enter Tryd.func46, Tryd.ntmps46
  go_wp2
  go_ret2
  have e1 : ((a * b / 4294967296 : Nat) : Int) = (a : Int) * b / 4294967296 := by rw [Int.natCast_ediv, Int.natCast_mul]; rfl
  have e2 : ((a * b % 4294967296 : Nat) : Int) = (a : Int) * b % 4294967296 := by rw [Int.natCast_emod, Int.natCast_mul]; rfl
  exact ⟨by rw [e1, e2]; rfl, rfl⟩
theorem mul32_cal (cd q r : Nat) (w : World) (hq : cd / 1461 = q) (hr : cd % 1461 = r) (hb : q ≤ 100) :
    Calls Tryd.prog 46 #[.int .u32 2939745, .int .u32 cd] w (fun e w' => ∃ lo : Nat, e = .returned (.tuple #[.int .u32 q, .int .u32 lo]) ∧ lo / 2939745 = r ∧ lo < 4294967296 ∧ w = w') := by
  obtain ⟨h1, h2⟩ := mul_q cd q r hq.symm hr.symm hb
  refine (mul32_any 2939745 cd w (by decide) (by omega)).mono ?_
  rintro e w' ⟨rfl, rfl⟩
  exact ⟨2939745 * cd % 4294967296, by rw [h1], h2, Nat.mod_lt _ (by decide), rfl⟩
set_option maxHeartbeats 800000 in
theorem split_any (ce cy ay : Nat) (w : World) (h : AyOk ce cy ay) (hce : ce ≤ 3000000000) :
    Calls Tryd.prog 39 #[.int .u64 (dayNo ce cy ay : Nat)] w (QuietV (.tuple #[.int .u64 ce, .int .i64 cy, .int .i64 ay]) w) := by
  obtain ⟨h1, h2⟩ := day_ce h
  obtain ⟨h3, h4⟩ := day_cy h
  obtain ⟨c, hc⟩ : ∃ c, c = 1461 * cy / 4 + ay := ⟨_, rfl⟩
  rw [← hc] at h2 h3 h4
  have hcb : c ≤ 40000 := by have := h.1; have := h.2; omega
  have hD : dayNo ce cy ay ≤ 120000000000000 := by rw [dayNo, ← hc]; omega
  have hcy := h.1
  have hay : ay ≤ 365 := by have := h.2; omega
  generalize dayNo ce cy ay = D at *
  obtain ⟨x, hx⟩ : ∃ x, x = 3 - ce % 4 := ⟨_, rfl⟩
  rw [← hx] at h2
  have hor := (u32_nat (4 * c + x) 3 (by omega) (by decide)).2
  rw [or3 c x (by omega)] at hor
  obtain ⟨r0, hr0⟩ : ∃ r0, r0 = 4 * c + x := ⟨_, rfl⟩
  obtain ⟨cd, hcd⟩ : ∃ cd, cd = 4 * c + 3 := ⟨_, rfl⟩
  rw [← hr0, ← hcd] at hor
  rw [← hr0] at h2
  rw [← hcd] at h3 h4
  have e1 : (4 * (D : Int) + 3) / 146097 = ce := by omega
  have e2 : (4 * (D : Int) + 3) % 146097 = r0 := by omega
  have hor2 : bits .or .u32 (r0 : Int) 3 = (cd : Int) := hor
  have HC := hideP (show cd / 1461 = cy ∧ cd % 1461 / 4 = ay from ⟨h3, h4⟩)
  have hr0b : (r0 : Int) ≤ 200000 := by omega
  have hDb : (D : Int) ≤ 120000000000000 := by omega
  have hceb : (ce : Int) ≤ 3000000000 := by omega
  have hcyb : (cy : Int) < 100 := by omega
  have hayb : (ay : Int) ≤ 365 := by omega
  clear h h1 h2 h3 h4 hc hcb hD hcy hay hx hor hr0 hcd hce
  go_enter Tryd.func39, Tryd.ntmps39
  go_wp2_with (go_at_call 46; refine (mul32_cal cd cy (cd % 1461) _ HC.out.1 rfl (by omega)).mono ?_; rintro e w1 ⟨lo, rfl, hlo, hlob, rfl⟩; have e3 : (lo : Int) / 2939745 / 4 = ay := by have := HC.out.2; omega)
  go_ret3
  exact ⟨rfl, rfl⟩
set_option maxHeartbeats 400000 in
theorem aysplit_any (am d : Nat) (w : World) (h1 : 3 ≤ am) (h2 : am ≤ 14) (h3 : 1 ≤ d) (h4 : d ≤ mLen am) :
    Calls Tryd.prog 40 #[.int .i64 (mStart am + d - 1 : Nat)] w (QuietV (.tuple #[.int .i64 am, .int .i64 d]) w) := by
  obtain ⟨g1, g2⟩ := month_back h1 h2 h3 h4
  obtain ⟨g3, _, _⟩ := mStart_le h1 h2 h3 h4
  generalize mStart am + d - 1 = a at *
  obtain ⟨x, hx⟩ : ∃ x, x = 2141 * a + 197913 := ⟨_, rfl⟩
  rw [← hx] at g1 g2
  have hand := (u32_nat x 65535 (by omega) (by decide)).1
  have hm : x &&& 65535 = x % 65536 := Nat.and_two_pow_sub_one_eq_mod x 16
  rw [hm] at hand
  have e0 : 2141 * (a : Int) + 197913 = x := by omega
  have hand2 : bits .and .u32 (x : Int) 65535 = (x : Int) % 65536 := hand
  have e1 : (x : Int) / 65536 = am := by omega
  have e2 : 1 + (x : Int) % 65536 / 2141 = d := by omega
  have hab : (a : Int) ≤ 365 := by omega
  have hxb : (x : Int) ≤ 1000000 := by omega
  have hmb : (am : Int) ≤ 14 := by omega
  clear g1 g2 g3 hx hand hm h1 h2 h3 h4
  go_enter Tryd.func40, Tryd.ntmps40
  go_wp2
  go_ret2
  exact ⟨rfl, rfl⟩
set_option maxHeartbeats 400000 in
theorem janfeb_any (ay m : Nat) (w : World) (h : 306 ≤ ay ↔ m < 3) :
    Calls Tryd.prog 41 #[.int .i64 ay] w (QuietV (.int .i64 (jfOf m)) w) := by
  rcases jf_cases m with ⟨hm, hj⟩ | ⟨hm, hj⟩
  all_goals
    rw [hj]
  · have g : (306 : Int) ≤ ay := by omega
    clear h
    go_enter Tryd.func41, Tryd.ntmps41
    go_wp2
    go_ret
    exact ⟨rfl, rfl⟩
  · have g : ¬ (306 : Int) ≤ ay := by omega
    clear h
    go_enter Tryd.func41, Tryd.ntmps41
    go_wp2
    go_ret
    exact ⟨rfl, rfl⟩
set_option maxHeartbeats 400000 in
theorem year_any (Y j : Nat) (w : World) (hY : 292277022399 ≤ Y) (hY2 : Y ≤ 292277032399) (hj : j ≤ 1) :
    Calls Tryd.prog 42 #[.int .u64 (Y / 100 : Nat), .int .i64 (Y % 100 : Nat), .int .i64 j] w (QuietV (.int .i64 ((Y : Int) - 292277022400 + j)) w) := by
  obtain ⟨c, r, e, hr⟩ : ∃ c r, Y = 100 * c + r ∧ r < 100 := ⟨Y / 100, Y % 100, by omega, by omega⟩
  have e1 : Y / 100 = c := by omega
  have e2 : Y % 100 = r := by omega
  rw [e1, e2]
  subst e
  rcases Nat.lt_or_ge (100 * c) 292277022400 with g | g
  · obtain rfl : c = 2922770223 := by omega
    have hrb : (r : Int) < 100 := by omega
    have hjb : (j : Int) ≤ 1 := by omega
    have hw1 : IntKind.u64.wrap (-100) = 18446744073709551516 := by decide
    have hw2 : wrap64 18446744073709551516 = -100 := by kernel_rfl
    clear e1 e2 hY hY2 g
    go_enter Tryd.func42, Tryd.ntmps42
    go_wp2
    go_ret
    exact ⟨ret_int (by omega), rfl⟩
  · have hcb : (292277022400 : Int) ≤ (c : Int) * 100 := by omega
    have hcb2 : (c : Int) ≤ 2922770323 := by omega
    have hrb : (r : Int) < 100 := by omega
    have hjb : (j : Int) ≤ 1 := by omega
    clear e1 e2 hY hY2 g
    go_enter Tryd.func42, Tryd.ntmps42
    go_wp2
    go_ret
    exact ⟨ret_int (by omega), rfl⟩
set_option maxHeartbeats 400000 in
theorem month_any (m : Nat) (w : World) (h : m ≤ 12) :
    Calls Tryd.prog 43 #[.int .i64 (m + 12 * jfOf m : Nat), .int .i64 (jfOf m)] w (QuietV (.int .i64 m) w) := by
  rcases jf_cases m with ⟨hm, hj⟩ | ⟨hm, hj⟩
  all_goals
    rw [hj]
    have hb : (m : Int) ≤ 12 := by omega
    have e : ((m + 12 * 1 : Nat) : Int) = m + 12 := by omega
    have e' : ((m + 12 * 0 : Nat) : Int) = m := by omega
    try rw [e]
    try rw [e']
    clear e e'
    go_enter Tryd.func43, Tryd.ntmps43
    go_wp2
    go_ret
    exact ⟨ret_int (by omega), rfl⟩
def dayOf (y m d : Nat) : Nat := dayNo (yAbs y m / 100) (yAbs y m % 100) (ayOf m d)
theorem yAbs_b (y m : Nat) (h : y ≤ 9999) : 292277022399 ≤ yAbs y m ∧ yAbs y m ≤ 292277032399 := by
  unfold yAbs; rcases jf_cases m with ⟨_, hj⟩ | ⟨_, hj⟩ <;> rw [hj] <;> omega
set_option maxHeartbeats 800000 in
theorem date_any (y m d : Nat) (w : World) (h : DayOk y m d) :
    Calls Tryd.prog 26 #[.int .u64 (dayOf y m d : Nat)] w (QuietV (.tuple #[.int .i64 y, .int .i64 m, .int .i64 d]) w) := by
  obtain ⟨hay, hjf⟩ := day_ay h
  obtain ⟨b1, b2⟩ := yAbs_b y m h.1
  have HA := hideP hay
  have HJ := hideP hjf
  have HB := hideP (And.intro b1 b2)
  have HH := hideP h
  have hy : (yAbs y m : Int) - 292277022400 + (jfOf m : Nat) = y := by
    unfold yAbs; rcases jf_cases m with ⟨_, hj⟩ | ⟨_, hj⟩ <;> rw [hj] <;> omega
  have hm3 : 3 ≤ m + 12 * jfOf m ∧ m + 12 * jfOf m ≤ 14 := by
    have := h.2.1; have := h.2.2.1
    rcases jf_cases m with ⟨_, hj⟩ | ⟨_, hj⟩ <;> rw [hj] <;> omega
  have HM := hideP hm3
  have HY := hideP hy
  have hj1 : jfOf m ≤ 1 := by rcases jf_cases m with ⟨_, hj⟩ | ⟨_, hj⟩ <;> omega
  clear hay hjf b1 b2 hy h hm3
  go_enter Tryd.func26, Tryd.ntmps26
  go_wp2_with (first
    | (go_at_call 39; refine (split_any _ _ _ _ HA.out (by have := HB.out; omega)).mono ?_; rintro e w1 ⟨rfl, rfl⟩)
    | (go_at_call 40; refine (aysplit_any (m + 12 * jfOf m) d _ HM.out.1 HM.out.2 HH.out.2.2.2.1 HH.out.2.2.2.2.1).mono ?_; rintro e w1 ⟨rfl, rfl⟩)
    | (go_at_call 41; refine (janfeb_any _ m _ HJ.out).mono ?_; rintro e w1 ⟨rfl, rfl⟩)
    | (go_at_call 42; refine (year_any _ _ _ HB.out.1 HB.out.2 hj1).mono ?_; rintro e w1 ⟨rfl, rfl⟩; rw [HY.out])
    | (go_at_call 43; refine (month_any m _ HH.out.2.2.1).mono ?_; rintro e w1 ⟨rfl, rfl⟩))
  go_ret3
  exact ⟨rfl, rfl⟩
end Go.Proofs.YtdgckbjfnbljkaaDoor.Tm
