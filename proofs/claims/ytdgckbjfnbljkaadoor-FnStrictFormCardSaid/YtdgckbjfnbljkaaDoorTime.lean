/- Time: what is needed here. -/
import Derived.Test.YtdgckbjfnbljkaaDoorProg
import Derived.Test.YtdgckbjfnbljkaaDoorLoc
import Derived.Test.YtdgckbjfnbljkaaDoorFmtP
namespace Go.Proofs.YtdgckbjfnbljkaaDoor.Tm
set_option linter.unusedSimpArgs false
set_option linter.unusedVariables false
open Go.RowKit Go
/-- Five results. -/
theorem results_tmp5 {fn : Func} {t u v x y : Tmp} (h : fn.results = #[.tmp t, .tmp u, .tmp v, .tmp x, .tmp y]) (tmps : Array Value) (P : Program) (w : World) :
    (results fn tmps).run P w = .ok (.tuple #[tmps.getD t undef, tmps.getD u undef, tmps.getD v undef, tmps.getD x undef, tmps.getD y undef]) w := by
  simp [results, h]
theorem dayOf_b {y m d : Nat} (h : DayOk y m d) : 106751990207835 ≤ dayOf y m d ∧ dayOf y m d ≤ 106751994300000 := by
  obtain ⟨a1, a2⟩ := yAbs_split y m
  have hp := day_plain (y + 400 - jfOf m) (ayOf m d)
  have ha := (day_ay h).1.2
  unfold dayOf
  rw [a1, a2, dayNo_shift]
  have hy := h.1
  have hj : jfOf m ≤ 1 := by rcases jf_cases m with ⟨_, hj⟩ | ⟨_, hj⟩ <;> omega
  generalize dayNo ((y + 400 - jfOf m) / 100) ((y + 400 - jfOf m) % 100) (ayOf m d) = D at *
  generalize ayOf m d = a at *
  omega
/-- The second of a time as it is told, and the one of the world's time. -/
def toldOf (t : Tm) : Int := ((secOf (dayOf t.y t.mo t.d) t.h t.mi t.s : Nat) : Int)
def unixOf (t : Tm) : Int := toldOf t - 9223372028741760000 - t.off
set_option maxHeartbeats 400000 in
theorem norm_any (hi lo base : Int) (w : World) (h0 : 0 ≤ lo) (h1 : lo < base) :
    Calls Tryd.prog 31 #[.int .i64 hi, .int .i64 lo, .int .i64 base] w (QuietV (.tuple #[.int .i64 hi, .int .i64 lo]) w) := by
  have g0 : ¬ lo < 0 := by omega
  have g1 : ¬ base ≤ lo := by omega
  go_enter Tryd.func31, Tryd.ntmps31
  go_wp2
  go_ret2
  exact ⟨rfl, rfl⟩
set_option maxHeartbeats 400000 in
theorem get_some (a : Addr) (w : World) : Calls Tryd.prog 35 #[.pointer (some a)] w (QuietV (.pointer (some a)) w) := by
  go_enter Tryd.func35, Tryd.ntmps35
  go_wp2
  go_ret
  exact ⟨rfl, rfl⟩
set_option maxHeartbeats 400000 in
theorem get_none (w : World) : Calls Tryd.prog 35 #[.pointer none] w (UtcPost w) := by
  go_enter Tryd.func35, Tryd.ntmps35
  go_wp2_with (go_at_call 8; refine (utc_any _).mono ?_; rintro e w1 ⟨b, rfl, hb, hu, hbel⟩; have HU := hideP hu; have HB := hideP hb; have HBE := hideP hbel; clear hu hb hbel)
  go_ret
  exact ⟨b, rfl, HB.out, HU.out, HBE.out⟩
set_option maxRecDepth 100000 in
set_option maxHeartbeats 800000 in
theorem lookup_loc (b : Nat) (s : ByteArray) (z sec : Int) (zb tb : Nat) (w : World) (h : LocAt w b s z zb tb) (h0 : -9223372036854775808 ≤ sec) (h1 : sec < 9223372036854775807) :
    Calls Tryd.prog 19 #[.pointer (some ⟨b, 0, none⟩), .int .i64 sec] w
      (QuietV (.tuple #[.string s, .int .i64 z, .int .i64 (-9223372036854775808), .int .i64 9223372036854775807, .bool false]) w) := by
  obtain ⟨c0, c1, c2, c3, c5, c6, c7, z0, z1, z2⟩ := h
  go_enter Tryd.func19, Tryd.ntmps19
  go_wp2_with (go_at_call 35; refine (get_some _ _).mono ?_; rintro e w1 ⟨rfl, rfl⟩)
  (try simp only [Exit.inBlock, Exit.then]); refine bodyPost_ret (results_tmp5 rfl _ _ _) rfl ?_
  exact ⟨rfl, rfl⟩
set_option maxRecDepth 100000 in
set_option maxHeartbeats 800000 in
theorem lookup_utc (b : Nat) (sec : Int) (w : World) (h : UtcAt w b) :
    Calls Tryd.prog 19 #[.pointer (some ⟨b, 0, none⟩), .int .i64 sec] w
      (QuietV (.tuple #[.string ⟨#[85, 84, 67]⟩, .int .i64 0, .int .i64 (-9223372036854775808), .int .i64 9223372036854775807, .bool false]) w) := by
  obtain ⟨c0, c2⟩ := h
  go_enter Tryd.func19, Tryd.ntmps19
  go_wp2_with (go_at_call 35; refine (get_some _ _).mono ?_; rintro e w1 ⟨rfl, rfl⟩)
  (try simp only [Exit.inBlock, Exit.then]); refine bodyPost_ret (results_tmp5 rfl _ _ _) rfl ?_
  exact ⟨rfl, rfl⟩
/-! Seconds and nanoseconds. -/
theorem and_mono (n : Nat) (h : n ≤ 999999999) : bits .and .u64 (n : Int) 9223372036854775808 = 0 := by
  have := (bits_nat .u64 64 (by decide) (fun n h₀ h₁ => by rw [IntKind.wrap_u64]; omega) n 9223372036854775808 (by omega) (by decide)).1
  have e : n &&& 9223372036854775808 = 0 := by
    apply Nat.eq_of_testBit_eq
    intro i
    rw [Nat.testBit_and, Nat.zero_testBit, show (9223372036854775808 : Nat) = 2 ^ 63 from rfl]
    rcases Nat.lt_or_ge i 63 with g | g
    · rw [Nat.testBit_two_pow_of_ne (by omega), Bool.and_false]
    · rw [Nat.testBit_lt_two_pow (Nat.lt_of_lt_of_le (by omega : n < 2 ^ 63) (Nat.pow_le_pow_right (by decide) g)), Bool.false_and]
  rw [e] at this
  exact this
theorem and_nsec (n : Nat) (h : n ≤ 999999999) : bits .and .u64 (n : Int) 1073741823 = n := by
  have := (bits_nat .u64 64 (by decide) (fun n h₀ h₁ => by rw [IntKind.wrap_u64]; omega) n 1073741823 (by omega) (by decide)).1
  rw [show (1073741823 : Nat) = 2 ^ 30 - 1 from rfl, Nat.and_two_pow_sub_one_eq_mod, Nat.mod_eq_of_lt (by omega)] at this
  exact this
set_option maxHeartbeats 400000 in
theorem sec_any (p : Nat) (n : Nat) (x : Int) (w : World) (hn : n ≤ 999999999) (c0 : w.cell? ⟨p, 0, none⟩ = some (.int .u64 n)) (c1 : w.cell? ⟨p, 1, none⟩ = some (.int .i64 x)) :
    Calls Tryd.prog 37 #[.pointer (some ⟨p, 0, none⟩)] w (QuietV (.int .i64 x) w) := by
  have ha := and_mono n hn
  go_enter Tryd.func37, Tryd.ntmps37
  go_wp2
  go_ret
  exact ⟨rfl, rfl⟩
set_option maxHeartbeats 400000 in
theorem unixSec_any (p : Nat) (n : Nat) (x : Int) (w : World) (hn : n ≤ 999999999) (hx : -100000000000000 ≤ x ∧ x ≤ 100000000000000) (c0 : w.cell? ⟨p, 0, none⟩ = some (.int .u64 n)) (c1 : w.cell? ⟨p, 1, none⟩ = some (.int .i64 x)) :
    Calls Tryd.prog 20 #[.pointer (some ⟨p, 0, none⟩)] w (QuietV (.int .i64 (x - 62135596800)) w) := by
  obtain ⟨x1, x2⟩ := hx
  have C0 := hideP c0
  have C1 := hideP c1
  clear c0 c1
  go_enter Tryd.func20, Tryd.ntmps20
  go_wp2_with (go_at_call 37; refine (sec_any p n x _ hn C0.out C1.out).mono ?_; rintro e w1 ⟨rfl, rfl⟩)
  go_ret
  exact ⟨ret_int (by omega), rfl⟩
set_option maxHeartbeats 400000 in
theorem nanosecond_any (n : Nat) (x loc : Value) (w : World) (hn : n ≤ 999999999) :
    Calls Tryd.prog 9 #[.agg #[.int .u64 n, x, loc]] w (fun e w' => e = .returned (.int .i64 n) ∧ Below w.heap.size w w') := by
  have ha := and_nsec n hn
  have hnb : (n : Int) ≤ 999999999 := by omega
  go_enter Tryd.func9, Tryd.ntmps9
  go_wp2
  go_ret
  exact ⟨rfl, (Below.refl _ _).alloc (Nat.le_refl _) _⟩
end Go.Proofs.YtdgckbjfnbljkaaDoor.Tm
