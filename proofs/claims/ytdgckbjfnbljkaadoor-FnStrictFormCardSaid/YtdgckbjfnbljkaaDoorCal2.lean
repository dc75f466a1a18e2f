/- Cal2: what is needed here. -/
import Derived.Test.YtdgckbjfnbljkaaDoorProg
import Derived.Test.YtdgckbjfnbljkaaDoorCal
namespace Go.Proofs.YtdgckbjfnbljkaaDoor.Tm
set_option linter.unusedSimpArgs false
set_option linter.unusedVariables false
open Go.RowKit Go
def secOf (D h mi s : Nat) : Nat := 86400 * D + (3600 * h + 60 * mi + s)
def ClockOk (h mi s : Nat) : Prop := h ≤ 23 ∧ mi ≤ 59 ∧ s ≤ 59
set_option maxHeartbeats 400000 in
theorem days_any (D h mi s : Nat) (w : World) (hc : ClockOk h mi s) (hD : D ≤ 200000000000000) :
    Calls Tryd.prog 25 #[.int .u64 (secOf D h mi s : Nat)] w (QuietV (.int .u64 D) w) := by
  obtain ⟨h1, h2, h3⟩ := hc
  have e : secOf D h mi s / 86400 = D := by unfold secOf; omega
  have hb : secOf D h mi s ≤ 18000000000000000000 := by unfold secOf; omega
  generalize secOf D h mi s = a at *
  have e1 : (a : Int) / 86400 = D := by omega
  have e2 : (a : Int) ≤ 18000000000000000000 := by omega
  clear e hb h1 h2 h3
  go_enter Tryd.func25, Tryd.ntmps25
  go_wp2
  go_ret
  exact ⟨rfl, rfl⟩
set_option maxHeartbeats 400000 in
theorem clock_any (D h mi s : Nat) (w : World) (hc : ClockOk h mi s) (hD : D ≤ 200000000000000) :
    Calls Tryd.prog 27 #[.int .u64 (secOf D h mi s : Nat)] w (QuietV (.tuple #[.int .i64 h, .int .i64 mi, .int .i64 s]) w) := by
  obtain ⟨h1, h2, h3⟩ := hc
  have e : secOf D h mi s % 86400 = 3600 * h + 60 * mi + s := by unfold secOf; omega
  have hb : secOf D h mi s ≤ 18000000000000000000 := by unfold secOf; omega
  generalize secOf D h mi s = a at *
  obtain ⟨t, ht⟩ : ∃ t, t = 3600 * h + 60 * mi + s := ⟨_, rfl⟩
  have e1 : (a : Int) % 86400 = t := by omega
  have e2 : (t : Int) / 3600 = h := by omega
  obtain ⟨r, hr⟩ : ∃ r, r = 60 * mi + s := ⟨_, rfl⟩
  have e3 : (t : Int) - (h : Int) * 3600 = r := by omega
  have e4 : (r : Int) / 60 = mi := by omega
  have e5 : (r : Int) - (mi : Int) * 60 = s := by omega
  have b1 : (a : Int) ≤ 18000000000000000000 := by omega
  have b2 : (t : Int) ≤ 86400 := by omega
  have b3 : (h : Int) ≤ 23 := by omega
  have b4 : (r : Int) ≤ 3600 := by omega
  have b5 : (mi : Int) ≤ 59 := by omega
  have b6 : (s : Int) ≤ 59 := by omega
  clear e hb h1 h2 h3 ht hr
  go_enter Tryd.func27, Tryd.ntmps27
  go_wp2
  go_ret3
  exact ⟨rfl, rfl⟩
end Go.Proofs.YtdgckbjfnbljkaaDoor.Tm
