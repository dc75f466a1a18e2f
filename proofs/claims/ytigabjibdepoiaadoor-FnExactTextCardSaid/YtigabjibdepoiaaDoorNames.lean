/- The walks of the names of months and days. -/
import Derived.Test.YtigabjibdepoiaaDoorTime3
namespace Go.Proofs.YtigabjibdepoiaaDoor.Tm
set_option linter.unusedSimpArgs false
set_option linter.unusedVariables false
open Go.RowKit Go
set_option maxRecDepth 100000 in
set_option maxHeartbeats 1600000 in
theorem month_name (m : Nat) (w : World) (h1 : 1 ≤ m) (h2 : m ≤ 12) : Calls Tryd.prog 109 #[.int .i64 m] w (fun e w' => e = .returned (.string ⟨(monN m).toArray⟩) ∧ Below w.heap.size w w') := by
  have : m = 1 ∨ m = 2 ∨ m = 3 ∨ m = 4 ∨ m = 5 ∨ m = 6 ∨ m = 7 ∨ m = 8 ∨ m = 9 ∨ m = 10 ∨ m = 11 ∨ m = 12 := by omega
  clear h1 h2
  rcases this with rfl | rfl | rfl | rfl | rfl | rfl | rfl | rfl | rfl | rfl | rfl | rfl
  all_goals
    go_enter Tryd.func109, Tryd.ntmps109
    go_wp2
    go_ret
    exact ⟨rfl, (Below.refl _ _).alloc (Nat.le_refl _) _⟩
set_option maxRecDepth 100000 in
set_option maxHeartbeats 1600000 in
theorem day_name (m : Nat) (w : World) (h2 : m ≤ 6) : Calls Tryd.prog 111 #[.int .i64 m] w (fun e w' => e = .returned (.string ⟨(dayN m).toArray⟩) ∧ Below w.heap.size w w') := by
  have : m = 0 ∨ m = 1 ∨ m = 2 ∨ m = 3 ∨ m = 4 ∨ m = 5 ∨ m = 6 := by omega
  clear h2
  rcases this with rfl | rfl | rfl | rfl | rfl | rfl | rfl
  all_goals
    go_enter Tryd.func111, Tryd.ntmps111
    go_wp2
    go_ret
    exact ⟨rfl, (Below.refl _ _).alloc (Nat.le_refl _) _⟩
end Go.Proofs.YtigabjibdepoiaaDoor.Tm
