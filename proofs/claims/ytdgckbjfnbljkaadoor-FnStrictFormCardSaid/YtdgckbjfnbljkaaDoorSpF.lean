/- SpF: what is needed here. -/
import Derived.Test.YtdgckbjfnbljkaaDoorProg
import Derived.Test.YtdgckbjfnbljkaaDoorBase
import Derived.Test.YtdgckbjfnbljkaaDoorChunkB
import Derived.Test.YtdgckbjfnbljkaaDoorFmtP
import Derived.Test.YtdgckbjfnbljkaaDoorTime3
import Derived.Test.YtdgckbjfnbljkaaDoorBuf
namespace Go.Proofs.YtdgckbjfnbljkaaDoor.Tm
set_option linter.unusedSimpArgs false
set_option linter.unusedVariables false
open Go.RowKit Go
theorem daysIn_le (y m : Nat) : 28 ≤ daysIn y m ∧ daysIn y m ≤ 31 := by unfold daysIn; repeat' split
                                                                        all_goals omega
theorem mLen_days (y m d : Nat) (h1 : 1 ≤ m) (h2 : m ≤ 12) (h : d ≤ daysIn y m) : d ≤ mLen (m + 12 * jfOf m) ∧ (m = 2 → d = 29 → leapY y) := by
  have : m = 1 ∨ m = 2 ∨ m = 3 ∨ m = 4 ∨ m = 5 ∨ m = 6 ∨ m = 7 ∨ m = 8 ∨ m = 9 ∨ m = 10 ∨ m = 11 ∨ m = 12 := by omega
  refine ⟨?_, ?_⟩
  · have hm : daysIn y m ≤ mLen (m + 12 * jfOf m) := by
      rcases this with rfl | rfl | rfl | rfl | rfl | rfl | rfl | rfl | rfl | rfl | rfl | rfl
      all_goals first | (show daysIn y _ ≤ 31; exact (daysIn_le _ _).2) | (show (30 : Nat) ≤ 30; decide) | (show (if leapB y = true then 29 else 28) ≤ 29; split <;> decide)
    omega
  · rintro rfl rfl
    have h' : 29 ≤ if leapB y = true then 29 else 28 := h
    split at h'
    · exact (leapB_iff y).1 (by assumption)
    · omega
end Go.Proofs.YtdgckbjfnbljkaaDoor.Tm
