/- ChunkB: what is needed here. -/
import Derived.Test.YtdgckbjfnbljkaaDoorProg
import Derived.Test.YtdgckbjfnbljkaaDoorBase
namespace Go.Proofs.YtdgckbjfnbljkaaDoor.Tm
set_option linter.unusedSimpArgs false
set_option linter.unusedVariables false
open Go.RowKit Go
set_option maxHeartbeats 400000 in
theorem isdig_any (s : ByteArray) (i : Nat) (b : Bool) (w : World) (hs : s.size ≤ 140737488351232) (hi : i ≤ 140737488351232) (hb : ((bl s)[i]?.any isDig) = b) :
    Calls Tryd.prog 15 #[.string s, .int .i64 i] w fun e w' => e = .returned (.bool b) ∧ w = w' := by
  by_cases h : i < s.size
  · rw [List.getElem?_eq_getElem (by rw [bl_length]; exact h), Option.any_some] at hb
    have hb2 : isDig s[i] = b := hb
    rw [isDig] at hb2
    clear hb
    have h2 : ¬ (s.size : Int) ≤ i := by omega
    by_cases h3 : (48 : Int) ≤ ↑s[i].toNat
    · by_cases h4 : (↑s[i].toNat : Int) ≤ 57
      · rw [decide_eq_true (by omega), decide_eq_true (by omega)] at hb2
        subst hb2
        go_enter Tryd.func15, Tryd.ntmps15
        go_wp2
        go_ret
        exact ⟨by simp [h3, h4], rfl⟩
      · rw [decide_eq_true (by omega), decide_eq_false (by omega)] at hb2
        subst hb2
        go_enter Tryd.func15, Tryd.ntmps15
        go_wp2
        go_ret
        exact ⟨by simp [h3, h4], rfl⟩
    · rw [decide_eq_false (by omega)] at hb2
      subst hb2
      go_enter Tryd.func15, Tryd.ntmps15
      go_wp2
      go_ret
      exact ⟨by simp [h3], rfl⟩
  · rw [List.getElem?_eq_none (by rw [bl_length]; omega)] at hb
    subst hb
    have h2 : (s.size : Int) ≤ i := by omega
    go_enter Tryd.func15, Tryd.ntmps15
    go_wp2
    go_ret
    exact ⟨rfl, rfl⟩
theorem wraps_i64 (n : Int) (h₀ : 0 ≤ n) (h₁ : n < 2 ^ 63) : IntKind.i64.wrap n = n := by rw [IntKind.wrap_i64]; omega
theorem i64_nat (a b : Nat) (ha : a < 2 ^ 63) (hb : b < 2 ^ 63) : bits .and .i64 (a : Int) b = ((a &&& b : Nat) : Int) ∧ bits .or .i64 (a : Int) b = ((a ||| b : Nat) : Int) := bits_nat .i64 63 (by decide) wraps_i64 a b ha hb
end Go.Proofs.YtdgckbjfnbljkaaDoor.Tm
