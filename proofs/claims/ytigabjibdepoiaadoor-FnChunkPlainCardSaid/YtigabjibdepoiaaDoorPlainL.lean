/- A plain text has no element. -/
import Derived.Test.YtigabjibdepoiaaDoorChunkA
import Derived.Test.YtigabjibdepoiaaDoorPlain
namespace Go.Proofs.YtigabjibdepoiaaDoor.Tm
set_option linter.unusedSimpArgs false
set_option linter.unusedVariables false
open Go.RowKit Go
def No07 (R : List UInt8) : Prop := ¬ (R[0]? = some 48 ∧ R[1]? = some 55)
theorem take_beq_get {l t : List UInt8} {n j : Nat} {c : UInt8} (h : (l.take n == t) = true) (hc : t[j]? = some c) : l[j]? = some c := by
  have e := eq_of_beq h
  rw [← e, List.getElem?_take] at hc
  split at hc
  · exact hc
  · cases hc
theorem ne_take {l t : List UInt8} {n j : Nat} {d : UInt8} (h : l[j]? ≠ some d) (ht : t[j]? = some d) : ¬ (l.take n == t) = true := fun e => h (take_beq_get e ht)
theorem zone_none (c : UInt8) (l : List UInt8) (a b d e f : Nat) (h : ¬ (l[1]? = some 48 ∧ l[2]? = some 55)) : stdZone c l a b d e f = none := by
  have k : ∀ (n : Nat) (t : List UInt8), t[1]? = some 48 → t[2]? = some 55 → ¬ (l.take n == t) = true := by
    intro n t h1 h2 hb
    exact h ⟨take_beq_get hb h1, take_beq_get hb h2⟩
  unfold stdZone
  rw [if_neg (k 7 _ rfl rfl), if_neg (k 9 _ rfl rfl), if_neg (k 5 _ rfl rfl), if_neg (k 6 _ rfl rfl), if_neg (k 3 _ rfl rfl)]
theorem plain_none (c : UInt8) (r : List UInt8) (h : okB c.toNat) (h7 : No07 r) : stdL (c :: r) = none := by
  show stdN c.toNat (c :: r) = none
  unfold okB at h
  unfold stdN
  by_cases h45 : c.toNat = 45
  · rw [if_neg (by omega), if_neg (by omega), if_neg (by omega), if_neg (by omega), if_neg (by omega), if_neg (by omega), if_neg (by omega), if_neg (by omega), if_neg (by omega), if_neg (by omega), if_neg (by omega), if_pos h45]
    exact zone_none 45 _ _ _ _ _ _ h7
  · rw [if_neg (by omega), if_neg (by omega), if_neg (by omega), if_neg (by omega), if_neg (by omega), if_neg (by omega), if_neg (by omega), if_neg (by omega), if_neg (by omega), if_neg (by omega), if_neg (by omega), if_neg h45, if_neg (by omega), if_neg (by omega), if_neg (by omega)]
theorem okB_48 {c : UInt8} (h : okB c.toNat) : c ≠ 48 := by
  rintro rfl
  revert h
  unfold okB
  decide
theorem no07_ok {c : UInt8} {r : List UInt8} (h : okB c.toNat) : No07 (c :: r) := by
  rintro ⟨e, _⟩
  exact okB_48 h (Option.some.inj e)
end Go.Proofs.YtigabjibdepoiaaDoor.Tm
