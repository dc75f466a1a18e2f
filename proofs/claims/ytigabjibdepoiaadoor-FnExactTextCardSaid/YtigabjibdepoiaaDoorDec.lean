/- Decimal texts as plain lists of bytes. -/
import Derived.Test.YtigabjibdepoiaaDoorBase
namespace Go.Proofs.YtigabjibdepoiaaDoor.Tm
set_option linter.unusedSimpArgs false
set_option linter.unusedVariables false
open Go.RowKit Go
def digC (n : Nat) : UInt8 := UInt8.ofNat (48 + n)
/-- A number's decimal digits. -/
def decL (n : Nat) : List UInt8 := if n < 10 then [digC n] else decL (n / 10) ++ [digC (n % 10)]
termination_by n
/-- The same, with a sign ahead of them up to a width. -/
def padL (c : UInt8) (n : Nat) (w : Int) : List UInt8 := List.replicate (w - (decL n).length).toNat c ++ decL n
/-- What appendInt appends. -/
def intL (x w : Int) : List UInt8 := if x < 0 then 45 :: padL 48 (-x).toNat w else padL 48 x.toNat w
theorem decL_lt {n : Nat} (h : n < 10) : decL n = [digC n] := by rw [decL, if_pos h]
theorem decL_ge {n : Nat} (h : ¬ n < 10) : decL n = decL (n / 10) ++ [digC (n % 10)] := by rw [decL, if_neg h]
theorem digC_nat {n : Nat} (h : n < 10) : (digC n).toNat = 48 + n := by rw [digC, UInt8.toNat_ofNat']; omega
theorem decL_pos (n : Nat) : 0 < (decL n).length := by
  by_cases h : n < 10
  · rw [decL_lt h]; exact Nat.zero_lt_succ _
  · rw [decL_ge h]; simp
theorem decL_len (n : Nat) : n < 10 ^ (decL n).length ∧ (1 ≤ n → 10 ^ ((decL n).length - 1) ≤ n) := by
  induction n using Nat.strongRecOn with
  | _ n ih =>
    by_cases h : n < 10
    · rw [decL_lt h]; exact ⟨by simpa using h, fun h => by simpa using h⟩
    · have hl : (decL n).length = (decL (n / 10)).length + 1 := by rw [decL_ge h]; simp
      obtain ⟨h1, h2⟩ := ih (n / 10) (by omega)
      have hp := decL_pos (n / 10)
      rw [hl]
      refine ⟨?_, fun _ => ?_⟩
      · rw [Nat.pow_succ]; omega
      · have h3 := h2 (by omega)
        rw [Nat.add_sub_cancel, show (decL (n / 10)).length = (decL (n / 10)).length - 1 + 1 from by omega, Nat.pow_succ]; omega
theorem decL_len_le {n k : Nat} (h : n < 10 ^ k) (hk : 0 < k) : (decL n).length ≤ k := by
  rcases Nat.lt_or_ge k (decL n).length with g | g
  · exfalso
    have h1 : 1 ≤ n := by
      rcases Nat.eq_zero_or_pos n with e | e
      · subst e; rw [decL_lt (by decide)] at g; simp at g; omega
      · exact e
    have h2 := (decL_len n).2 h1
    have h3 : 10 ^ k ≤ 10 ^ ((decL n).length - 1) := Nat.pow_le_pow_right (by decide) (by omega)
    omega
  · exact g
theorem decL_20 {n : Nat} (h : n < 18446744073709551616) : (decL n).length ≤ 20 := decL_len_le (k := 20) (by omega) (by decide)
/-- Dividing by ten takes the last digit away. -/
theorem decL_div {n : Nat} (h : 10 ≤ n) : (decL (n / 10)).length + 1 = (decL n).length := by rw [decL_ge (n := n) (by omega)]; simp
theorem pad2 {m : Nat} (h : m < 100) : padL 48 m 2 = [digC (m / 10), digC (m % 10)] := by
  by_cases g : m < 10
  · rw [padL, decL_lt g]
    rw [show m / 10 = 0 from by omega, show m % 10 = m from by omega]; rfl
  · rw [padL, decL_ge g, decL_lt (by omega)]; rfl
theorem pad4 {m : Nat} (h : m < 10000) : padL 48 m 4 = [digC (m / 1000), digC (m / 100 % 10), digC (m / 10 % 10), digC (m % 10)] := by
  by_cases g : m < 10
  · rw [padL, decL_lt g]
    rw [show m / 1000 = 0 from by omega, show m / 100 % 10 = 0 from by omega, show m / 10 % 10 = 0 from by omega, show m % 10 = m from by omega]; rfl
  by_cases g2 : m < 100
  · rw [padL, decL_ge g, decL_lt (by omega)]
    rw [show m / 1000 = 0 from by omega, show m / 100 % 10 = 0 from by omega, show m / 10 % 10 = m / 10 from by omega]; rfl
  by_cases g3 : m < 1000
  · rw [padL, decL_ge g, decL_ge (n := m / 10) (by omega), decL_lt (by omega)]
    rw [show m / 1000 = 0 from by omega, show m / 10 / 10 = m / 100 from by omega, show m / 100 % 10 = m / 100 from by omega]; rfl
  · rw [padL, decL_ge g, decL_ge (n := m / 10) (by omega), decL_ge (n := m / 10 / 10) (by omega), decL_lt (by omega)]
    rw [show m / 10 / 10 / 10 = m / 1000 from by omega, show m / 10 / 10 = m / 100 from by omega]; rfl
end Go.Proofs.YtigabjibdepoiaaDoor.Tm
