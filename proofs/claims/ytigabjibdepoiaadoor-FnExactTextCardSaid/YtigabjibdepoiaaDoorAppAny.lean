/- What appendInt appends, for every number and width. -/
import Derived.Test.YtigabjibdepoiaaDoorAppN
namespace Go.Proofs.YtigabjibdepoiaaDoor.Tm
set_option linter.unusedSimpArgs false
set_option linter.unusedVariables false
open Go.RowKit Go
theorem appInt_any (x wd : Int) (base : Nat) (v : Value) (xs : List Value) (w : World) (hx : -4611686018427387904 ≤ x) (hx2 : x ≤ 9223372036854775807) (hw1 : -2000000 ≤ wd) (hw2 : wd ≤ 2000000)
    (hv : Buf w base v xs) (hsz : xs.length + wd.toNat + 22 ≤ 140737488351232) (hbase : base ≤ w.heap.size) :
    Calls Tryd.prog 105 #[v, .int .i64 x, .int .i64 wd] w (BufPost base v (xs ++ bytes (intL x wd)) w) := by
  rcases Int.lt_or_le x 0 with h | h
  · obtain ⟨m, rfl, hm⟩ : ∃ m : Nat, x = -(m : Int) ∧ 0 < m := ⟨(-x).toNat, by omega, by omega⟩
    have e : intL (-(m : Int)) wd = 45 :: padL 48 m wd := by rw [intL, if_pos h, Int.neg_neg, Int.toNat_natCast]
    rw [e]
    by_cases h2 : wd = 2 ∧ m < 100
    · obtain ⟨rfl, h2⟩ := h2; exact appInt_n2 m base v xs w hm h2 hv (by omega) hbase
    by_cases h4 : wd = 4 ∧ m < 10000
    · obtain ⟨rfl, h4⟩ := h4; exact appInt_n4 m base v xs w hm h4 hv (by omega) hbase
    exact appInt_n m wd base v xs w hm (by omega) hw1 hw2 h2 h4 hv hsz hbase
  · obtain ⟨m, rfl⟩ : ∃ m : Nat, x = (m : Int) := ⟨x.toNat, by omega⟩
    by_cases h2 : wd = 2 ∧ m < 100
    · obtain ⟨rfl, h2⟩ := h2; exact appInt_2 m base v xs w h2 hv (by omega) hbase
    by_cases h4 : wd = 4 ∧ m < 10000
    · obtain ⟨rfl, h4⟩ := h4; exact appInt_4 m base v xs w h4 hv (by omega) hbase
    have e : intL (m : Int) wd = padL 48 m wd := by rw [intL, if_neg (by omega), Int.toNat_natCast]
    rw [e]
    exact appInt_g m wd base v xs w (by omega) hw1 hw2 h2 h4 hv (by omega) hbase
end Go.Proofs.YtigabjibdepoiaaDoor.Tm
