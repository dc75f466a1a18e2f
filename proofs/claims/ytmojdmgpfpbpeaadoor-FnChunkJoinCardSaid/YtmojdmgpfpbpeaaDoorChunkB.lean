/- The walks of isDigit and stdFracSecond. -/
import Derived.Test.YtmojdmgpfpbpeaaDoorChunkA
namespace Go.Proofs.YtmojdmgpfpbpeaaDoor.Tm
open Go.RowKit Go

set_option maxHeartbeats 400000 in
theorem isdig_any (s : ByteArray) (i : Nat) (b : Bool) (w : World) (hs : s.size ≤ 140737488351232) (hi : i ≤ 140737488351232) (hb : ((bl s)[i]?.any isDig) = b) :
    Calls Tryd.prog 30 #[.string s, .int .i64 i] w fun e w' => e = .returned (.bool b) ∧ w = w' := by
  by_cases h : i < s.size
  · rw [List.getElem?_eq_getElem (by rw [bl_length]; exact h), Option.any_some] at hb
    have hb2 : isDig s[i] = b := hb
    rw [isDig] at hb2
    clear hb
    have h2 : ¬ (s.size : Int) ≤ i := by omega
    by_cases h3 : (48 : Int) ≤ ↑s[i].toNat
    · by_cases h4 : (↑s[i].toNat : Int) ≤ 57
      · rw [decide_eq_true (by omega), decide_eq_true (by omega)] at hb2
        subst hb2
        go_enter Tryd.func30, Tryd.ntmps30
        go_wp2
        go_ret
        exact ⟨by simp [h3, h4], rfl⟩
      · rw [decide_eq_true (by omega), decide_eq_false (by omega)] at hb2
        subst hb2
        go_enter Tryd.func30, Tryd.ntmps30
        go_wp2
        go_ret
        exact ⟨by simp [h3, h4], rfl⟩
    · rw [decide_eq_false (by omega)] at hb2
      subst hb2
      go_enter Tryd.func30, Tryd.ntmps30
      go_wp2
      go_ret
      exact ⟨by simp [h3], rfl⟩
  · rw [List.getElem?_eq_none (by rw [bl_length]; omega)] at hb
    subst hb
    have h2 : (s.size : Int) ≤ i := by omega
    go_enter Tryd.func30, Tryd.ntmps30
    go_wp2
    go_ret
    exact ⟨rfl, rfl⟩

theorem wraps_i64 (n : Int) (h₀ : 0 ≤ n) (h₁ : n < 2 ^ 63) : IntKind.i64.wrap n = n := by rw [IntKind.wrap_i64]; omega
theorem i64_nat (a b : Nat) (ha : a < 2 ^ 63) (hb : b < 2 ^ 63) : bits .and .i64 (a : Int) b = ((a &&& b : Nat) : Int) ∧ bits .or .i64 (a : Int) b = ((a ||| b : Nat) : Int) := bits_nat .i64 63 (by decide) wraps_i64 a b ha hb
theorem soff_ret2 {a b : Int} (h : a = b) : Ending.returned (.int .i64 a) = .returned (.int .i64 b) := by rw [h]
theorem mask12 (n : Nat) : n &&& 4095 = n % 4096 := Nat.and_two_pow_sub_one_eq_mod n 12
theorem or16 (a b : Nat) (h : a < 65536) : a ||| (b * 65536) = a + b * 65536 := by
  have := Nat.shiftLeft_add_eq_or_of_lt (b := a) (i := 16) h b
  rw [Nat.shiftLeft_eq] at this
  rw [Nat.or_comm, ← this, Nat.add_comm]
theorem or28 (a : Nat) (h : a < 268435456) : a ||| 268435456 = a + 268435456 := by
  have := Nat.shiftLeft_add_eq_or_of_lt (b := a) (i := 28) h 1
  rw [Nat.shiftLeft_eq] at this
  rw [Nat.or_comm, show (268435456 : Nat) = 1 * 2 ^ 28 from rfl, ← this, Nat.add_comm]
theorem frac_bits (code n : Nat) (hn : n ≤ 140737488351232) (hc : code < 65536) : bits BinOp.or IntKind.i64 (code : Int) (wrap64 (bits BinOp.and IntKind.i64 (n : Int) 4095 * 65536)) = ((code + n % 4096 * 65536 : Nat) : Int) := by
  rw [show (4095 : Int) = ((4095 : Nat) : Int) from rfl, (i64_nat n 4095 (by omega) (by decide)).1, mask12]
  have h1 : wrap64 (((n % 4096 : Nat) : Int) * 65536) = ((n % 4096 * 65536 : Nat) : Int) := by
    unfold wrap64; omega
  rw [h1, (i64_nat code _ (by omega) (by omega)).2, or16 _ _ hc]

set_option maxHeartbeats 400000 in
theorem fracsec (code : Nat) (n c : Int) (m : Nat) (comma : Bool) (w : World) (hm : n = (m : Int)) (hn : m ≤ 140737488351232) (hc : (c == 46) = !comma) (hcode : code < 65536) :
    Calls Tryd.prog 31 #[.int .i64 code, .int .i64 n, .int .i64 c] w fun e w' => e = .returned (.int .i64 (fracStd code m comma : Nat)) ∧ w = w' := by
  subst hm
  have hb := frac_bits code m hn hcode
  have HB := hideP hb; clear hb
  cases comma
  · rw [Bool.not_false] at hc
    go_enter Tryd.func31, Tryd.ntmps31
    go_wp2
    go_ret
    exact ⟨soff_ret2 (by rw [HB.out, fracStd]; simp), rfl⟩
  · rw [Bool.not_true] at hc
    go_enter Tryd.func31, Tryd.ntmps31
    go_wp2
    go_ret
    exact ⟨soff_ret2 (by rw [HB.out, show (268435456 : Int) = ((268435456 : Nat) : Int) from rfl, (i64_nat _ _ (by omega) (by decide)).2, or28 _ (by omega), fracStd]; simp), rfl⟩
end Go.Proofs.YtmojdmgpfpbpeaaDoor.Tm
